import JvmDerived
import JvmDerived.Pilot.@@N@@Statement
import JvmDerived.Pilot.@@N@@Code
set_option linter.unusedVariables false
set_option linter.unusedSimpArgs false
namespace Jvm.RoadKit
open Sem ClassFile Op Lib Jvm.Stand Jvm.Free Jvm.LawKit
section New
variable {p : Program} {l : Launch} {e : Env} {R : Room} {s : State} {m : MethodId} {args : Array Value} {below : List Frame} {meth : Method} {c : Code} {T : State} {locs : List Loc} {cells slots : Nat}
theorem retI (X : Stand p l e R s m args below meth c T locs cells slots) (hx : p.tables.exec = Jvm.exec) {pc : Nat} {Ls : Array Slot} {z : Int32} {rest : List Value} (hret : meth.sig.returnType = some .int) (hd : decode c.code pc = .ok (.ireturn, 1)) {fs : List Frame}
    (hl : ∀ (f : JFrame) (acts : List Action), f.method = m → f.locked = none → f.entered = [] → (doReturn e (T.setTop f) acts (some (.int z))).1 = T.setFrames fs) : Steps p.tables e below (T.setTop (mkF m pc Ls (.int z :: rest))) (T.setFrames fs) := by
  have hm' : T.vm.method? m = some meth := X.method'
  have hn : narrow .int (.int z) = .int z := rfl
  show Steps p.tables e below (T.setTop { method := m, pc := pc, locals := Ls, stack := _ :: rest, locked := none }) _
  jvm_step X.here [X.here.top, hx, hd, hm', hret, hn]
  first | (intro acts; rw [hl _ acts rfl rfl rfl]) | rw [hl _ _ rfl rfl rfl]
  exact Steps.refl _
end New
end Jvm.RoadKit
namespace Jvm.Pilot.@@N@@
open Jvm Jvm.ClassFile Sem Op Lib Jvm.Free Jvm.Stand Jvm.LawKit Jvm.RoadKit Bundle Jvm.Pilot.@@N@@.Jvm.D
theorem own_retJ {p : Program} {l : Launch} {e : Env} {R : Room} {s : State} {m : MethodId} {args : Array Value} {below : List Frame} {meth : Method} {c : Code} {T : State} {locs : List Loc} {cells slots : Nat} (X : Stand p l e R s m args below meth c T locs cells slots) (hx : p.tables.exec = Jvm.exec) {pc : Nat} {Ls : Array Slot} {z : Int64} {rest : List Value} (hret : meth.sig.returnType = some .long) (hd : decode c.code pc = .ok (.lreturn, 1)) {fs : List Frame}
    (hl : ∀ (f : JFrame) (acts : List Action), f.method = m → f.locked = none → f.entered = [] → (doReturn e (T.setTop f) acts (some (.long z))).1 = T.setFrames fs) : Steps p.tables e below (T.setTop (mkF m pc Ls (.long z :: rest))) (T.setFrames fs) := by
  have hm' : T.vm.method? m = some meth := X.method'
  have hn : narrow .long (.long z) = .long z := rfl
  show Steps p.tables e below (T.setTop { method := m, pc := pc, locals := Ls, stack := _ :: rest, locked := none }) _
  jvm_step X.here [X.here.top, hx, hd, hm', hret, hn]
  first | (intro acts; rw [hl _ acts rfl rfl rfl]) | rw [hl _ _ rfl rfl rfl]
  exact Steps.refl _
theorem own_retD {p : Program} {l : Launch} {e : Env} {R : Room} {s : State} {m : MethodId} {args : Array Value} {below : List Frame} {meth : Method} {c : Code} {T : State} {locs : List Loc} {cells slots : Nat} (X : Stand p l e R s m args below meth c T locs cells slots) (hx : p.tables.exec = Jvm.exec) {pc : Nat} {Ls : Array Slot} {z : UInt64} {rest : List Value} (hret : meth.sig.returnType = some .double) (hd : decode c.code pc = .ok (.dreturn, 1)) {fs : List Frame}
    (hl : ∀ (f : JFrame) (acts : List Action), f.method = m → f.locked = none → f.entered = [] → (doReturn e (T.setTop f) acts (some (.double z))).1 = T.setFrames fs) : Steps p.tables e below (T.setTop (mkF m pc Ls (.double z :: rest))) (T.setFrames fs) := by
  have hm' : T.vm.method? m = some meth := X.method'
  have hn : narrow .double (.double z) = .double z := rfl
  show Steps p.tables e below (T.setTop { method := m, pc := pc, locals := Ls, stack := _ :: rest, locked := none }) _
  jvm_step X.here [X.here.top, hx, hd, hm', hret, hn]
  first | (intro acts; rw [hl _ acts rfl rfl rfl]) | rw [hl _ _ rfl rfl rfl]
  exact Steps.refl _
abbrev own_MF (l : Launch) (y : MethodName) (ws : List Jvm.Cond) (R : Room) (A : Array Value) (Z : State) (h0 : Heap) (Q : Option Value → Heap → List Loc → Prop) : Prop := MetFree l y (head1 ws R) (fun a U => a = A ∧ Z.Warmed39 U.vm ∧ U.heap = h0) (fun _ _ _ _ _ => True) (fun _ U o U' => ∃ v L, o = .returned v ∧ Q v U'.heap L ∧ FrameEnd U o U' L R.cells R.slots)
abbrev own_zl (a b : Value) : List Value := [a, b, .int (0 : Int32), .int (0 : Int32), .int (0 : Int32), .int (0 : Int32), .int (0 : Int32), .int (0 : Int32), .int (0 : Int32), .int (0 : Int32), .int (0 : Int32), .int (0 : Int32), .int (0 : Int32), .int (0 : Int32), .int (0 : Int32), .int (0 : Int32)]
theorem own_w {Z : State} {a0 : Array Value} (hw : ∀ d ∈ tables_1, d.before a0 Z = true) {d : Jvm.Cond} (i : Nat) (h : tables_1[i]? = some d) : d.before a0 Z = true := hw d (List.mem_of_getElem? h)
theorem own_sta_keep {Z : State} {h h' : Heap} {C n d : String} {v : Value} {ws : List Addr} (F : Sta Z h C n d v) (K : Keep h h' ws) (q : ∀ x ∈ ws, ∀ c : Cell, h[x]? = some c → c.vm.isStatics = false) : Sta Z h' C n d v := by
  obtain ⟨cf, i, k, f, st, cell, h1, h2, h3, h4, h5, h6, h7⟩ := F
  exact ⟨cf, i, k, f, st, cell, h1, h2, h3, h4, K.2.1 st cell h5 (fun z => by have := q st z cell h5; rw [h6] at this; cases this), h6, h7⟩
theorem own_ins_keep {Z : State} {h h' : Heap} {a : Addr} {C : String} {b : Bool} {ws : List Addr} (F : Ins Z h a C b) (K : Keep h h' ws) : Ins Z h' a C b := by
  obtain ⟨cell, cT, h1, h2, h3⟩ := F
  obtain ⟨c', e1, e2, e3, -⟩ := K.2.2 a cell h1
  exact ⟨c', cT, e1, h2, by rw [e2, e3]; exact h3⟩
theorem own_pl0 {h : Heap} : ∀ x ∈ ([] : List Addr), ∀ c : Cell, h[x]? = some c → c.vm.isStatics = false := fun _ q => nomatch q
theorem own_plS {h : Heap} {y : Addr} {L : List Addr} (q : ∀ c : Cell, h[y]? = some c → c.vm.isStatics = false) (r : ∀ x ∈ L, ∀ c : Cell, h[x]? = some c → c.vm.isStatics = false) : ∀ x ∈ y :: L, ∀ c : Cell, h[x]? = some c → c.vm.isStatics = false := fun x z => (List.mem_cons.mp z).elim (fun u => u ▸ q) (r x)
theorem own_pl_exa {Z : State} {h : Heap} {a : Addr} {C : String} (F : Exa Z h a C) : ∀ c : Cell, h[a]? = some c → c.vm.isStatics = false := fun c hc => by
  obtain ⟨cell, k, h1, -, -, h4, -⟩ := F; cases h1.symm.trans hc; exact h4
theorem own_pl_fld {Z : State} {h : Heap} {a : Addr} {C n d : String} {v : Value} (F : Fld Z h a C n d v) : ∀ c : Cell, h[a]? = some c → c.vm.isStatics = false := fun c hc => by
  obtain ⟨cell, cf, k, i, f, h1, -, -, -, h5, -⟩ := F; cases h1.symm.trans hc; exact h5
theorem own_pl_arv {Z : State} {h : Heap} {a : Addr} {k : ClassId} {ty : FieldType} {z : Int32} {vs : List Value} {d : Value} (F : Arv Z h a k ty z vs d) : ∀ c : Cell, h[a]? = some c → c.vm.isStatics = false := fun c hc => by
  obtain ⟨cl, A, -⟩ := F; cases A.1.symm.trans hc; exact A.plain
theorem own_isr {s : State} {args : Array Value} {t : Term} (h : (Jvm.Cond.isRef t).value args s none s [] = some true) : ∃ v, t.eval args s none [] s = some v ∧ v.isRef = true := by
  simp only [Cond.value, Option.map_eq_some_iff] at h
  obtain ⟨v, h1, h2⟩ := h
  refine ⟨v, h1, ?_⟩
  cases v <;> first | rfl | cases h2
theorem own_nz {s : State} {args : Array Value} {t : Term} {z : Int32} (ev : t.eval args s none [] s = some (.int z)) (h : (Jvm.Cond.not (.eq t (.int (0 : Int32)))).value args s none s [] = some true) : ¬ (z = (0 : Int32)) := fun q => by
  have z2 : (Jvm.Cond.eq t (.int (0 : Int32))).value args s none s [] = some true := by rw [Cond.eq_ints ev (Term.int_eval 0), q]; rfl
  have h' : ((Jvm.Cond.eq t (.int (0 : Int32))).value args s none s []).map (!·) = some true := h
  rw [z2] at h'
  cases h'
theorem own_len {s : State} {args : Array Value} {t : Term} {a : Addr} {cl : Cell} {ty : FieldType} {z : Int32} (ev : t.eval args s none [] s = some (.ref a)) (A : Arr s s.heap a cl ty) (n3 : (Jvm.Cond.eq (.length t) (.int z)).value args s none s [] = some true) : cl.slots.size < 2 ^ 31 ∧ cl.slots.size.toInt32 = z := by
  have hlen := Cond.eq_int (Cond.before_iff.mpr n3) (Term.int_eval z)
  have hat : s.arrayAt? a = some cl := A.fin (Vm.Alike.refl _)
  have h31 := SBG.length_lt ev hat hlen
  obtain ⟨a', cell, e1, e2, e3⟩ := Term.length_spec hlen
  cases e1.symm.trans ev
  cases e2.symm.trans hat
  exact ⟨h31, (Value.int.inj e3).symm⟩
theorem own_elem {s : State} {args : Array Value} {t u : Term} {a : Addr} {cl : Cell} {ty : FieldType} {i : Int32} {v : Value} (ev : t.eval args s none [] s = some (.ref a)) (A : Arr s s.heap a cl ty) (h : (Jvm.Cond.eq (.elem t (.int i)) u).value args s none s [] = some true) (hu : u.eval args s none [] s = some v) (hv : v.isRef = true) : cl.slots[i.toNatClampNeg]? = some v :=
  (elem_in (Cond.eq_refs (Cond.before_iff.mpr h) hu hv) ev (Term.int_eval i) A.1).2
theorem own_fld {s : State} {args : Array Value} {t : Term} {a : Addr} {C n d : String} {z : Int32} (ev : t.eval args s none [] s = some (.ref a)) (h : (Jvm.Cond.eq (.field t C n d) (.int z)).value args s none s [] = some true) : Fld s s.heap a C n d (.int z) :=
  Fld.start ((fld_at ev).symm.trans (Cond.eq_int (Cond.before_iff.mpr h) (Term.int_eval z)))
theorem own_sta {s : State} {args : Array Value} {C n d K : String} (w1 : (Jvm.Cond.initialized C).before args s = true) (w2 : (Jvm.Cond.laysStatic C n d).before args s = true) (h : (Jvm.Cond.exactly (.static C n d) K).value args s none s [] = some true) : ∃ a : Addr, (Term.static C n d).eval args s none [] s = some (.ref a) ∧ Sta s s.heap C n d (.ref a) ∧ Exa s s.heap a K := by
  obtain ⟨a, ev⟩ := exa_v h
  exact ⟨a, ev, Sta.start ev (Or.inr ⟨w1, w2⟩), Exa.start ev h⟩
theorem own_ne_arv {Z : State} {h : Heap} {a b : Addr} {k k' : ClassId} {ty ty' : FieldType} {n n' : Int32} {vs vs' : List Value} {d d' : Value} (F : Arv Z h a k ty n vs d) (G : Arv Z h b k' ty' n' vs' d') (q : ty ≠ ty') : a ≠ b := fun e => by
  subst e
  obtain ⟨c, ⟨a1, ⟨-, k1, b1, comp, c1⟩, -⟩, -⟩ := F
  obtain ⟨c', ⟨a2, ⟨-, k2, b2, comp', c2⟩, -⟩, -⟩ := G
  cases a1.symm.trans a2
  cases b1.symm.trans b2
  rw [c1] at c2
  injection c2 with _ h
  exact q h
theorem own_privNest {p : Program} {l : Launch} {e : Env} {R : Room} {s : State} {m : MethodId} {args : Array Value} {below : List Frame} {meth : Method} {c : Code} {T : State} {locs : List Loc} {cells slots : Nat} (X : Stand p l e R s m args below meth c T locs cells slots) (hexec : p.tables.exec = Jvm.exec) {own host : String} {index : Nat} {y : MethodName} {bytes : ByteArray} {maxL : Nat} {ret : Option FieldType}
    (hown : s.vm.findClass own = some m.cls) (hlink : (Jvm.Cond.methodLinkNest own index y host).before args s = true) (hinst : (Jvm.Cond.instanceMethod y).before args s = true) (hsel : (Jvm.Cond.selects y.cls y y).before args s = true)
    (hpriv : s.PrivateAt y) (hcode : (Jvm.Cond.code y bytes maxL ret).before args s = true) (hy : y.cls ≠ "java/lang/invoke/MethodHandle" ∧ y.cls ≠ "java/lang/invoke/VarHandle")
    {W : Nat} {Pre : Free.Pt → Array Value → Prop} {Post : Free.Pt → Array Value → Option Value → Free.Pt → Prop} (hK : Free.Back l R p e below s args y 3 W Pre Post)
    {g : JFrame} (hg : g.method = m) (hsize : g.locals.size = c.maxLocals) {s₀ : State} (hcome : Steps p.tables e below s₀ (T.setTop g)) {a : Addr} {cell : Cell} (hcell : T.heap[a]? = some cell) (hobj : ∀ q, cell.vm ≠ .statics q)
    {argsL rest : List Value} (hlen : ∀ sig, parseMethodDescriptor y.desc = some sig → argsL.length = sig.parameters.length)
    (hstack : g.stack = argsL.reverse ++ .ref a :: rest) (hW : 2 * g.monitorRoom + (rest.map fun v => v.category).sum ≤ W) (hdg : decode c.code g.pc = .ok (.invokevirtual index, 3))
    (hpre : ∀ vm₁, s.WarmedH vm₁ → Pre ⟨T.setVm vm₁, locs, cells, slots⟩ (.ref a :: argsL).toArray) :
    ∃ (v : Option Value) (vm₁ : Vm) (B : Free.Pt), s.WarmedH vm₁ ∧ Stand p l e R s m args below meth c B.U B.locs B.cells B.slots ∧ Post ⟨T.setVm vm₁, locs, cells, slots⟩ (.ref a :: argsL).toArray v B ∧ Steps p.tables e below s₀ (B.U.setTop { g with pc := g.pc + 3, stack := v.toList ++ rest }) := by
  obtain ⟨mk, methM, hnamed, hmethM, hstM, habM⟩ := Cond.instanceMethod_spec hinst
  obtain ⟨methM', cM, hmethM', -, -, -, -, -, -, hsigM⟩ := Cond.code_spec hnamed hcode
  cases hmethM.symm.trans hmethM'
  obtain ⟨c2, r2, m2, -, -, q3, -, kP, hkP, hkPi⟩ := Cond.selects_spec hsel
  cases hnamed.symm.trans q3
  obtain ⟨vm₁, X₁, hstep₁⟩ := X.invokevirtualNest hexec hown hlink hnamed hmethM hstM hkP hkPi hy (a := a) (cell := cell) hcell hobj (selectMethod_private hmethM (hpriv mk methM hnamed hmethM)) hmethM habM hkP hkPi (g := g) hg (argsL := argsL) (rest := rest) (hlen _ hsigM) hstack hdg
  obtain ⟨v, B, X', hpost, hsteps⟩ := hK m meth c ⟨T.setVm vm₁, locs, cells, slots⟩ { g with stack := rest } (.invokevirtual index) mk (.ref a :: argsL).toArray X₁ hg hsize hdg hW (X₁.named hnamed) (hpre vm₁ X₁.warmed)
  exact ⟨v, vm₁, B, X₁.warmed, X', hpost, (hcome.trans (hstep₁ _ fun acts => by rw [doInvoke_state]; exact Steps.refl _)).trans hsteps⟩
theorem own_selp {y : MethodName} {Z : State} {a0 : Array Value} {n : Nat} (hy : y.cls ≠ "java/lang/invoke/MethodHandle" ∧ y.cls ≠ "java/lang/invoke/VarHandle") (hins : (Jvm.Cond.instantiable y.cls n).before a0 Z = true) (hpriv : (Jvm.Cond.privateMethod y).before a0 Z = true) (hinst : (Jvm.Cond.instanceMethod y).before a0 Z = true) : (Jvm.Cond.selects y.cls y y).before a0 Z = true := by
  obtain ⟨c, k, hc, hk, -, hniab, -, -⟩ := Cond.instantiable_spec hins
  have hni : k.isInterface = false := (Bool.or_eq_false_iff.mp hniab).1
  obtain ⟨mk, methM, hnamed, hmethM, -, -⟩ := Cond.instanceMethod_spec hinst
  have hfound : Z.methodFound? y.cls y.name y.desc = some mk := State.methodFound?_of_named hnamed hy
  have hcls : mk.cls = c := Option.some.inj ((findClass_of_methodNamed hnamed).symm.trans hc)
  have hsel : selectMethod {} Z.vm c mk = .method mk := selectMethod_private hmethM (Cond.privateMethod_at hpriv mk methM hnamed hmethM)
  simp only [Cond.before, Cond.holds, Cond.value, hc, hfound, hnamed, hsel, hcls, hk]
  simp; exact hni
theorem own_catI (z : Int32) : (Value.int z).category = 1 := rfl
theorem own_catJ (z : Int64) : (Value.long z).category = 2 := rfl
theorem own_catR (z : Addr) : (Value.ref z).category = 1 := rfl
theorem own_catN : Value.null.category = 1 := rfl
theorem own_catD (z : UInt64) : (Value.double z).category = 2 := rfl
theorem own_same {Z : State} {a0 : Array Value} {y x2 y2 : MethodName} {K : String} (hi : (Jvm.Cond.instanceMethod y).before a0 Z = true) (hs : (Jvm.Cond.selects K x2 y2).before a0 Z = true) (e : y2.cls = y.cls) (hx : y.cls ≠ "java/lang/invoke/MethodHandle" ∧ y.cls ≠ "java/lang/invoke/VarHandle") : (Jvm.Cond.sameMethod y.cls y.cls y.name y.desc).before a0 Z = true := by
  obtain ⟨mk, meth, hn, -, -, -⟩ := Cond.instanceMethod_spec hi
  obtain ⟨c2, r2, m2, q1, q2, q3, q4, kP, hkP, hkPi⟩ := Cond.selects_spec hs
  have hf := State.methodFound?_of_named hn hx
  have hc := findClass_of_methodNamed hn
  have hc2 := findClass_of_methodNamed q3
  rw [e] at hc2
  have em : m2.cls = mk.cls := Option.some.inj (hc2.symm.trans hc)
  rw [em] at hkP
  have hn' : Z.methodNamed? ⟨y.cls, y.name, y.desc⟩ = some mk := hn
  simp [Cond.before, Cond.holds, Cond.value, hc, hf, hn', hkP, hkPi]
theorem own_nf {Z : State} {a0 : Array Value} {y x2 y2 : MethodName} {K : String} (hs : (Jvm.Cond.selects K x2 y2).before a0 Z = true) (e : y2.cls = y.cls) : NotFace Z y := fun r0 h0 => by
  obtain ⟨c2, r2, m2, q1, q2, q3, q4, kP, hkP, hkPi⟩ := Cond.selects_spec hs
  have hc := findClass_of_methodNamed h0
  have hc2 := findClass_of_methodNamed q3
  rw [e] at hc2
  have em : m2.cls = r0.cls := Option.some.inj (hc2.symm.trans hc)
  exact ⟨kP, em ▸ hkP, hkPi⟩
theorem own_declares {Z : State} {a0 : Array Value} {y : MethodName} {bytes : ByteArray} {maxL : Nat} {r : Option FieldType} (hi : (Jvm.Cond.instanceMethod y).before a0 Z = true) (hc : (Jvm.Cond.code y bytes maxL r).before a0 Z = true) : (Jvm.Cond.declares y).before a0 Z = true := by
  obtain ⟨mk, meth, hn, hm, hst, -⟩ := Cond.instanceMethod_spec hi
  obtain ⟨m2, cM, q1, -, -, -, -, -, -, hsig⟩ := Cond.code_spec hn hc
  cases hm.symm.trans q1
  simp [Cond.before, Cond.holds, Cond.value, hn, hm, hst, hsig]
def own_g (l : List Int32) (i : Int32) : Int32 := l.getD i.toNatClampNeg 0
def own_p (l : List Int32) (i v : Int32) : List Int32 := l.set i.toNatClampNeg v
def own_v (l : List Int32) : List Value := l.map Value.int
abbrev own_in (n : Int32) : Prop := ¬ n < 0 ∧ n < (16 : Int32)
theorem own_vg (l : List Int32) (i : Int32) : (own_v l).getD i.toNatClampNeg (.int (0 : Int32)) = .int (own_g l i) := by
  simp only [own_v, own_g, List.getD_eq_getElem?_getD, List.getElem?_map]
  cases l[i.toNatClampNeg]? <;> rfl
theorem own_vp (l : List Int32) (i v : Int32) : own_v (own_p l i v) = (own_v l).set i.toNatClampNeg (.int v) := by
  simp only [own_v, own_p, List.map_set]
theorem own_n16 {n : Int32} (h : own_in n) : n.toNatClampNeg < 16 := by
  have h1 := h.1
  have h2 := h.2
  rw [Int32.lt_iff_toInt_lt] at h1 h2
  have e0 : (0 : Int32).toInt = 0 := rfl
  have e1 : (16 : Int32).toInt = 16 := rfl
  simp only [Int32.toNatClampNeg]; omega
theorem own_vlt {n : Int32} {l : List Int32} (h : own_in n) (q : l.length = 16) : n.toNatClampNeg < (own_v l).length := by
  simp only [own_v, List.length_map, q]; exact own_n16 h
theorem own_16p {l : List Int32} {i v : Int32} (q : l.length = 16) : (own_p l i v).length = 16 := by simp only [own_p, List.length_set, q]
def own_rng (l : List Int32) : Prop := l.length = 16 ∧ ∀ i, own_in (own_g l i)
theorem own_rngp {l : List Int32} {i v : Int32} (h : own_rng l) (q : own_in v) : own_rng (own_p l i v) := by
  refine ⟨own_16p h.1, fun j => ?_⟩
  by_cases e : i.toNatClampNeg = j.toNatClampNeg
  · by_cases k : j.toNatClampNeg < l.length
    · simp only [own_g, own_p, e, List.getD_eq_getElem?_getD, List.getElem?_set_self k, Option.getD_some]; exact q
    · have := h.2 j
      simp only [own_g, own_p, e, List.getD_eq_getElem?_getD] at this ⊢
      rw [List.getElem?_eq_none (by simp; omega)]
      rw [List.getElem?_eq_none (by omega)] at this
      exact this
  · have := h.2 j
    simp only [own_g, own_p, List.getD_eq_getElem?_getD, List.getElem?_set_ne e] at this ⊢
    exact this
def own_gk (l : List Nat) (i : Int32) : Nat := l.getD i.toNatClampNeg 6
def own_pk (l : List Nat) (i : Int32) (x : Nat) : List Nat := l.set i.toNatClampNeg x
def own_K0 : List Nat := List.replicate 16 6
def own_Kar (Z : State) (h : Heap) (a : Addr) (k : ClassId) (K : List Nat) (val : Nat → UInt64) : Prop := ∃ cl : Cell, Arr Z h a cl .double ∧ (cl.cls = k ∧ K.length = 16) ∧ cl.slots.size = (16 : Int32).toNatClampNeg ∧ ¬ (16 : Int32) < 0 ∧ ∀ i, i < cl.slots.size → cl.slots[i]? = some (.double (val (K.getD i 6)))
theorem own_Kar.lt {Z : State} {h : Heap} {a : Addr} {k : ClassId} {K : List Nat} {val : Nat → UInt64} (F : own_Kar Z h a k K val) : a < h.size := by obtain ⟨c, A, -⟩ := F; exact A.lt
theorem own_Kar.ext {Z : State} {h h' : Heap} {a : Addr} {k : ClassId} {K : List Nat} {val : Nat → UInt64} (F : own_Kar Z h a k K val) (E : Ext h h') : own_Kar Z h' a k K val := by obtain ⟨c, A, r⟩ := F; exact ⟨c, A.ext E, r⟩
theorem own_Kar.other {Z : State} {h h' : Heap} {a b : Addr} {k : ClassId} {K : List Nat} {val : Nat → UInt64} {sl : Nat} {v : Value} (F : own_Kar Z h b k K val) (W : Wr h h' a sl v) (q : b ≠ a) : own_Kar Z h' b k K val := by obtain ⟨c, A, r⟩ := F; exact ⟨c, A.other W q, r⟩
theorem own_Kar.keep {Z : State} {h h' : Heap} {a : Addr} {k : ClassId} {K : List Nat} {val : Nat → UInt64} {ws : List Addr} (F : own_Kar Z h a k K val) (K' : Keep h h' ws) (q : a ∉ ws) : own_Kar Z h' a k K val := by obtain ⟨c, A, r⟩ := F; exact ⟨c, ⟨K'.2.1 a c A.1 q, A.2⟩, r⟩
theorem own_Kar.fresh {Z : State} {h : Heap} {a : Addr} {k : ClassId} {val : Nat → UInt64} (A : Arr Z h a (newA k .double (16 : Int32)) .double) (q : val 6 = 0) : own_Kar Z h a k own_K0 val := ⟨_, A, ⟨rfl, rfl⟩, sz_new _ _ _, by decide, fun i hi => by
  rw [sz_new] at hi
  have h16 : i < 16 := hi
  have e : own_K0.getD i 6 = 6 := by
    unfold own_K0; rw [List.getD_eq_getElem?_getD, List.getElem?_replicate, if_pos h16]; rfl
  rw [e, q]; simp [newA, h16, defaultValue]⟩
theorem own_Kar.set {Z : State} {h h' : Heap} {a : Addr} {k : ClassId} {K : List Nat} {val : Nat → UInt64} {j : Int32} {x : Nat} {xv : UInt64} {c : Cell} (A : Arr Z h a c .double) (q1 : c.cls = k ∧ K.length = 16) (S : c.slots.size = (16 : Int32).toNatClampNeg) (q3 : ¬ (16 : Int32) < 0) (H : ∀ i, i < c.slots.size → c.slots[i]? = some (.double (val (K.getD i 6)))) (hj : own_in j) (hx : xv = val x) (W : Wr h h' a j.toNatClampNeg (.double xv)) : own_Kar Z h' a k (own_pk K j x) val := by
  refine ⟨_, A.same W, ⟨q1.1, by rw [own_pk, List.length_set]; exact q1.2⟩, by rw [sz_set]; exact S, q3, fun i hi => ?_⟩
  rw [sz_set] at hi
  have n16 := own_n16 hj
  by_cases u : i = j.toNatClampNeg
  · subst u
    have e : (own_pk K j x).getD j.toNatClampNeg 6 = x := by
      rw [own_pk, List.getD_eq_getElem?_getD, List.getElem?_set_self (by rw [q1.2]; exact n16)]; rfl
    rw [e, ← hx]; simp [Cell.setSlot, hi]
  · have := H i hi
    have e : (own_pk K j x).getD i 6 = K.getD i 6 := by
      rw [own_pk, List.getD_eq_getElem?_getD, List.getElem?_set_ne (fun q => u q.symm), ← List.getD_eq_getElem?_getD]
    rw [e]
    simp only [Cell.setSlot]
    rw [Array.getElem?_setIfInBounds_ne (fun e => u e.symm)]; exact this
theorem own_pl_kar {Z : State} {h : Heap} {a : Addr} {k : ClassId} {K : List Nat} {val : Nat → UInt64} (F : own_Kar Z h a k K val) : ∀ c : Cell, h[a]? = some c → c.vm.isStatics = false := fun c hc => by
  obtain ⟨cl, A, -⟩ := F; cases A.1.symm.trans hc; exact A.plain
theorem own_ne_kar {Z : State} {h : Heap} {a b : Addr} {C : String} {m : Nat} {a0 : Array Value} {k : ClassId} {K : List Nat} {val : Nat → UInt64} (E : Exa Z h a C) (w : (Jvm.Cond.instantiable C m).before a0 Z = true) (F : own_Kar Z h b k K val) : a ≠ b := by
  obtain ⟨c, A, -⟩ := F; exact ne_arr E w A
theorem own_ne_kv {Z : State} {h : Heap} {a b : Addr} {k k' : ClassId} {ty : FieldType} {n : Int32} {vs : List Value} {d : Value} {K : List Nat} {val : Nat → UInt64} (F : Arv Z h a k ty n vs d) (G : own_Kar Z h b k' K val) (q : ty ≠ .double) : a ≠ b := fun e => by
  subst e
  obtain ⟨c, ⟨a1, ⟨-, k1, b1, comp, c1⟩, -⟩, -⟩ := F
  obtain ⟨c', ⟨a2, ⟨-, k2, b2, comp', c2⟩, -⟩, -⟩ := G
  cases a1.symm.trans a2
  cases b1.symm.trans b2
  rw [c1] at c2
  injection c2 with _ h
  exact q h
abbrev own_Q := List Int32 × List Int32 × List Int32 × List Int32
def own_mx (a b : Int32) : Int32 := if a < b then b else a
def own_uT (L R C T : List Int32) (n : Int32) : List Int32 := own_p T n ((own_g T (own_g L n) + own_g T (own_g R n)) + own_g C n)
def own_uH (L R H : List Int32) (n : Int32) : List Int32 := own_p H n (nar .byte (((own_mx (own_g H (own_g L n)) (own_g H (own_g R n))) + (1 : Int32)).toInt8.toInt32))
def own_fx (L R C T H : List Int32) (n t : Int32) : own_Q := (L, R, own_uT L R C (own_uT L R C T n) t, own_uH L R (own_uH L R H n) t)
def own_rr (L R C T H : List Int32) (n : Int32) : own_Q := own_fx (own_p L n (own_g R (own_g L n))) (own_p R (own_g L n) n) C T H n (own_g L n)
def own_rl (L R C T H : List Int32) (n : Int32) : own_Q := own_fx (own_p L (own_g R n) n) (own_p R n (own_g L (own_g R n))) C T H n (own_g R n)
def own_b1 (q : own_Q) (C : List Int32) (n t : Int32) : own_Q × Int32 := (own_rr (own_p q.1 n t) q.2.1 C q.2.2.1 q.2.2.2 n, own_g (own_p q.1 n t) n)
def own_b2 (q : own_Q) (C : List Int32) (n t : Int32) : own_Q × Int32 := (own_rl q.1 (own_p q.2.1 n t) C q.2.2.1 q.2.2.2 n, own_g (own_p q.2.1 n t) n)
def own_bal (L R C T H : List Int32) (n : Int32) : own_Q × Int32 :=
  if (1 : Int32) < (own_g H (own_g L n) - own_g H (own_g R n)) then
    (if own_g H (own_g L (own_g L n)) < own_g H (own_g R (own_g L n)) then own_b1 (own_rl L R C T H (own_g L n)) C n (own_g R (own_g L n)) else (own_rr L R C T H n, own_g L n))
  else if (own_g H (own_g L n) - own_g H (own_g R n)) < (-1 : Int32) then
    (if own_g H (own_g R (own_g R n)) < own_g H (own_g L (own_g R n)) then own_b2 (own_rr L R C T H (own_g R n)) C n (own_g L (own_g R n)) else (own_rl L R C T H n, own_g R n))
  else ((L, R, own_uT L R C T n, own_uH L R H n), n)
def own_s1 (q : own_Q × Int32) (b : Int32) : (own_Q × Int32) × Int32 := ((q.1, if own_g q.1.2.2.2 q.2 = b then 0 else 1), q.2)
def own_set (L R C T H : List Int32) (r n d : Int32) : (own_Q × Int32) × Int32 := if r = (0 : Int32) then (((L, R, own_p T n (own_g T n + d), H), r), n) else own_s1 (own_bal L R C T H n) (own_g H n)
section
variable {p : Program} {l : Launch} {e : Env} {R : Room} {s : State} {m : MethodId} {args : Array Value} {below : List Frame} {meth : Method} {c : Code} {T : State} {locs : List Loc} {cells slots : Nat} {Z : State} {h : Heap} {a : Addr} {k : ClassId} {li : List Int32} {j : Int32} {pc : Nat} {Ls : Array Slot} {rest : List Value} {target : State}
theorem own_ia (X : Stand p l e R s m args below meth c T locs cells slots) (hx : p.tables.exec = Jvm.exec) (hZ : Z.Warmed39 s.vm) (eT : T.heap = h) (F : Arv Z h a k .int (16 : Int32) (own_v li) (.int (0 : Int32))) (ib : own_in j) (hd : decode c.code pc = .ok (.iaload, 1))
    (hr : Steps p.tables e below (T.setTop (mkF m (pc + 1) Ls (.int (own_g li j) :: rest))) target) : Steps p.tables e below (T.setTop (mkF m pc Ls (.int j :: .ref a :: rest))) target := by
  obtain ⟨cl, Ar, qc, S, M, Hh, G⟩ := F
  have hin := inb_of S ib
  exact X.iaload hx (j := j) (v := (.int (own_g li j))) (by rw [eT]; exact Ar.1) (State.isArrayOf_alike hZ.alike Ar.2.1) Ar.2.2 hin (Hh.at hin (own_vg _ _)) (g := mkF m pc Ls (.int j :: .ref a :: rest)) rfl rfl hd _ hr
theorem own_ba (X : Stand p l e R s m args below meth c T locs cells slots) (hx : p.tables.exec = Jvm.exec) (hZ : Z.Warmed39 s.vm) (eT : T.heap = h) (F : Arv Z h a k .byte (16 : Int32) (own_v li) (.int (0 : Int32))) (ib : own_in j) (hd : decode c.code pc = .ok (.baload, 1))
    (hr : Steps p.tables e below (T.setTop (mkF m (pc + 1) Ls (.int (own_g li j) :: rest))) target) : Steps p.tables e below (T.setTop (mkF m pc Ls (.int j :: .ref a :: rest))) target := by
  obtain ⟨cl, Ar, qc, S, M, Hh, G⟩ := F
  have hin := inb_of S ib
  exact X.baloadBytes hx (j := j) (v := (.int (own_g li j))) (by rw [eT]; exact Ar.1) (State.isArrayOf_alike hZ.alike Ar.2.1) Ar.2.2 hin (Hh.at hin (own_vg _ _)) (g := mkF m pc Ls (.int j :: .ref a :: rest)) rfl rfl hd _ hr
theorem own_da {K : List Nat} {val : Nat → UInt64} (X : Stand p l e R s m args below meth c T locs cells slots) (hx : p.tables.exec = Jvm.exec) (hZ : Z.Warmed39 s.vm) (eT : T.heap = h) (F : own_Kar Z h a k K val) (ib : own_in j) (hd : decode c.code pc = .ok (.daload, 1))
    (hr : Steps p.tables e below (T.setTop (mkF m (pc + 1) Ls (.double (val (own_gk K j)) :: rest))) target) : Steps p.tables e below (T.setTop (mkF m pc Ls (.int j :: .ref a :: rest))) target := by
  obtain ⟨cl, Ar, qc, S, M, Hh⟩ := F
  have hin := inb_of S ib
  exact X.daload hx (j := j) (v := (.double (val (own_gk K j)))) (by rw [eT]; exact Ar.1) (State.isArrayOf_alike hZ.alike Ar.2.1) Ar.2.2 hin (Hh _ (Nat.lt_of_not_le fun y => hin (Or.inr y))) (g := mkF m pc Ls (.int j :: .ref a :: rest)) rfl rfl hd _ hr
end
abbrev own_W := List Int32 × List Int32 × List Int32 × List Int32 × List Int32 × List Nat × Int32 × Int32 × Int32
def own_new (W : own_W) (x : Nat) : own_W × Int32 := (⟨own_p W.1 W.2.2.2.2.2.2.1 0, own_p W.2.1 W.2.2.2.2.2.2.1 0, own_p W.2.2.1 W.2.2.2.2.2.2.1 1, own_p W.2.2.2.1 W.2.2.2.2.2.2.1 1, own_p W.2.2.2.2.1 W.2.2.2.2.2.2.1 1, own_pk W.2.2.2.2.2.1 W.2.2.2.2.2.2.1 x, W.2.2.2.2.2.2.1 + 1, W.2.2.2.2.2.2.2.1, 1⟩, W.2.2.2.2.2.2.1)
def own_fw (w : (own_Q × Int32) × Int32) (q : own_W) (C : List Int32) : own_W × Int32 := (⟨w.1.1.1, w.1.1.2.1, C, w.1.1.2.2.1, w.1.1.2.2.2, q.2.2.2.2.2.1, q.2.2.2.2.2.2.1, q.2.2.2.2.2.2.2.1, w.1.2⟩, w.2)
def own_fin (q : own_W) (L R C : List Int32) (n d : Int32) : own_W × Int32 := own_fw (own_set L R C q.2.2.2.1 q.2.2.2.2.1 q.2.2.2.2.2.2.2.2 n d) q C
def own_il (q : own_W × Int32) (n d : Int32) : own_W × Int32 := own_fin q.1 (own_p q.1.1 n q.2) q.1.2.1 q.1.2.2.1 n d
def own_ir (q : own_W × Int32) (n d : Int32) : own_W × Int32 := own_fin q.1 q.1.1 (own_p q.1.2.1 n q.2) q.1.2.2.1 n d
def own_insS (rec : own_W → Int32 → own_W × Int32) (cc : Nat → Nat → Int32) (x : Nat) (W : own_W) (n : Int32) : own_W × Int32 :=
  if n = (0 : Int32) then own_new W x
  else if cc x (own_gk W.2.2.2.2.2.1 n) < (0 : Int32) then own_il (rec W (own_g W.1 n)) n 1
  else if (0 : Int32) < cc x (own_gk W.2.2.2.2.2.1 n) then own_ir (rec W (own_g W.2.1 n)) n 1
  else own_fin W W.1 W.2.1 (own_p W.2.2.1 n (own_g W.2.2.1 n + 1)) n 1
def own_ins0 (cc : Nat → Nat → Int32) (x : Nat) (W : own_W) (_n : Int32) : own_W × Int32 := own_new W x
def own_ins1 (cc : Nat → Nat → Int32) (x : Nat) := own_insS (own_ins0 cc x) cc x
def own_ins2 (cc : Nat → Nat → Int32) (x : Nat) := own_insS (own_ins1 cc x) cc x
def own_ins3 (cc : Nat → Nat → Int32) (x : Nat) := own_insS (own_ins2 cc x) cc x
def own_fre (W : own_W) (n : Int32) : own_W := ⟨own_p W.1 n W.2.2.2.2.2.2.2.1, own_p W.2.1 n 0, own_p W.2.2.1 n 0, own_p W.2.2.2.1 n 0, W.2.2.2.2.1, W.2.2.2.2.2.1, W.2.2.2.2.2.2.1, n, 1⟩
def own_ul1 (W : own_W) (n _o : Int32) : own_W × Int32 := (own_fre W n, own_g W.2.1 n)
def own_ul2 (W : own_W) (n o : Int32) : own_W × Int32 := if own_g W.1 n = (0 : Int32) then (own_fre W n, own_g W.2.1 n) else own_il (own_ul1 W (own_g W.1 n) o) n (-o)
def own_lo (L : List Int32) (m : Int32) : Int32 := if own_g L m = (0 : Int32) then m else own_g L m
def own_u1 (W : own_W) (n lo : Int32) : own_W := ⟨W.1, W.2.1, own_p W.2.2.1 n (own_g W.2.2.1 lo), W.2.2.2.1, W.2.2.2.2.1, own_pk W.2.2.2.2.2.1 n (own_gk W.2.2.2.2.2.1 lo), W.2.2.2.2.2.2.1, W.2.2.2.2.2.2.2.1, W.2.2.2.2.2.2.2.2⟩
def own_u2 (W : own_W) (n : Int32) : own_W × Int32 := own_ir (own_ul2 W (own_g W.2.1 n) (own_g W.2.2.1 n)) n (-1)
def own_unl (W : own_W) (n : Int32) : own_W × Int32 :=
  if own_g W.1 n = (0 : Int32) then (own_fre W n, own_g W.2.1 n)
  else if own_g W.2.1 n = (0 : Int32) then (own_fre W n, own_g W.1 n)
  else own_u2 (own_u1 W n (own_lo W.1 (own_g W.2.1 n))) n
def own_delS (rec : own_W → Int32 → own_W × Int32) (cc : Nat → Nat → Int32) (x : Nat) (W : own_W) (n : Int32) : own_W × Int32 :=
  if cc x (own_gk W.2.2.2.2.2.1 n) < (0 : Int32) then own_il (rec W (own_g W.1 n)) n (-1)
  else if (0 : Int32) < cc x (own_gk W.2.2.2.2.2.1 n) then own_ir (rec W (own_g W.2.1 n)) n (-1)
  else if (1 : Int32) < own_g W.2.2.1 n then own_fin W W.1 W.2.1 (own_p W.2.2.1 n (own_g W.2.2.1 n - 1)) n (-1)
  else own_unl W n
def own_del0 (cc : Nat → Nat → Int32) (x : Nat) (W : own_W) (n : Int32) : own_W × Int32 := (W, n)
def own_del1 (cc : Nat → Nat → Int32) (x : Nat) := own_delS (own_del0 cc x) cc x
def own_del2 (cc : Nat → Nat → Int32) (x : Nat) := own_delS (own_del1 cc x) cc x
def own_del3 (cc : Nat → Nat → Int32) (x : Nat) := own_delS (own_del2 cc x) cc x
def own_wayS (rec : Int32 → Bool) (cq : Nat → Int32) (K : List Nat) (L R : List Int32) (n : Int32) : Bool :=
  if n = (0 : Int32) then true else (decide (own_gk K n < 5) && (if cq (own_gk K n) < (0 : Int32) then rec (own_g L n) else if (0 : Int32) < cq (own_gk K n) then rec (own_g R n) else true))
def own_way0 (n : Int32) : Bool := decide (n = (0 : Int32))
def own_way1 (cq : Nat → Int32) (K : List Nat) (L R : List Int32) := own_wayS own_way0 cq K L R
def own_way2 (cq : Nat → Int32) (K : List Nat) (L R : List Int32) := own_wayS (own_way1 cq K L R) cq K L R
def own_way3 (cq : Nat → Int32) (K : List Nat) (L R : List Int32) := own_wayS (own_way2 cq K L R) cq K L R
theorem own_way_k {rec : Int32 → Bool} {cq : Nat → Int32} {K : List Nat} {L R : List Int32} {n : Int32} (h : own_wayS rec cq K L R n = true) (q : ¬ n = (0 : Int32)) : own_gk K n < 5 := by
  simp only [own_wayS, if_neg q, Bool.and_eq_true, decide_eq_true_eq] at h; exact h.1
theorem own_way_l {rec : Int32 → Bool} {cq : Nat → Int32} {K : List Nat} {L R : List Int32} {n : Int32} (h : own_wayS rec cq K L R n = true) (q : ¬ n = (0 : Int32)) (c : cq (own_gk K n) < (0 : Int32)) : rec (own_g L n) = true := by
  simp only [own_wayS, if_neg q, if_pos c, Bool.and_eq_true] at h; exact h.2
theorem own_way_r {rec : Int32 → Bool} {cq : Nat → Int32} {K : List Nat} {L R : List Int32} {n : Int32} (h : own_wayS rec cq K L R n = true) (q : ¬ n = (0 : Int32)) (c : ¬ cq (own_gk K n) < (0 : Int32)) (c' : (0 : Int32) < cq (own_gk K n)) : rec (own_g R n) = true := by
  simp only [own_wayS, if_neg q, if_neg c, if_pos c', Bool.and_eq_true] at h; exact h.2
theorem own_way_0 {n : Int32} (h : own_way0 n = true) : n = (0 : Int32) := of_decide_eq_true h
def own_low1 (L : List Int32) (n : Int32) : Bool := decide (own_g L n = (0 : Int32))
def own_low2 (L : List Int32) (n : Int32) : Bool := decide (own_g L n = (0 : Int32)) || own_low1 L (own_g L n)
def own_unp (L R : List Int32) (n : Int32) : Bool := decide (own_g L n = (0 : Int32)) || (decide (own_g R n = (0 : Int32)) || own_low2 L (own_g R n))
def own_hitS (rec : Int32 → Bool) (cq : Nat → Int32) (K : List Nat) (L R C : List Int32) (n : Int32) : Bool :=
  if n = (0 : Int32) then false else (decide (own_gk K n < 5) && (if cq (own_gk K n) < (0 : Int32) then rec (own_g L n) else if (0 : Int32) < cq (own_gk K n) then rec (own_g R n) else decide ((1 : Int32) < own_g C n) || own_unp L R n))
def own_hit0 (_n : Int32) : Bool := false
def own_hit1 (cq : Nat → Int32) (K : List Nat) (L R C : List Int32) := own_hitS own_hit0 cq K L R C
def own_hit2 (cq : Nat → Int32) (K : List Nat) (L R C : List Int32) := own_hitS (own_hit1 cq K L R C) cq K L R C
def own_hit3 (cq : Nat → Int32) (K : List Nat) (L R C : List Int32) := own_hitS (own_hit2 cq K L R C) cq K L R C
theorem own_hit_n {rec : Int32 → Bool} {cq : Nat → Int32} {K : List Nat} {L R C : List Int32} {n : Int32} (h : own_hitS rec cq K L R C n = true) : ¬ n = (0 : Int32) := fun q => by
  simp only [own_hitS, if_pos q] at h; exact Bool.noConfusion h
theorem own_hit_k {rec : Int32 → Bool} {cq : Nat → Int32} {K : List Nat} {L R C : List Int32} {n : Int32} (h : own_hitS rec cq K L R C n = true) : own_gk K n < 5 := by
  simp only [own_hitS, if_neg (own_hit_n h), Bool.and_eq_true, decide_eq_true_eq] at h; exact h.1
theorem own_hit_l {rec : Int32 → Bool} {cq : Nat → Int32} {K : List Nat} {L R C : List Int32} {n : Int32} (h : own_hitS rec cq K L R C n = true) (c : cq (own_gk K n) < (0 : Int32)) : rec (own_g L n) = true := by
  simp only [own_hitS, if_neg (own_hit_n h), if_pos c, Bool.and_eq_true] at h; exact h.2
theorem own_hit_r {rec : Int32 → Bool} {cq : Nat → Int32} {K : List Nat} {L R C : List Int32} {n : Int32} (h : own_hitS rec cq K L R C n = true) (c : ¬ cq (own_gk K n) < (0 : Int32)) (c' : (0 : Int32) < cq (own_gk K n)) : rec (own_g R n) = true := by
  simp only [own_hitS, if_neg (own_hit_n h), if_neg c, if_pos c', Bool.and_eq_true] at h; exact h.2
theorem own_hit_u {rec : Int32 → Bool} {cq : Nat → Int32} {K : List Nat} {L R C : List Int32} {n : Int32} (h : own_hitS rec cq K L R C n = true) (c : ¬ cq (own_gk K n) < (0 : Int32)) (c' : ¬ (0 : Int32) < cq (own_gk K n)) (d : ¬ (1 : Int32) < own_g C n) : own_unp L R n = true := by
  simp only [own_hitS, if_neg (own_hit_n h), if_neg c, if_neg c', Bool.and_eq_true, decide_eq_false d, Bool.false_or] at h; exact h.2
theorem own_unp_w {L R : List Int32} {n : Int32} (h : own_unp L R n = true) (a : ¬ own_g L n = (0 : Int32)) (b : ¬ own_g R n = (0 : Int32)) : own_low2 L (own_g R n) = true := by
  simpa only [own_unp, decide_eq_false a, decide_eq_false b, Bool.false_or] using h
theorem own_low_1 {L : List Int32} {n : Int32} (h : own_low1 L n = true) : own_g L n = (0 : Int32) := of_decide_eq_true h
theorem own_low_2 {L : List Int32} {n : Int32} (h : own_low2 L n = true) (a : ¬ own_g L n = (0 : Int32)) : own_low1 L (own_g L n) = true := by
  simpa only [own_low2, decide_eq_false a, Bool.false_or] using h
def own_cbS (rec : Int32 → Int32 → Int32) (cq : Nat → Int32) (W : own_W) (b n : Int32) : Int32 :=
  if n = (0 : Int32) then b
  else if cq (own_gk W.2.2.2.2.2.1 n) < (0 : Int32) then rec b (own_g W.1 n)
  else if (0 : Int32) < cq (own_gk W.2.2.2.2.2.1 n) then rec (b + (own_g W.2.2.2.1 (own_g W.1 n) + own_g W.2.2.1 n)) (own_g W.2.1 n)
  else b + own_g W.2.2.2.1 (own_g W.1 n)
def own_cb0 (b _n : Int32) : Int32 := b
def own_cb1 (cq : Nat → Int32) (W : own_W) := own_cbS own_cb0 cq W
def own_cb2 (cq : Nat → Int32) (W : own_W) := own_cbS (own_cb1 cq W) cq W
def own_cb3 (cq : Nat → Int32) (W : own_W) := own_cbS (own_cb2 cq W) cq W
def own_cnS (rec : Int32 → Int32) (cq : Nat → Int32) (W : own_W) (n : Int32) : Int32 :=
  if n = (0 : Int32) then 0
  else if cq (own_gk W.2.2.2.2.2.1 n) < (0 : Int32) then rec (own_g W.1 n)
  else if (0 : Int32) < cq (own_gk W.2.2.2.2.2.1 n) then rec (own_g W.2.1 n)
  else own_g W.2.2.1 n
def own_cn0 (_n : Int32) : Int32 := 0
def own_cn1 (cq : Nat → Int32) (W : own_W) := own_cnS own_cn0 cq W
def own_cn2 (cq : Nat → Int32) (W : own_W) := own_cnS (own_cn1 cq W) cq W
def own_cn3 (cq : Nat → Int32) (W : own_W) := own_cnS (own_cn2 cq W) cq W
def own_z16 : List Int32 := [0, 0, 0, 0, 0, 0, 0, 0, 0, 0, 0, 0, 0, 0, 0, 0]
def own_q0 : own_W × Int32 := (⟨own_z16, own_z16, own_z16, own_z16, own_z16, own_K0, 1, 0, 0⟩, 0)
def own_rs (W : own_W) : own_W := ⟨W.1, W.2.1, W.2.2.1, W.2.2.2.1, W.2.2.2.2.1, W.2.2.2.2.2.1, W.2.2.2.2.2.2.1, 0, 0⟩
def own_st (cc : Nat → Nat → Int32) (x : Nat) (q : own_W × Int32) : own_W × Int32 := own_ins3 cc x (own_rs q.1) q.2
def own_dt (cc : Nat → Nat → Int32) (x : Nat) (q : own_W × Int32) : own_W × Int32 := own_del3 cc x (own_rs q.1) q.2
def own_ok (cc : Nat → Nat → Int32) (x : Nat) (q : own_W × Int32) : Bool := decide (own_in q.1.2.2.2.2.2.2.1) && own_way3 (cc x) q.1.2.2.2.2.2.1 q.1.1 q.1.2.1 q.2
def own_okd (cc : Nat → Nat → Int32) (x : Nat) (q : own_W × Int32) : Bool := own_hit3 (cc x) q.1.2.2.2.2.2.1 q.1.1 q.1.2.1 q.1.2.2.1 q.2
def own_okq (cq : Nat → Int32) (q : own_W × Int32) : Bool := own_way3 cq q.1.2.2.2.2.2.1 q.1.1 q.1.2.1 q.2
def own_rk (k0 k1 k2 k3 k4 : Nat) (i : Nat) : Nat := match i with | 0 => 2 * k0 + 1 | 1 => 2 * k1 + 1 | 2 => 2 * k2 + 1 | 3 => 2 * k3 + 1 | _ => 2 * k4 + 1
def own_sg (a b : Nat) : Int32 := if a < b then -1 else if b < a then 1 else 0
def own_ib (a b : Nat) : Nat := if a < b then 1 else 0
def own_cnt (k0 k1 k2 k3 k4 k : Nat) : Nat := own_ib k0 k + own_ib k1 k + own_ib k2 k + own_ib k3 k + own_ib k4 k
def own_vld (k0 k1 k2 k3 k4 : Nat) : Bool := decide (own_cnt k0 k1 k2 k3 k4 k0 = k0) && (decide (own_cnt k0 k1 k2 k3 k4 k1 = k1) && (decide (own_cnt k0 k1 k2 k3 k4 k2 = k2) && (decide (own_cnt k0 k1 k2 k3 k4 k3 = k3) && decide (own_cnt k0 k1 k2 k3 k4 k4 = k4))))
def own_cc (k0 k1 k2 k3 k4 : Nat) (i j : Nat) : Int32 := own_sg (own_rk k0 k1 k2 k3 k4 i) (own_rk k0 k1 k2 k3 k4 j)
def own_cq (k0 k1 k2 k3 k4 t : Nat) (j : Nat) : Int32 := own_sg t (own_rk k0 k1 k2 k3 k4 j)
def own_c1 (cc : Nat → Nat → Int32) := own_st cc 0 own_q0
def own_c2 (cc : Nat → Nat → Int32) := own_st cc 1 (own_c1 cc)
def own_c3 (cc : Nat → Nat → Int32) := own_st cc 2 (own_c2 cc)
def own_c4 (cc : Nat → Nat → Int32) := own_st cc 3 (own_c3 cc)
def own_c5 (cc : Nat → Nat → Int32) := own_st cc 4 (own_c4 cc)
def own_c6 (cc : Nat → Nat → Int32) := own_dt cc 0 (own_c5 cc)
def own_b (cq : Nat → Int32) (j : Nat) : Int32 := if cq j = (0 : Int32) then 1 else 0
def own_fine (cc : Nat → Nat → Int32) : Bool := own_ok cc 0 own_q0 && (own_ok cc 1 (own_c1 cc) && (own_ok cc 2 (own_c2 cc) && (own_ok cc 3 (own_c3 cc) && (own_ok cc 4 (own_c4 cc) && own_okd cc 0 (own_c5 cc)))))
def own_ans (cq : Nat → Int32) (q q' : own_W × Int32) : Bool :=
  (own_okq cq q && decide (own_cn3 cq q.1 q.2 = own_b cq 0 + own_b cq 1 + own_b cq 2 + own_b cq 3 + own_b cq 4)) &&
  (own_okq cq q' && decide (own_cn3 cq q'.1 q'.2 = own_b cq 0 + own_b cq 1 + own_b cq 2 + own_b cq 3 + own_b cq 4 - own_b cq 0))
def own_all (k0 k1 k2 k3 k4 : Nat) : Bool := !own_vld k0 k1 k2 k3 k4 || (own_fine (own_cc k0 k1 k2 k3 k4) && (List.range 11).all fun t => own_ans (own_cq k0 k1 k2 k3 k4 t) (own_c5 (own_cc k0 k1 k2 k3 k4)) (own_c6 (own_cc k0 k1 k2 k3 k4)))
theorem own_c5i {i : Nat} (h : i < 5) : i = 0 ∨ i = 1 ∨ i = 2 ∨ i = 3 ∨ i = 4 := by omega
def own_row (i j : Nat) : Bool := (List.range 5).all fun k2 => (List.range 5).all fun k3 => (List.range 5).all fun k4 => own_all i j k2 k3 k4
theorem own_r00 : own_row 0 0 = true := by decide +kernel
theorem own_r01 : own_row 0 1 = true := by decide +kernel
theorem own_r02 : own_row 0 2 = true := by decide +kernel
theorem own_r03 : own_row 0 3 = true := by decide +kernel
theorem own_r04 : own_row 0 4 = true := by decide +kernel
theorem own_r10 : own_row 1 0 = true := by decide +kernel
theorem own_r11 : own_row 1 1 = true := by decide +kernel
theorem own_r12 : own_row 1 2 = true := by decide +kernel
theorem own_r13 : own_row 1 3 = true := by decide +kernel
theorem own_r14 : own_row 1 4 = true := by decide +kernel
theorem own_r20 : own_row 2 0 = true := by decide +kernel
theorem own_r21 : own_row 2 1 = true := by decide +kernel
theorem own_r22 : own_row 2 2 = true := by decide +kernel
theorem own_r23 : own_row 2 3 = true := by decide +kernel
theorem own_r24 : own_row 2 4 = true := by decide +kernel
theorem own_r30 : own_row 3 0 = true := by decide +kernel
theorem own_r31 : own_row 3 1 = true := by decide +kernel
theorem own_r32 : own_row 3 2 = true := by decide +kernel
theorem own_r33 : own_row 3 3 = true := by decide +kernel
theorem own_r34 : own_row 3 4 = true := by decide +kernel
theorem own_r40 : own_row 4 0 = true := by decide +kernel
theorem own_r41 : own_row 4 1 = true := by decide +kernel
theorem own_r42 : own_row 4 2 = true := by decide +kernel
theorem own_r43 : own_row 4 3 = true := by decide +kernel
theorem own_r44 : own_row 4 4 = true := by decide +kernel
theorem own_rows (i j : Nat) (hi : i < 5) (hj : j < 5) : own_row i j = true := by
  rcases own_c5i hi with rfl | rfl | rfl | rfl | rfl <;> rcases own_c5i hj with rfl | rfl | rfl | rfl | rfl
  · exact own_r00
  · exact own_r01
  · exact own_r02
  · exact own_r03
  · exact own_r04
  · exact own_r10
  · exact own_r11
  · exact own_r12
  · exact own_r13
  · exact own_r14
  · exact own_r20
  · exact own_r21
  · exact own_r22
  · exact own_r23
  · exact own_r24
  · exact own_r30
  · exact own_r31
  · exact own_r32
  · exact own_r33
  · exact own_r34
  · exact own_r40
  · exact own_r41
  · exact own_r42
  · exact own_r43
  · exact own_r44
theorem own_brute (k0 k1 k2 k3 k4 : Nat) (h0 : k0 < 5) (h1 : k1 < 5) (h2 : k2 < 5) (h3 : k3 < 5) (h4 : k4 < 5) : own_all k0 k1 k2 k3 k4 = true := by
  have a := own_rows k0 k1 h0 h1
  unfold own_row at a
  have b := List.all_eq_true.mp a k2 (List.mem_range.mpr h2)
  have c := List.all_eq_true.mp b k3 (List.mem_range.mpr h3)
  exact List.all_eq_true.mp c k4 (List.mem_range.mpr h4)
def own_zi (a v : Int) : Nat := if a < v then 1 else 0
def own_zc (z : Nat → Int) (v : Int) : Nat := own_zi (z 0) v + own_zi (z 1) v + own_zi (z 2) v + own_zi (z 3) v + own_zi (z 4) v
def own_zs (a b : Int) : Int32 := if a < b then -1 else if b < a then 1 else 0
theorem own_zi_le {a u v : Int} (h : u ≤ v) : own_zi a u ≤ own_zi a v := by
  unfold own_zi; by_cases q : a < u
  · rw [if_pos q, if_pos (by omega)]; exact Nat.le_refl 1
  · rw [if_neg q]; exact Nat.zero_le _
theorem own_zi_s (a : Int) : own_zi a a = 0 := by unfold own_zi; rw [if_neg (by omega)]
theorem own_zi_1 {a v : Int} (h : a < v) : own_zi a v = 1 := by unfold own_zi; rw [if_pos h]
theorem own_zi_b (a v : Int) : own_zi a v ≤ 1 := by unfold own_zi; split <;> omega
theorem own_zc_le (z : Nat → Int) {u v : Int} (h : u ≤ v) : own_zc z u ≤ own_zc z v := by
  unfold own_zc
  have h0 := own_zi_le (a := z 0) h
  have h1 := own_zi_le (a := z 1) h
  have h2 := own_zi_le (a := z 2) h
  have h3 := own_zi_le (a := z 3) h
  have h4 := own_zi_le (a := z 4) h
  omega
theorem own_zc_lt (z : Nat → Int) {i : Nat} (hi : i < 5) {v : Int} (h : z i < v) : own_zc z (z i) < own_zc z v := by
  unfold own_zc
  have h0 := own_zi_le (a := z 0) (Int.le_of_lt h)
  have h1 := own_zi_le (a := z 1) (Int.le_of_lt h)
  have h2 := own_zi_le (a := z 2) (Int.le_of_lt h)
  have h3 := own_zi_le (a := z 3) (Int.le_of_lt h)
  have h4 := own_zi_le (a := z 4) (Int.le_of_lt h)
  have e := own_zi_s (z i)
  have o := own_zi_1 h
  rcases own_c5i hi with rfl | rfl | rfl | rfl | rfl <;> omega
theorem own_zc_iff (z : Nat → Int) {i : Nat} (hi : i < 5) (v : Int) : own_zc z (z i) < own_zc z v ↔ z i < v :=
  ⟨fun h => Int.not_le.mp fun q => absurd (own_zc_le z q) (Nat.not_le.mpr h), own_zc_lt z hi⟩
theorem own_zc_5 (z : Nat → Int) {i : Nat} (hi : i < 5) : own_zc z (z i) < 5 := by
  unfold own_zc
  have h0 := own_zi_b (z 0) (z i)
  have h1 := own_zi_b (z 1) (z i)
  have h2 := own_zi_b (z 2) (z i)
  have h3 := own_zi_b (z 3) (z i)
  have h4 := own_zi_b (z 4) (z i)
  have e := own_zi_s (z i)
  rcases own_c5i hi with rfl | rfl | rfl | rfl | rfl <;> omega
theorem own_ib_z (z : Nat → Int) {i : Nat} (hi : i < 5) (v : Int) : own_ib (own_zc z (z i)) (own_zc z v) = own_zi (z i) v := by
  unfold own_ib own_zi; by_cases q : z i < v
  · rw [if_pos q, if_pos ((own_zc_iff z hi v).mpr q)]
  · rw [if_neg q, if_neg fun r => q ((own_zc_iff z hi v).mp r)]
theorem own_cnt_z (z : Nat → Int) (v : Int) : own_cnt (own_zc z (z 0)) (own_zc z (z 1)) (own_zc z (z 2)) (own_zc z (z 3)) (own_zc z (z 4)) (own_zc z v) = own_zc z v := by
  unfold own_cnt
  rw [own_ib_z z (by decide), own_ib_z z (by decide), own_ib_z z (by decide), own_ib_z z (by decide), own_ib_z z (by decide)]; rfl
theorem own_vld_z (z : Nat → Int) : own_vld (own_zc z (z 0)) (own_zc z (z 1)) (own_zc z (z 2)) (own_zc z (z 3)) (own_zc z (z 4)) = true := by
  simp only [own_vld, own_cnt_z, decide_true, Bool.and_self]
theorem own_rk_z (z : Nat → Int) {i : Nat} (hi : i < 5) : own_rk (own_zc z (z 0)) (own_zc z (z 1)) (own_zc z (z 2)) (own_zc z (z 3)) (own_zc z (z 4)) i = 2 * own_zc z (z i) + 1 := by
  rcases own_c5i hi with rfl | rfl | rfl | rfl | rfl <;> rfl
def own_any (z : Nat → Int) (v : Int) : Bool := decide (v = z 0) || (decide (v = z 1) || (decide (v = z 2) || (decide (v = z 3) || decide (v = z 4))))
theorem own_any_i {z : Nat → Int} {v : Int} (h : own_any z v = true) : ∃ i, i < 5 ∧ v = z i := by
  simp only [own_any, Bool.or_eq_true, decide_eq_true_eq] at h
  rcases h with h | h | h | h | h
  · exact ⟨0, by decide, h⟩
  · exact ⟨1, by decide, h⟩
  · exact ⟨2, by decide, h⟩
  · exact ⟨3, by decide, h⟩
  · exact ⟨4, by decide, h⟩
theorem own_any_n {z : Nat → Int} {i : Nat} (hi : i < 5) : own_any z (z i) = true := by
  rcases own_c5i hi with rfl | rfl | rfl | rfl | rfl <;> simp [own_any]
def own_t (z : Nat → Int) (v : Int) : Nat := 2 * own_zc z v + (if own_any z v = true then 1 else 0)
theorem own_t_b (z : Nat → Int) (v : Int) : own_t z v < 11 := by
  unfold own_t
  have h0 := own_zi_b (z 0) v
  have h1 := own_zi_b (z 1) v
  have h2 := own_zi_b (z 2) v
  have h3 := own_zi_b (z 3) v
  have h4 := own_zi_b (z 4) v
  by_cases q : own_any z v = true
  · obtain ⟨i, hi, e⟩ := own_any_i q
    have := own_zc_5 z hi
    rw [if_pos q, e]; omega
  · rw [if_neg q]; unfold own_zc; omega
theorem own_t_s (z : Nat → Int) (v : Int) {i : Nat} (hi : i < 5) : own_sg (own_t z v) (2 * own_zc z (z i) + 1) = own_zs v (z i) := by
  unfold own_sg own_zs
  rcases Int.lt_trichotomy v (z i) with h | h | h
  · have a : own_t z v < 2 * own_zc z (z i) + 1 := by
      unfold own_t
      by_cases q : own_any z v = true
      · obtain ⟨j, hj, e⟩ := own_any_i q
        rw [if_pos q, e]; rw [e] at h; have := own_zc_lt z hj h; omega
      · rw [if_neg q]; have := own_zc_le z (Int.le_of_lt h); omega
    rw [if_pos a, if_pos h]
  · have a : own_t z v = 2 * own_zc z (z i) + 1 := by unfold own_t; rw [h, if_pos (own_any_n hi)]
    rw [a, if_neg (Nat.lt_irrefl _), if_neg (Nat.lt_irrefl _), h, if_neg (Int.lt_irrefl _), if_neg (Int.lt_irrefl _)]
  · have a : 2 * own_zc z (z i) + 1 < own_t z v := by unfold own_t; have := own_zc_lt z hi h; omega
    rw [if_neg (Nat.not_lt.mpr (Nat.le_of_lt a)), if_pos a, if_neg (Int.not_lt.mpr (Int.le_of_lt h)), if_pos h]
theorem own_cc_s (z : Nat → Int) {i j : Nat} (hi : i < 5) (hj : j < 5) : own_sg (2 * own_zc z (z i) + 1) (2 * own_zc z (z j) + 1) = own_zs (z i) (z j) := by
  have := own_t_s z (z i) hj
  rw [show own_t z (z i) = 2 * own_zc z (z i) + 1 from by unfold own_t; rw [if_pos (own_any_n hi)]] at this
  exact this
theorem own_rank (z : Nat → Int) (v : Int) : ∃ (cc : Nat → Nat → Int32) (cq : Nat → Int32), (∀ i j, i < 5 → j < 5 → cc i j = own_zs (z i) (z j)) ∧ (∀ j, j < 5 → cq j = own_zs v (z j)) ∧ own_fine cc = true ∧ own_ans cq (own_c5 cc) (own_c6 cc) = true := by
  have b := own_brute _ _ _ _ _ (own_zc_5 z (i := 0) (by decide)) (own_zc_5 z (i := 1) (by decide)) (own_zc_5 z (i := 2) (by decide)) (own_zc_5 z (i := 3) (by decide)) (own_zc_5 z (i := 4) (by decide))
  unfold own_all at b
  rw [own_vld_z, Bool.not_true, Bool.false_or, Bool.and_eq_true, List.all_eq_true] at b
  refine ⟨own_cc _ _ _ _ _, own_cq _ _ _ _ _ (own_t z v), fun i j hi hj => ?_, fun j hj => ?_, b.1, b.2 _ (List.mem_range.mpr (own_t_b z v))⟩
  · unfold own_cc; rw [own_rk_z z hi, own_rk_z z hj]; exact own_cc_s z hi hj
  · unfold own_cq; rw [own_rk_z z hj]; exact own_t_s z v hj
theorem own_ne16 {n : Int32} (h : own_in n) : ¬ n = (16 : Int32) := fun e => by
  subst e; exact absurd h.2 (by decide)
theorem own_rz : own_rng own_z16 := by
  refine ⟨rfl, fun i => ?_⟩
  have h : ∀ k : Nat, own_in (own_z16.getD k 0) := fun k => by
    by_cases q : k < 16
    · have e : ∀ k, k < 16 → own_z16.getD k 0 = 0 := by decide
      rw [e k q]; decide
    · rw [List.getD_eq_getElem?_getD, List.getElem?_eq_none (by show 16 ≤ k; omega)]; decide
  exact h _
def own_cv (cc : Nat → Nat → Int32) (val : Nat → UInt64) : Prop := ∀ i j o, i < 5 → j < 5 → cmpValue (FP.dcmp (val i) (val j)) o = cc i j
def own_cvq (cq : Nat → Int32) (xv : UInt64) (val : Nat → UInt64) : Prop := ∀ j o, j < 5 → cmpValue (FP.dcmp xv (val j)) o = cq j
theorem own_dc {cc : Nat → Nat → Int32} {val : Nat → UInt64} {xv : UInt64} {xi j : Nat} {o : CmpOp} (h : own_cv cc val) (e : xv = val xi) (hx : xi < 5) (hj : j < 5) : cmpValue (FP.dcmp xv (val j)) o = cc xi j := by rw [e]; exact h _ _ _ hx hj
abbrev own_D (i : Int) (a : UInt64) : Prop := Jvm.FP.Core.DInt i a
theorem own_Dc {i j : Int} {a b : UInt64} (ha : own_D i a) (hb : own_D j b) (o : CmpOp) : cmpValue (FP.dcmp a b) o = own_zs i j := by
  rw [show FP.dcmp a b = some (compare i j) from Jvm.FP.Core.dcmp_int ha hb]
  unfold own_zs
  rcases Int.lt_trichotomy i j with h | h | h
  · rw [if_pos h, show compare i j = .lt from by simp [compare, compareOfLessAndEq, h]]; rfl
  · subst h; rw [if_neg (Int.lt_irrefl _), if_neg (Int.lt_irrefl _), show compare i i = .eq from by simp [compare, compareOfLessAndEq]]; rfl
  · rw [if_neg (Int.not_lt.mpr (Int.le_of_lt h)), if_pos h, show compare i j = .gt from by simp [compare, compareOfLessAndEq, Int.not_lt.mpr (Int.le_of_lt h), show ¬ i = j by omega]]; rfl
theorem own_Di (x : Int32) : own_D x.toInt (FP.l2d x.toInt64) := by rw [← i2d_w]; exact Jvm.FP.Core.i2d_int x
theorem own_Dn {i : Int} {a : UInt64} (h : own_D i a) : own_D (-i) (FP.dneg a) := by
  show Jvm.FP.Core.Whole (-i) (Jvm.FP.Core.val64 (FP.dneg a)); rw [Jvm.FP.val64_dneg]; exact Jvm.FP.Core.whole_negate h
def own_fl (m k : Int32) : Int32 := if m &&& k = (0 : Int32) then 0 else 1
def own_zv (p1 p2 p3 p4 p5 : Int32) (i : Nat) : Int := match i with | 0 => p1.toInt | 1 => p2.toInt | 2 => p3.toInt | 3 => p4.toInt | _ => p5.toInt
def own_val (a b c d e : UInt64) (i : Nat) : UInt64 := match i with | 0 => a | 1 => b | 2 => c | 3 => d | 4 => e | _ => 0
theorem own_dv {p1 p2 p3 p4 p5 : Int32} {a b c d e : UInt64} (ha : own_D p1.toInt a) (hb : own_D p2.toInt b) (hc : own_D p3.toInt c) (hd : own_D p4.toInt d) (he : own_D p5.toInt e) {i : Nat} (hi : i < 5) : own_D (own_zv p1 p2 p3 p4 p5 i) (own_val a b c d e i) := by
  rcases own_c5i hi with rfl | rfl | rfl | rfl | rfl
  · exact ha
  · exact hb
  · exact hc
  · exact hd
  · exact he
theorem own_nx {cc : Nat → Nat → Int32} {x : Nat} {q o : own_W × Int32} {L R C T H : List Int32} {K : List Nat} {u f r v : Int32} (E : q = ((L, R, C, T, H, K, u, f, r), v)) (h : own_ins3 cc x (L, R, C, T, H, K, u, (0 : Int32), (0 : Int32)) v = o) : own_st cc x q = o := by subst E; exact h
theorem own_nd {cc : Nat → Nat → Int32} {x : Nat} {q o : own_W × Int32} {L R C T H : List Int32} {K : List Nat} {u f r v : Int32} (E : q = ((L, R, C, T, H, K, u, f, r), v)) (h : own_del3 cc x (L, R, C, T, H, K, u, (0 : Int32), (0 : Int32)) v = o) : own_dt cc x q = o := by subst E; exact h
theorem own_ok_u {cc : Nat → Nat → Int32} {x : Nat} {q : own_W × Int32} {L R C T H : List Int32} {K : List Nat} {u f r v : Int32} (E : q = ((L, R, C, T, H, K, u, f, r), v)) (h : own_ok cc x q = true) : own_in u := by
  subst E; unfold own_ok at h; rw [Bool.and_eq_true] at h; exact of_decide_eq_true h.1
theorem own_ok_w {cc : Nat → Nat → Int32} {x : Nat} {q : own_W × Int32} {L R C T H : List Int32} {K : List Nat} {u f r v : Int32} (E : q = ((L, R, C, T, H, K, u, f, r), v)) (h : own_ok cc x q = true) : own_way3 (cc x) K L R v = true := by
  subst E; unfold own_ok at h; rw [Bool.and_eq_true] at h; exact h.2
theorem own_ok_d {cc : Nat → Nat → Int32} {x : Nat} {q : own_W × Int32} {L R C T H : List Int32} {K : List Nat} {u f r v : Int32} (E : q = ((L, R, C, T, H, K, u, f, r), v)) (h : own_okd cc x q = true) : own_hit3 (cc x) K L R C v = true := by
  subst E; exact h
theorem own_ok_q {cq : Nat → Int32} {q : own_W × Int32} {L R C T H : List Int32} {K : List Nat} {u f r v : Int32} (E : q = ((L, R, C, T, H, K, u, f, r), v)) (h : own_okq cq q = true) : own_way3 cq K L R v = true := by
  subst E; exact h
theorem own_lad {G : Prop} {P0 P1 P2 P3 : Int32 → Int32 → Prop} {C : Int32 → Int32 → State → List Loc → Prop} (h0 : ∀ b n T L, P0 b n → C b n T L → G) (h1 : (∀ b n T L, P0 b n → C b n T L → G) → ∀ b n T L, P1 b n → C b n T L → G) (h2 : (∀ b n T L, P1 b n → C b n T L → G) → ∀ b n T L, P2 b n → C b n T L → G) (h3 : (∀ b n T L, P2 b n → C b n T L → G) → ∀ b n T L, P3 b n → C b n T L → G) {b n : Int32} {T : State} {L : List Loc} (p : P3 b n) (q : C b n T L) : G :=
  h3 (h2 (h1 h0)) b n T L p q
abbrev own_fines (cc : Nat → Nat → Int32) : Prop := own_ok cc 0 own_q0 = true ∧ own_ok cc 1 (own_c1 cc) = true ∧ own_ok cc 2 (own_c2 cc) = true ∧ own_ok cc 3 (own_c3 cc) = true ∧ own_ok cc 4 (own_c4 cc) = true ∧ own_okd cc 0 (own_c5 cc) = true
def own_nq (f q : Int32) : UInt64 := if f = (0 : Int32) then FP.l2d (q).toInt64 else if q = (0 : Int32) then (9223372036854775808 : UInt64) else FP.l2d (q).toInt64
theorem own_Dnz (f q : Int32) : own_D q.toInt (own_nq f q) := by
  unfold own_nq; by_cases h : f = (0 : Int32)
  · rw [if_pos h]; exact own_Di q
  · by_cases k : q = (0 : Int32)
    · rw [if_neg h, if_pos k]; subst k
      have := own_Dn (own_Di 0)
      rw [show FP.dneg (FP.l2d (0 : Int32).toInt64) = (9223372036854775808 : UInt64) from by rw [show (0 : Int32).toInt64 = 0 from rfl, l2d_zero]; rfl] at this
      exact this
    · rw [if_neg h, if_neg k]; exact own_Di q
def own_eq (p q : Int32) : Int32 := if p = q then 1 else 0
theorem own_bq {cq : Nat → Int32} {j : Nat} {p w : Int32} (h : cq j = own_zs w.toInt p.toInt) : own_b cq j = own_eq p w := by
  unfold own_b own_eq own_zs at *
  rcases Int.lt_trichotomy w.toInt p.toInt with q | q | q
  · rw [if_pos q] at h; rw [h, if_neg (by decide), if_neg fun e => by rw [e] at q; omega]
  · rw [if_neg (by omega), if_neg (by omega)] at h; rw [h, if_pos (by decide), if_pos (Int32.toInt_inj.mp q.symm)]
  · rw [if_neg (by omega), if_pos q] at h; rw [h, if_neg (by decide), if_neg fun e => by rw [e] at q; omega]
theorem own_setup (p1 p2 p3 p4 pe p5 : Int32) (a b c d e xq : UInt64) (ha : own_D p1.toInt a) (hb : own_D p2.toInt b) (hc : own_D p3.toInt c) (hd : own_D p4.toInt d) (he : own_D pe.toInt e) (hq : own_D p5.toInt xq) :
    ∃ (val : Nat → UInt64) (cc : Nat → Nat → Int32) (cq : Nat → Int32), (a = val 0 ∧ b = val 1 ∧ c = val 2 ∧ d = val 3 ∧ e = val 4 ∧ val 6 = 0) ∧ own_cv cc val ∧ own_cvq cq xq val ∧ own_fines cc ∧ (own_okq cq (own_c5 cc) = true ∧ own_cn3 cq (own_c5 cc).1 (own_c5 cc).2 = own_eq p1 p5 + own_eq p2 p5 + own_eq p3 p5 + own_eq p4 p5 + own_eq pe p5) ∧ (own_okq cq (own_c6 cc) = true ∧ own_cn3 cq (own_c6 cc).1 (own_c6 cc).2 = own_eq p1 p5 + own_eq p2 p5 + own_eq p3 p5 + own_eq p4 p5 + own_eq pe p5 - own_eq p1 p5) := by
  obtain ⟨cc, cq, h1, h2, h3, h4⟩ := own_rank (own_zv p1 p2 p3 p4 pe) p5.toInt
  have dv : ∀ i, i < 5 → own_D (own_zv p1 p2 p3 p4 pe i) (own_val a b c d e i) := fun i hi => own_dv ha hb hc hd he hi
  simp only [own_ans, Bool.and_eq_true, decide_eq_true_eq] at h4
  obtain ⟨⟨x1, x2⟩, x3, x4⟩ := h4
  have b0 : own_b cq 0 = own_eq p1 p5 := own_bq (h2 0 (by decide))
  have b1 : own_b cq 1 = own_eq p2 p5 := own_bq (h2 1 (by decide))
  have b2 : own_b cq 2 = own_eq p3 p5 := own_bq (h2 2 (by decide))
  have b3 : own_b cq 3 = own_eq p4 p5 := own_bq (h2 3 (by decide))
  have b4 : own_b cq 4 = own_eq pe p5 := own_bq (h2 4 (by decide))
  rw [b0, b1, b2, b3, b4] at x2
  rw [b0, b1, b2, b3, b4] at x4
  refine ⟨own_val a b c d e, cc, cq, ⟨rfl, rfl, rfl, rfl, rfl, rfl⟩, fun i j o hi hj => ?_, fun j o hj => ?_, ?_, ⟨x1, x2⟩, x3, x4⟩
  · rw [h1 i j hi hj]; exact own_Dc (dv i hi) (dv j hj) o
  · rw [h2 j hj]; exact own_Dc hq (dv j hj) o
  · simpa only [own_fine, Bool.and_eq_true] using h3
theorem own_resA {cq : Nat → Int32} {q : own_W × Int32} {W : own_W} {r z : Int32} (E : q = (W, r)) (h : own_cn3 cq q.1 q.2 = z) : own_cn3 cq W r = z := by
  subst E; exact h
theorem own_resB {cq : Nat → Int32} {q : own_W × Int32} {W : own_W} {r z : Int32} (E : q = (W, r)) (h : own_cn3 cq q.1 q.2 = z) : own_cn3 cq W r = z := by
  subst E; exact h
abbrev own_e9 (k : Nat) (i : Instr) (l : Nat) : Prop := decode jdk_29_method_65_code k = .ok (i, l)
theorem d9_0 : own_e9 0 (.iload_n 0) 1 := by decide +kernel
theorem d9_1 : own_e9 1 (.iload_n 1) 1 := by decide +kernel
theorem d9_2 : own_e9 2 (.if_icmp .lt 7) 3 := by decide +kernel
theorem d9_9 : own_e9 9 (.iload_n 1) 1 := by decide +kernel
theorem d9_10 : own_e9 10 .ireturn 1 := by decide +kernel
theorem d9_5 : own_e9 5 (.iload_n 0) 1 := by decide +kernel
theorem d9_6 : own_e9 6 (.goto 4) 3 := by decide +kernel
theorem ef_9 (m : MethodId) (p1 : Int32) (p2 : Int32) : entryFrame m #[(.int p1), (.int p2)] 2 = mkF m 0 #[.val (.int p1), .val (.int p2)] [] := by first | (simp [entryFrame, mkF, argsToLocals, Value.category]; done) | rfl
def Q9 (Z : State) (p1 : Int32) (p2 : Int32) (h0 : Heap) (n0 : Nat) (v : Option Value) (h : Heap) (L : List Loc) : Prop := v = some (.int (own_mx p1 p2)) ∧ Fr n0 L ∧ h = h0
set_option maxRecDepth 65536 in
set_option maxHeartbeats 40000000 in
theorem rm9 (l : Launch) (Z : State) (a0 : Array Value) (hw : ∀ d ∈ tables_1, d.before a0 Z = true) (ws : List Jvm.Cond) (p1 : Int32) (p2 : Int32) (h0 : Heap) (n0 : Nat) (Z0 : n0 ≤ h0.size) :
    own_MF l (⟨"java/lang/Math", "max", "(II)I"⟩ : MethodName) (Jvm.Cond.code (⟨"java/lang/Math", "max", "(II)I"⟩ : MethodName) jdk_29_method_65_code 2 (some .int) :: ws) ({ frames := 0, cells := 0, slots := 0, locals := 0 } : Room) #[(.int p1), (.int p2)] Z h0 (Q9 Z p1 p2 h0 n0) := by
  refine MetFree.of_bodySF (Jvm.Free.JP.mathPlain rfl (by decide +kernel)) hisR ?_
  intro p e s m args below meth c s₁ Bd hml0 hP hK
  obtain ⟨rfl, hZ, hh⟩ := hP
  have hx := Bd.exec
  have hby := Bd.bytes
  have hml : c.maxLocals = 2 := hml0
  have hown : s.vm.findClass "java/lang/Math" = some m.cls := findClass_of_methodNamed Bd.named
  have hnm := (name_of_methodNamed Bd.named Bd.method).1
  have X0 : Stand p l e ({ frames := 0, cells := 0, slots := 0, locals := 0 } : Room) s m #[(.int p1), (.int p2)] below meth c s₁ [] 0 0 := Stand.of_body Bd
  have e0 : s₁.heap = h0 := by rw [← hh, Bd.state]; rfl
  have N0 := Fr.nil n0
  have pre0 : ∀ t, Steps p.tables e below (s₁.setTop (mkF m 0 #[.val (.int p1), .val (.int p2)] [])) t → Steps p.tables e below (s₁.setTop (entryFrame m #[(.int p1), (.int p2)] 2)) t := fun t k => castTop (ef_9 m p1 p2) k
  have pre101 : ∀ t, Steps p.tables e below (s₁.setTop (mkF m 2 #[.val (.int p1), .val (.int p2)] [(.int p2), (.int p1)])) t → Steps p.tables e below (s₁.setTop (entryFrame m #[(.int p1), (.int p2)] 2)) t := fun t kt => by
    refine pre0 t ?_
    show Steps p.tables e below (s₁.setTop (mkF m 0 #[.val (.int p1), .val (.int p2)] [])) _
    refine XS.iloadN X0.here hx rfl (hb hby d9_0) rfl ?_
    refine XS.iloadN X0.here hx rfl (hb hby d9_1) rfl ?_
    show Steps p.tables e below (s₁.setTop (mkF m 2 #[.val (.int p1), .val (.int p2)] [(.int p2), (.int p1)])) _
    exact kt
  by_cases hc2_102 : p1 < p2
  · skip
    obtain ⟨fs, hr, hrun, hended, hW, hsame⟩ := X0.leave (v := some (.int p2)) (fun h => by rw [Bd.returns] at h; cases h) (BodyLoose.notSynchronized Bd)
    refine ⟨_, _, pre101 _ ?_, hrun, hended, _, _, rfl, ?_, ⟨_, rfl⟩, hW, hsame.mono (by decide) (by decide)⟩
    · skip
      show Steps p.tables e below (s₁.setTop (mkF m 2 #[.val (.int p1), .val (.int p2)] [(.int p2), (.int p1)])) _
      refine XS.icmpYes X0.here hx rfl (pc0 := 2) (pc' := 9) rfl (hb hby d9_2) rfl (tlt (hc2_102 : p1 < p2)).1 (by decide) (by decide) ?_
      refine XS.iloadN X0.here hx rfl (hb hby d9_9) rfl ?_
      show Steps p.tables e below (s₁.setTop (mkF m 10 #[.val (.int p1), .val (.int p2)] [(.int p2)])) _
      exact retI X0 hx Bd.returns (hb hby d9_10) hr
    · show Q9 Z p1 p2 h0 n0 _ s₁.heap _
      rw [e0]
      exact ⟨(by simp only [own_mx, eq_true hc2_102, if_true, if_false]), N0, rfl⟩
  · skip
    obtain ⟨fs, hr, hrun, hended, hW, hsame⟩ := X0.leave (v := some (.int p1)) (fun h => by rw [Bd.returns] at h; cases h) (BodyLoose.notSynchronized Bd)
    refine ⟨_, _, pre101 _ ?_, hrun, hended, _, _, rfl, ?_, ⟨_, rfl⟩, hW, hsame.mono (by decide) (by decide)⟩
    · skip
      show Steps p.tables e below (s₁.setTop (mkF m 2 #[.val (.int p1), .val (.int p2)] [(.int p2), (.int p1)])) _
      refine XS.icmpNo X0.here hx rfl (hb hby d9_2) rfl (flt (hc2_102 : ¬ (p1 < p2))).1 ?_
      refine XS.iloadN X0.here hx rfl (hb hby d9_5) rfl ?_
      refine XS.goto X0.here hx rfl (pc0 := 6) (pc' := 10) rfl (hb hby d9_6) (by decide) (by decide) ?_
      show Steps p.tables e below (s₁.setTop (mkF m 10 #[.val (.int p1), .val (.int p2)] [(.int p1)])) _
      exact retI X0 hx Bd.returns (hb hby d9_10) hr
    · show Q9 Z p1 p2 h0 n0 _ s₁.heap _
      rw [e0]
      exact ⟨(by simp only [own_mx, eq_false hc2_102, if_true, if_false]), N0, rfl⟩
abbrev own_e8 (k : Nat) (i : Instr) (l : Nat) : Prop := decode prog_108_method_19_code k = .ok (i, l)
theorem d8_0 : own_e8 0 (.aload_n 0) 1 := by decide +kernel
theorem d8_1 : own_e8 1 (.getfield 23) 3 := by decide +kernel
theorem d8_4 : own_e8 4 (.iload_n 1) 1 := by decide +kernel
theorem d8_5 : own_e8 5 (.aload_n 0) 1 := by decide +kernel
theorem d8_6 : own_e8 6 (.getfield 23) 3 := by decide +kernel
theorem d8_9 : own_e8 9 (.aload_n 0) 1 := by decide +kernel
theorem d8_10 : own_e8 10 (.getfield 13) 3 := by decide +kernel
theorem d8_13 : own_e8 13 (.iload_n 1) 1 := by decide +kernel
theorem d8_14 : own_e8 14 .iaload 1 := by decide +kernel
theorem d8_15 : own_e8 15 .iaload 1 := by decide +kernel
theorem d8_16 : own_e8 16 (.aload_n 0) 1 := by decide +kernel
theorem d8_17 : own_e8 17 (.getfield 23) 3 := by decide +kernel
theorem d8_20 : own_e8 20 (.aload_n 0) 1 := by decide +kernel
theorem d8_21 : own_e8 21 (.getfield 17) 3 := by decide +kernel
theorem d8_24 : own_e8 24 (.iload_n 1) 1 := by decide +kernel
theorem d8_25 : own_e8 25 .iaload 1 := by decide +kernel
theorem d8_26 : own_e8 26 .iaload 1 := by decide +kernel
theorem d8_27 : own_e8 27 .iadd 1 := by decide +kernel
theorem d8_28 : own_e8 28 (.aload_n 0) 1 := by decide +kernel
theorem d8_29 : own_e8 29 (.getfield 20) 3 := by decide +kernel
theorem d8_32 : own_e8 32 (.iload_n 1) 1 := by decide +kernel
theorem d8_33 : own_e8 33 .iaload 1 := by decide +kernel
theorem d8_34 : own_e8 34 .iadd 1 := by decide +kernel
theorem d8_35 : own_e8 35 .iastore 1 := by decide +kernel
theorem d8_36 : own_e8 36 (.aload_n 0) 1 := by decide +kernel
theorem d8_37 : own_e8 37 (.getfield 26) 3 := by decide +kernel
theorem d8_40 : own_e8 40 (.iload_n 1) 1 := by decide +kernel
theorem d8_41 : own_e8 41 (.aload_n 0) 1 := by decide +kernel
theorem d8_42 : own_e8 42 (.getfield 26) 3 := by decide +kernel
theorem d8_45 : own_e8 45 (.aload_n 0) 1 := by decide +kernel
theorem d8_46 : own_e8 46 (.getfield 13) 3 := by decide +kernel
theorem d8_49 : own_e8 49 (.iload_n 1) 1 := by decide +kernel
theorem d8_50 : own_e8 50 .iaload 1 := by decide +kernel
theorem d8_51 : own_e8 51 .baload 1 := by decide +kernel
theorem d8_52 : own_e8 52 (.aload_n 0) 1 := by decide +kernel
theorem d8_53 : own_e8 53 (.getfield 26) 3 := by decide +kernel
theorem d8_56 : own_e8 56 (.aload_n 0) 1 := by decide +kernel
theorem d8_57 : own_e8 57 (.getfield 17) 3 := by decide +kernel
theorem d8_60 : own_e8 60 (.iload_n 1) 1 := by decide +kernel
theorem d8_61 : own_e8 61 .iaload 1 := by decide +kernel
theorem d8_62 : own_e8 62 .baload 1 := by decide +kernel
theorem d8_63 : own_e8 63 (.invokestatic 107) 3 := by decide +kernel
theorem pd_0 : parseMethodDescriptor "(II)I" = some ⟨[.int, .int], some .int⟩ := by decide +kernel
theorem d8_66 : own_e8 66 (.iconst 1) 1 := by decide +kernel
theorem d8_67 : own_e8 67 .iadd 1 := by decide +kernel
theorem d8_68 : own_e8 68 .i2b 1 := by decide +kernel
theorem d8_69 : own_e8 69 .bastore 1 := by decide +kernel
theorem d8_70 : own_e8 70 .return_ 1 := by decide +kernel
theorem pn_com_example_prequential_prequential_measure_ScoreMultiset : plainName "com/example/prequential/prequential/measure/ScoreMultiset" = true := by first | (simp [plainName, overriddenIn]; done) | decide +kernel
theorem ef_8 (m : MethodId) (a1 : Addr) (p2 : Int32) : entryFrame m #[(.ref a1), (.int p2)] 2 = mkF m 0 #[.val (.ref a1), .val (.int p2)] [] := by first | (simp [entryFrame, mkF, argsToLocals, Value.category]; done) | rfl
def Q8 (Z : State) (a1 : Addr) (p2 : Int32) (al : Addr) (kl : ClassId) (lL : List Int32) (ar : Addr) (kr : ClassId) (lR : List Int32) (ac : Addr) (kc : ClassId) (lC : List Int32) (au : Addr) (ku : ClassId) (lT : List Int32) (ah : Addr) (kh : ClassId) (lH : List Int32) (h0 : Heap) (n0 : Nat) (v : Option Value) (h : Heap) (L : List Loc) : Prop := v = none ∧ Fr n0 L ∧ Keep h0 h [au, ah] ∧ Arv Z h au ku .int (16 : Int32) (own_v (own_uT lL lR lC lT p2)) (.int (0 : Int32)) ∧ Arv Z h ah kh .byte (16 : Int32) (own_v (own_uH lL lR lH p2)) (.int (0 : Int32)) ∧ (own_uT lL lR lC lT p2).length = 16 ∧ (own_uH lL lR lH p2).length = 16
set_option maxRecDepth 65536 in
set_option maxHeartbeats 40000000 in
theorem rm8 (l : Launch) (Z : State) (a0 : Array Value) (hw : ∀ d ∈ tables_1, d.before a0 Z = true) (ws : List Jvm.Cond) (a1 : Addr) (p2 : Int32) (al : Addr) (kl : ClassId) (lL : List Int32) (ar : Addr) (kr : ClassId) (lR : List Int32) (ac : Addr) (kc : ClassId) (lC : List Int32) (au : Addr) (ku : ClassId) (lT : List Int32) (ah : Addr) (kh : ClassId) (lH : List Int32) (h0 : Heap) (n0 : Nat) (Z0 : n0 ≤ h0.size) (H0 : Exa Z h0 a1 "com/example/prequential/prequential/measure/ScoreMultiset") (H1 : Fld Z h0 a1 "com/example/prequential/prequential/measure/ScoreMultiset" "left" "[I" (.ref al)) (H2 : Fld Z h0 a1 "com/example/prequential/prequential/measure/ScoreMultiset" "right" "[I" (.ref ar)) (H3 : Fld Z h0 a1 "com/example/prequential/prequential/measure/ScoreMultiset" "count" "[I" (.ref ac)) (H4 : Fld Z h0 a1 "com/example/prequential/prequential/measure/ScoreMultiset" "total" "[I" (.ref au)) (H5 : Fld Z h0 a1 "com/example/prequential/prequential/measure/ScoreMultiset" "height" "[B" (.ref ah)) (H6 : Arv Z h0 al kl .int (16 : Int32) (own_v lL) (.int (0 : Int32))) (H7 : Arv Z h0 ar kr .int (16 : Int32) (own_v lR) (.int (0 : Int32))) (H8 : Arv Z h0 ac kc .int (16 : Int32) (own_v lC) (.int (0 : Int32))) (H9 : Arv Z h0 au ku .int (16 : Int32) (own_v lT) (.int (0 : Int32))) (H10 : Arv Z h0 ah kh .byte (16 : Int32) (own_v lH) (.int (0 : Int32))) (H11 : n0 ≤ au) (H12 : n0 ≤ ah) (H13 : al ≠ au) (H14 : ar ≠ au) (H15 : ac ≠ au) (H16 : own_in p2) (H17 : own_rng lL) (H18 : own_rng lR) (H19 : lC.length = 16) (H20 : lT.length = 16) (H21 : lH.length = 16) :
    own_MF l (⟨"com/example/prequential/prequential/measure/ScoreMultiset", "update", "(I)V"⟩ : MethodName) (Jvm.Cond.code (⟨"com/example/prequential/prequential/measure/ScoreMultiset", "update", "(I)V"⟩ : MethodName) prog_108_method_19_code 2 none :: ws) ({ frames := 1, cells := 0, slots := 0, locals := 15 } : Room) #[(.ref a1), (.int p2)] Z h0 (Q8 Z a1 p2 al kl lL ar kr lR ac kc lC au ku lT ah kh lH h0 n0) := by
  refine MetFree.of_bodySF (plainFor_of_name pn_com_example_prequential_prequential_measure_ScoreMultiset) hisR ?_
  intro p e s m args below meth c s₁ Bd hml0 hP hK
  obtain ⟨rfl, hZ, hh⟩ := hP
  have hx := Bd.exec
  have hby := Bd.bytes
  have hml : c.maxLocals = 2 := hml0
  have hown : s.vm.findClass "com/example/prequential/prequential/measure/ScoreMultiset" = some m.cls := findClass_of_methodNamed Bd.named
  have hnm := (name_of_methodNamed Bd.named Bd.method).1
  have X0 : Stand p l e ({ frames := 1, cells := 0, slots := 0, locals := 15 } : Room) s m #[(.ref a1), (.int p2)] below meth c s₁ [] 0 0 := Stand.of_body Bd
  have e0 : s₁.heap = h0 := by rw [← hh, Bd.state]; rfl
  have N0 := Fr.nil n0
  have pre0 : ∀ t, Steps p.tables e below (s₁.setTop (mkF m 0 #[.val (.ref a1), .val (.int p2)] [])) t → Steps p.tables e below (s₁.setTop (entryFrame m #[(.ref a1), (.int p2)] 2)) t := fun t k => castTop (ef_8 m a1 p2) k
  obtain ⟨T101, X101, e101, st101⟩ := getF X0 hx hZ hown (host := "") (Or.inl (own_w hw 20 rfl)) Via.refl e0 H4 (g := (mkF m 1 #[.val (.ref a1), .val (.int p2)] [(.ref a1)])) rfl rfl (hb hby d8_1)
  obtain ⟨T102, X102, e102, st102⟩ := getF X101 hx hZ hown (host := "") (Or.inl (own_w hw 20 rfl)) Via.refl e101 H4 (g := (mkF m 6 #[.val (.ref a1), .val (.int p2)] [(.ref a1), (.int p2), (.ref au)])) rfl rfl (hb hby d8_6)
  obtain ⟨T103, X103, e103, st103⟩ := getF X102 hx hZ hown (host := "") (Or.inl (own_w hw 14 rfl)) Via.refl e102 H1 (g := (mkF m 10 #[.val (.ref a1), .val (.int p2)] [(.ref a1), (.ref au), (.int p2), (.ref au)])) rfl rfl (hb hby d8_10)
  obtain ⟨T106, X106, e106, st106⟩ := getF X103 hx hZ hown (host := "") (Or.inl (own_w hw 20 rfl)) Via.refl e103 H4 (g := (mkF m 17 #[.val (.ref a1), .val (.int p2)] [(.ref a1), (.int (own_g lT (own_g lL p2))), (.int p2), (.ref au)])) rfl rfl (hb hby d8_17)
  obtain ⟨T107, X107, e107, st107⟩ := getF X106 hx hZ hown (host := "") (Or.inl (own_w hw 16 rfl)) Via.refl e106 H2 (g := (mkF m 21 #[.val (.ref a1), .val (.int p2)] [(.ref a1), (.ref au), (.int (own_g lT (own_g lL p2))), (.int p2), (.ref au)])) rfl rfl (hb hby d8_21)
  obtain ⟨T110, X110, e110, st110⟩ := getF X107 hx hZ hown (host := "") (Or.inl (own_w hw 18 rfl)) Via.refl e107 H3 (g := (mkF m 29 #[.val (.ref a1), .val (.int p2)] [(.ref a1), (.int ((own_g lT (own_g lL p2)) + (own_g lT (own_g lR p2)))), (.int p2), (.ref au)])) rfl rfl (hb hby d8_29)
  obtain ⟨cl112, Ar112, qc112, S112, M112, Hh112, G112⟩ := id H9
  have hin112 : ¬ (p2 < 0 ∨ cl112.slots.size ≤ (p2).toNatClampNeg) := inb_of S112 H16
  obtain ⟨T112, h112, X112, e112, W112, st112⟩ := stI X110 hx hZ e110 Ar112 (j := p2) hin112 (g := (mkF m 35 #[.val (.ref a1), .val (.int p2)] [(.int (((own_g lT (own_g lL p2)) + (own_g lT (own_g lR p2))) + (own_g lC p2))), (.int p2), (.ref au)])) rfl rfl (hb hby d8_35)
  have V112 : Arv Z h112 au ku .int (16 : Int32) (own_v (own_p lT p2 (((own_g lT (own_g lL p2)) + (own_g lT (own_g lR p2))) + (own_g lC p2)))) (.int (0 : Int32)) := by rw [own_vp]; exact Arv.set Ar112 qc112 S112 M112 Hh112 G112 rfl W112 p2.toNatClampNeg (rfl) (own_vlt H16 H20)
  have N112 := Fr.snoc X112 N0 H11
  have ne113 : a1 ≠ au := Exa.neArv (H0.wr W112) V112 (own_w hw 2 rfl)
  have f114 := (H5.other W112 (Or.inl ne113))
  obtain ⟨T115, X115, e115, st115⟩ := getF X112 hx hZ hown (host := "") (Or.inl (own_w hw 23 rfl)) Via.refl e112 f114 (g := (mkF m 37 #[.val (.ref a1), .val (.int p2)] [(.ref a1)])) rfl rfl (hb hby d8_37)
  obtain ⟨T116, X116, e116, st116⟩ := getF X115 hx hZ hown (host := "") (Or.inl (own_w hw 23 rfl)) Via.refl e115 f114 (g := (mkF m 42 #[.val (.ref a1), .val (.int p2)] [(.ref a1), (.int p2), (.ref ah)])) rfl rfl (hb hby d8_42)
  have f117 := (H1.other W112 (Or.inl ne113))
  obtain ⟨T118, X118, e118, st118⟩ := getF X116 hx hZ hown (host := "") (Or.inl (own_w hw 14 rfl)) Via.refl e116 f117 (g := (mkF m 46 #[.val (.ref a1), .val (.int p2)] [(.ref a1), (.ref ah), (.int p2), (.ref ah)])) rfl rfl (hb hby d8_46)
  have f119 := (H6.other W112 H13)
  have ne121 : ah ≠ au := own_ne_arv H10 H9 (by decide)
  have f122 := (H10.other W112 ne121)
  obtain ⟨T124, X124, e124, st124⟩ := getF X118 hx hZ hown (host := "") (Or.inl (own_w hw 23 rfl)) Via.refl e118 f114 (g := (mkF m 53 #[.val (.ref a1), .val (.int p2)] [(.ref a1), (.int (own_g lH (own_g lL p2))), (.int p2), (.ref ah)])) rfl rfl (hb hby d8_53)
  have f125 := (H2.other W112 (Or.inl ne113))
  obtain ⟨T126, X126, e126, st126⟩ := getF X124 hx hZ hown (host := "") (Or.inl (own_w hw 16 rfl)) Via.refl e124 f125 (g := (mkF m 57 #[.val (.ref a1), .val (.int p2)] [(.ref a1), (.ref ah), (.int (own_g lH (own_g lL p2))), (.int p2), (.ref ah)])) rfl rfl (hb hby d8_57)
  have f127 := (H7.other W112 H14)
  have z131 : n0 ≤ h112.size := (Nat.le_trans Z0 (Nat.le_of_eq W112.size.symm))
  obtain ⟨_, _, ⟨T130, L130, k130, n130⟩, -, X130, ⟨Lc130, hQ130, l130, y130, z130⟩, st130⟩ := Jvm.LawKit.callS X126 hx (y := (⟨"java/lang/Math", "max", "(II)I"⟩ : MethodName)) hown (mvT hZ (own_w hw 58 rfl)) (mvT hZ (own_w hw 59 rfl)) (mvT hZ (own_w hw 60 rfl)) (mvT hZ (own_w hw 61 rfl)) (by decide) (backOf (W := 2) (rm9 l Z a0 hw [] (own_g lH (own_g lL p2)) (own_g lH (own_g lR p2)) h112 n0 z131) hZ (own_w hw 61 rfl) (own_w hw 60 rfl) (by decide) (by decide)) (g := (mkF m 63 #[.val (.ref a1), .val (.int p2)] [(.int (own_g lH (own_g lR p2))), (.int (own_g lH (own_g lL p2))), (.int p2), (.ref ah)])) rfl (by rw [hml]; rfl) (argsL := [(.int (own_g lH (own_g lL p2))), (.int (own_g lH (own_g lR p2)))]) (rest := [(.int p2), (.ref ah)]) (lenOf pd_0 rfl) rfl (by show 2 * 0 + _ ≤ _; exact Nat.le_of_eq rfl) (hb hby d8_63) (fun _ _ => ⟨rfl, e126, (by decide : 0 + 0 ≤ _), (by decide : 0 + 0 ≤ _)⟩)
  dsimp only [Pt.U, Pt.locs, Pt.cells, Pt.slots] at X130 l130 y130 z130 st130 hQ130
  subst l130 y130 z130
  obtain ⟨rfl, Nq130, Heq130⟩ := hQ130
  have N130 := Fr.app N112 Nq130
  obtain ⟨cl132, Ar132, qc132, S132, M132, Hh132, G132⟩ := id f122
  have hin132 : ¬ (p2 < 0 ∨ cl132.slots.size ≤ (p2).toNatClampNeg) := inb_of S132 H16
  obtain ⟨T132, h132, X132, e132, W132, st132⟩ := stB X130 hx hZ Heq130 Ar132 (j := p2) hin132 (g := (mkF m 69 #[.val (.ref a1), .val (.int p2)] [(.int (((own_mx (own_g lH (own_g lL p2)) (own_g lH (own_g lR p2))) + (1 : Int32)).toInt8.toInt32)), (.int p2), (.ref ah)])) rfl rfl (hb hby d8_69)
  have V132 : Arv Z h132 ah kh .byte (16 : Int32) (own_v (own_p lH p2 (nar .byte (((own_mx (own_g lH (own_g lL p2)) (own_g lH (own_g lR p2))) + (1 : Int32)).toInt8.toInt32)))) (.int (0 : Int32)) := by rw [own_vp]; exact Arv.set Ar132 qc132 S132 M132 Hh132 G132 (fits_nar_byte _) W132 p2.toNatClampNeg (rfl) (own_vlt H16 H21)
  have N132 := Fr.snoc X132 N130 H12
  have f133 := (V112.other W132 (Ne.symm ne121))
  obtain ⟨fs, hr, hrun, hended, hW, hsame⟩ := X132.leave (v := none) (fun _ => rfl) (BodyLoose.notSynchronized Bd)
  refine ⟨_, _, pre0 _ ?_, hrun, hended, _, _, rfl, ?_, ⟨_, rfl⟩, hW, hsame.mono (by decide) (by decide)⟩
  · skip
    show Steps p.tables e below (s₁.setTop (mkF m 0 #[.val (.ref a1), .val (.int p2)] [])) _
    refine XS.aloadN X0.here hx rfl (hb hby d8_0) rfl rfl ?_
    refine st101 _ ?_
    refine XS.iloadN X101.here hx rfl (hb hby d8_4) rfl ?_
    refine XS.aloadN X101.here hx rfl (hb hby d8_5) rfl rfl ?_
    refine st102 _ ?_
    refine XS.aloadN X102.here hx rfl (hb hby d8_9) rfl rfl ?_
    refine st103 _ ?_
    refine XS.iloadN X103.here hx rfl (hb hby d8_13) rfl ?_
    show Steps p.tables e below (T103.setTop (mkF m 14 #[.val (.ref a1), .val (.int p2)] [(.int p2), (.ref al), (.ref au), (.int p2), (.ref au)])) _
    refine own_ia X103 hx hZ e103 H6 H16 (hb hby d8_14) ?_
    show Steps p.tables e below (T103.setTop (mkF m 15 #[.val (.ref a1), .val (.int p2)] [(.int (own_g lL p2)), (.ref au), (.int p2), (.ref au)])) _
    refine own_ia X103 hx hZ e103 H9 (H17.2 _) (hb hby d8_15) ?_
    show Steps p.tables e below (T103.setTop (mkF m 16 #[.val (.ref a1), .val (.int p2)] [(.int (own_g lT (own_g lL p2))), (.int p2), (.ref au)])) _
    refine XS.aloadN X103.here hx rfl (hb hby d8_16) rfl rfl ?_
    refine st106 _ ?_
    refine XS.aloadN X106.here hx rfl (hb hby d8_20) rfl rfl ?_
    refine st107 _ ?_
    refine XS.iloadN X107.here hx rfl (hb hby d8_24) rfl ?_
    show Steps p.tables e below (T107.setTop (mkF m 25 #[.val (.ref a1), .val (.int p2)] [(.int p2), (.ref ar), (.ref au), (.int (own_g lT (own_g lL p2))), (.int p2), (.ref au)])) _
    refine own_ia X107 hx hZ e107 H7 H16 (hb hby d8_25) ?_
    show Steps p.tables e below (T107.setTop (mkF m 26 #[.val (.ref a1), .val (.int p2)] [(.int (own_g lR p2)), (.ref au), (.int (own_g lT (own_g lL p2))), (.int p2), (.ref au)])) _
    refine own_ia X107 hx hZ e107 H9 (H18.2 _) (hb hby d8_26) ?_
    show Steps p.tables e below (T107.setTop (mkF m 27 #[.val (.ref a1), .val (.int p2)] [(.int (own_g lT (own_g lR p2))), (.int (own_g lT (own_g lL p2))), (.int p2), (.ref au)])) _
    refine XS.iadd X107.here hx rfl (hb hby d8_27) rfl ?_
    refine XS.aloadN X107.here hx rfl (hb hby d8_28) rfl rfl ?_
    refine st110 _ ?_
    refine XS.iloadN X110.here hx rfl (hb hby d8_32) rfl ?_
    show Steps p.tables e below (T110.setTop (mkF m 33 #[.val (.ref a1), .val (.int p2)] [(.int p2), (.ref ac), (.int ((own_g lT (own_g lL p2)) + (own_g lT (own_g lR p2)))), (.int p2), (.ref au)])) _
    refine own_ia X110 hx hZ e110 H8 H16 (hb hby d8_33) ?_
    show Steps p.tables e below (T110.setTop (mkF m 34 #[.val (.ref a1), .val (.int p2)] [(.int (own_g lC p2)), (.int ((own_g lT (own_g lL p2)) + (own_g lT (own_g lR p2)))), (.int p2), (.ref au)])) _
    refine XS.iadd X110.here hx rfl (hb hby d8_34) rfl ?_
    refine st112 _ ?_
    refine XS.aloadN X112.here hx rfl (hb hby d8_36) rfl rfl ?_
    refine st115 _ ?_
    refine XS.iloadN X115.here hx rfl (hb hby d8_40) rfl ?_
    refine XS.aloadN X115.here hx rfl (hb hby d8_41) rfl rfl ?_
    refine st116 _ ?_
    refine XS.aloadN X116.here hx rfl (hb hby d8_45) rfl rfl ?_
    refine st118 _ ?_
    refine XS.iloadN X118.here hx rfl (hb hby d8_49) rfl ?_
    show Steps p.tables e below (T118.setTop (mkF m 50 #[.val (.ref a1), .val (.int p2)] [(.int p2), (.ref al), (.ref ah), (.int p2), (.ref ah)])) _
    refine own_ia X118 hx hZ e118 f119 H16 (hb hby d8_50) ?_
    show Steps p.tables e below (T118.setTop (mkF m 51 #[.val (.ref a1), .val (.int p2)] [(.int (own_g lL p2)), (.ref ah), (.int p2), (.ref ah)])) _
    refine own_ba X118 hx hZ e118 f122 (H17.2 _) (hb hby d8_51) ?_
    show Steps p.tables e below (T118.setTop (mkF m 52 #[.val (.ref a1), .val (.int p2)] [(.int (own_g lH (own_g lL p2))), (.int p2), (.ref ah)])) _
    refine XS.aloadN X118.here hx rfl (hb hby d8_52) rfl rfl ?_
    refine st124 _ ?_
    refine XS.aloadN X124.here hx rfl (hb hby d8_56) rfl rfl ?_
    refine st126 _ ?_
    refine XS.iloadN X126.here hx rfl (hb hby d8_60) rfl ?_
    show Steps p.tables e below (T126.setTop (mkF m 61 #[.val (.ref a1), .val (.int p2)] [(.int p2), (.ref ar), (.ref ah), (.int (own_g lH (own_g lL p2))), (.int p2), (.ref ah)])) _
    refine own_ia X126 hx hZ e126 f127 H16 (hb hby d8_61) ?_
    show Steps p.tables e below (T126.setTop (mkF m 62 #[.val (.ref a1), .val (.int p2)] [(.int (own_g lR p2)), (.ref ah), (.int (own_g lH (own_g lL p2))), (.int p2), (.ref ah)])) _
    refine own_ba X126 hx hZ e126 f122 (H18.2 _) (hb hby d8_62) ?_
    show Steps p.tables e below (T126.setTop (mkF m 63 #[.val (.ref a1), .val (.int p2)] [(.int (own_g lH (own_g lR p2))), (.int (own_g lH (own_g lL p2))), (.int p2), (.ref ah)])) _
    refine st130 _ ?_
    refine XS.iconst X130.here hx rfl (hb hby d8_66) ?_
    refine XS.iadd X130.here hx rfl (hb hby d8_67) rfl ?_
    refine XS.i2b X130.here hx rfl (hb hby d8_68) rfl ?_
    refine st132 _ ?_
    show Steps p.tables e below (T132.setTop (mkF m 70 #[.val (.ref a1), .val (.int p2)] [])) _
    exact X132.returnOut hx Bd.returns (hb hby d8_70) hr
  · show Q8 Z a1 p2 al kl lL ar kr lR ac kc lC au ku lT ah kh lH h0 n0 _ T132.heap _
    rw [e132]
    exact ⟨rfl, N132, (((Keep.refl h0 [au, ah]).wr W112 (Or.inl (List.mem_of_getElem? (i := 0) rfl))).wr W132 (Or.inl (List.mem_of_getElem? (i := 1) rfl))), f133, V132, (own_16p H20), (own_16p H21)⟩
abbrev own_e10 (k : Nat) (i : Instr) (l : Nat) : Prop := decode prog_108_method_17_code k = .ok (i, l)
theorem d10_0 : own_e10 0 (.aload_n 0) 1 := by decide +kernel
theorem d10_1 : own_e10 1 (.getfield 13) 3 := by decide +kernel
theorem d10_4 : own_e10 4 (.iload_n 1) 1 := by decide +kernel
theorem d10_5 : own_e10 5 .iaload 1 := by decide +kernel
theorem d10_6 : own_e10 6 (.istore_n 2) 1 := by decide +kernel
theorem d10_7 : own_e10 7 (.aload_n 0) 1 := by decide +kernel
theorem d10_8 : own_e10 8 (.getfield 13) 3 := by decide +kernel
theorem d10_11 : own_e10 11 (.iload_n 1) 1 := by decide +kernel
theorem d10_12 : own_e10 12 (.aload_n 0) 1 := by decide +kernel
theorem d10_13 : own_e10 13 (.getfield 17) 3 := by decide +kernel
theorem d10_16 : own_e10 16 (.iload_n 2) 1 := by decide +kernel
theorem d10_17 : own_e10 17 .iaload 1 := by decide +kernel
theorem d10_18 : own_e10 18 .iastore 1 := by decide +kernel
theorem d10_19 : own_e10 19 (.aload_n 0) 1 := by decide +kernel
theorem d10_20 : own_e10 20 (.getfield 17) 3 := by decide +kernel
theorem d10_23 : own_e10 23 (.iload_n 2) 1 := by decide +kernel
theorem d10_24 : own_e10 24 (.iload_n 1) 1 := by decide +kernel
theorem d10_25 : own_e10 25 .iastore 1 := by decide +kernel
theorem d10_26 : own_e10 26 (.aload_n 0) 1 := by decide +kernel
theorem d10_27 : own_e10 27 (.iload_n 1) 1 := by decide +kernel
theorem d10_28 : own_e10 28 (.invokevirtual 104) 3 := by decide +kernel
theorem pd_1 : parseMethodDescriptor "(I)V" = some ⟨[.int], none⟩ := by decide +kernel
theorem d10_31 : own_e10 31 (.aload_n 0) 1 := by decide +kernel
theorem d10_32 : own_e10 32 (.iload_n 2) 1 := by decide +kernel
theorem d10_33 : own_e10 33 (.invokevirtual 104) 3 := by decide +kernel
theorem d10_36 : own_e10 36 (.iload_n 2) 1 := by decide +kernel
theorem d10_37 : own_e10 37 .ireturn 1 := by decide +kernel
theorem ef_10 (m : MethodId) (a1 : Addr) (p2 : Int32) : entryFrame m #[(.ref a1), (.int p2)] 3 = mkF m 0 #[.val (.ref a1), .val (.int p2), .unset] [] := by first | (simp [entryFrame, mkF, argsToLocals, Value.category]; done) | rfl
def Q10 (Z : State) (a1 : Addr) (p2 : Int32) (al : Addr) (kl : ClassId) (lL : List Int32) (ar : Addr) (kr : ClassId) (lR : List Int32) (ac : Addr) (kc : ClassId) (lC : List Int32) (au : Addr) (ku : ClassId) (lT : List Int32) (ah : Addr) (kh : ClassId) (lH : List Int32) (h0 : Heap) (n0 : Nat) (v : Option Value) (h : Heap) (L : List Loc) : Prop := v = some (.int (own_g lL p2)) ∧ Fr n0 L ∧ Keep h0 h [al, ar, au, ah] ∧ Arv Z h al kl .int (16 : Int32) (own_v (own_rr lL lR lC lT lH p2).1) (.int (0 : Int32)) ∧ Arv Z h ar kr .int (16 : Int32) (own_v (own_rr lL lR lC lT lH p2).2.1) (.int (0 : Int32)) ∧ Arv Z h au ku .int (16 : Int32) (own_v (own_rr lL lR lC lT lH p2).2.2.1) (.int (0 : Int32)) ∧ Arv Z h ah kh .byte (16 : Int32) (own_v (own_rr lL lR lC lT lH p2).2.2.2) (.int (0 : Int32)) ∧ own_rng (own_rr lL lR lC lT lH p2).1 ∧ own_rng (own_rr lL lR lC lT lH p2).2.1 ∧ (own_rr lL lR lC lT lH p2).2.2.1.length = 16 ∧ (own_rr lL lR lC lT lH p2).2.2.2.length = 16
set_option maxRecDepth 65536 in
set_option maxHeartbeats 40000000 in
theorem rm10 (l : Launch) (Z : State) (a0 : Array Value) (hw : ∀ d ∈ tables_1, d.before a0 Z = true) (ws : List Jvm.Cond) (a1 : Addr) (p2 : Int32) (al : Addr) (kl : ClassId) (lL : List Int32) (ar : Addr) (kr : ClassId) (lR : List Int32) (ac : Addr) (kc : ClassId) (lC : List Int32) (au : Addr) (ku : ClassId) (lT : List Int32) (ah : Addr) (kh : ClassId) (lH : List Int32) (h0 : Heap) (n0 : Nat) (Z0 : n0 ≤ h0.size) (H0 : Exa Z h0 a1 "com/example/prequential/prequential/measure/ScoreMultiset") (H1 : Fld Z h0 a1 "com/example/prequential/prequential/measure/ScoreMultiset" "left" "[I" (.ref al)) (H2 : Fld Z h0 a1 "com/example/prequential/prequential/measure/ScoreMultiset" "right" "[I" (.ref ar)) (H3 : Fld Z h0 a1 "com/example/prequential/prequential/measure/ScoreMultiset" "count" "[I" (.ref ac)) (H4 : Fld Z h0 a1 "com/example/prequential/prequential/measure/ScoreMultiset" "total" "[I" (.ref au)) (H5 : Fld Z h0 a1 "com/example/prequential/prequential/measure/ScoreMultiset" "height" "[B" (.ref ah)) (H6 : Arv Z h0 al kl .int (16 : Int32) (own_v lL) (.int (0 : Int32))) (H7 : Arv Z h0 ar kr .int (16 : Int32) (own_v lR) (.int (0 : Int32))) (H8 : Arv Z h0 ac kc .int (16 : Int32) (own_v lC) (.int (0 : Int32))) (H9 : Arv Z h0 au ku .int (16 : Int32) (own_v lT) (.int (0 : Int32))) (H10 : Arv Z h0 ah kh .byte (16 : Int32) (own_v lH) (.int (0 : Int32))) (H11 : n0 ≤ al) (H12 : n0 ≤ ar) (H13 : n0 ≤ au) (H14 : n0 ≤ ah) (H15 : al ≠ ar) (H16 : al ≠ ac) (H17 : ar ≠ ac) (H18 : al ≠ au) (H19 : ar ≠ au) (H20 : ac ≠ au) (H21 : own_in p2) (H22 : own_rng lL) (H23 : own_rng lR) (H24 : lC.length = 16) (H25 : lT.length = 16) (H26 : lH.length = 16) :
    own_MF l (⟨"com/example/prequential/prequential/measure/ScoreMultiset", "rotateRight", "(I)I"⟩ : MethodName) (Jvm.Cond.code (⟨"com/example/prequential/prequential/measure/ScoreMultiset", "rotateRight", "(I)I"⟩ : MethodName) prog_108_method_17_code 3 (some .int) :: ws) ({ frames := 2, cells := 0, slots := 0, locals := 28 } : Room) #[(.ref a1), (.int p2)] Z h0 (Q10 Z a1 p2 al kl lL ar kr lR ac kc lC au ku lT ah kh lH h0 n0) := by
  refine MetFree.of_bodySF (plainFor_of_name pn_com_example_prequential_prequential_measure_ScoreMultiset) hisR ?_
  intro p e s m args below meth c s₁ Bd hml0 hP hK
  obtain ⟨rfl, hZ, hh⟩ := hP
  have hx := Bd.exec
  have hby := Bd.bytes
  have hml : c.maxLocals = 3 := hml0
  have hown : s.vm.findClass "com/example/prequential/prequential/measure/ScoreMultiset" = some m.cls := findClass_of_methodNamed Bd.named
  have hnm := (name_of_methodNamed Bd.named Bd.method).1
  have X0 : Stand p l e ({ frames := 2, cells := 0, slots := 0, locals := 28 } : Room) s m #[(.ref a1), (.int p2)] below meth c s₁ [] 0 0 := Stand.of_body Bd
  have e0 : s₁.heap = h0 := by rw [← hh, Bd.state]; rfl
  have N0 := Fr.nil n0
  have pre0 : ∀ t, Steps p.tables e below (s₁.setTop (mkF m 0 #[.val (.ref a1), .val (.int p2), .unset] [])) t → Steps p.tables e below (s₁.setTop (entryFrame m #[(.ref a1), (.int p2)] 3)) t := fun t k => castTop (ef_10 m a1 p2) k
  obtain ⟨T101, X101, e101, st101⟩ := getF X0 hx hZ hown (host := "") (Or.inl (own_w hw 14 rfl)) Via.refl e0 H1 (g := (mkF m 1 #[.val (.ref a1), .val (.int p2), .unset] [(.ref a1)])) rfl rfl (hb hby d10_1)
  obtain ⟨T103, X103, e103, st103⟩ := getF X101 hx hZ hown (host := "") (Or.inl (own_w hw 14 rfl)) Via.refl e101 H1 (g := (mkF m 8 #[.val (.ref a1), .val (.int p2), .val (.int (own_g lL p2))] [(.ref a1)])) rfl rfl (hb hby d10_8)
  obtain ⟨T104, X104, e104, st104⟩ := getF X103 hx hZ hown (host := "") (Or.inl (own_w hw 16 rfl)) Via.refl e103 H2 (g := (mkF m 13 #[.val (.ref a1), .val (.int p2), .val (.int (own_g lL p2))] [(.ref a1), (.int p2), (.ref al)])) rfl rfl (hb hby d10_13)
  obtain ⟨cl106, Ar106, qc106, S106, M106, Hh106, G106⟩ := id H6
  have hin106 : ¬ (p2 < 0 ∨ cl106.slots.size ≤ (p2).toNatClampNeg) := inb_of S106 H21
  obtain ⟨T106, h106, X106, e106, W106, st106⟩ := stI X104 hx hZ e104 Ar106 (j := p2) hin106 (g := (mkF m 18 #[.val (.ref a1), .val (.int p2), .val (.int (own_g lL p2))] [(.int (own_g lR (own_g lL p2))), (.int p2), (.ref al)])) rfl rfl (hb hby d10_18)
  have V106 : Arv Z h106 al kl .int (16 : Int32) (own_v (own_p lL p2 (own_g lR (own_g lL p2)))) (.int (0 : Int32)) := by rw [own_vp]; exact Arv.set Ar106 qc106 S106 M106 Hh106 G106 rfl W106 p2.toNatClampNeg (rfl) (own_vlt H21 H22.1)
  have N106 := Fr.snoc X106 N0 H11
  have ne107 : a1 ≠ al := Exa.neArv (H0.wr W106) V106 (own_w hw 2 rfl)
  have f108 := (H2.other W106 (Or.inl ne107))
  obtain ⟨T109, X109, e109, st109⟩ := getF X106 hx hZ hown (host := "") (Or.inl (own_w hw 16 rfl)) Via.refl e106 f108 (g := (mkF m 20 #[.val (.ref a1), .val (.int p2), .val (.int (own_g lL p2))] [(.ref a1)])) rfl rfl (hb hby d10_20)
  have f110 := (H7.other W106 (Ne.symm H15))
  obtain ⟨cl111, Ar111, qc111, S111, M111, Hh111, G111⟩ := id f110
  have hin111 : ¬ ((own_g lL p2) < 0 ∨ cl111.slots.size ≤ ((own_g lL p2)).toNatClampNeg) := inb_of S111 (H22.2 _)
  obtain ⟨T111, h111, X111, e111, W111, st111⟩ := stI X109 hx hZ e109 Ar111 (j := (own_g lL p2)) hin111 (g := (mkF m 25 #[.val (.ref a1), .val (.int p2), .val (.int (own_g lL p2))] [(.int p2), (.int (own_g lL p2)), (.ref ar)])) rfl rfl (hb hby d10_25)
  have V111 : Arv Z h111 ar kr .int (16 : Int32) (own_v (own_p lR (own_g lL p2) p2)) (.int (0 : Int32)) := by rw [own_vp]; exact Arv.set Ar111 qc111 S111 M111 Hh111 G111 rfl W111 (own_g lL p2).toNatClampNeg (rfl) (own_vlt (H22.2 _) H23.1)
  have N111 := Fr.snoc X111 N106 H12
  have f112 := ((H0.wr W106).wr W111)
  have ne113 : a1 ≠ ar := Exa.neArv f112 V111 (own_w hw 2 rfl)
  have f114 := ((H1.other W106 (Or.inl ne107)).other W111 (Or.inl ne113))
  have f115 := (f108.other W111 (Or.inl ne113))
  have f116 := ((H3.other W106 (Or.inl ne107)).other W111 (Or.inl ne113))
  have f117 := ((H4.other W106 (Or.inl ne107)).other W111 (Or.inl ne113))
  have f118 := ((H5.other W106 (Or.inl ne107)).other W111 (Or.inl ne113))
  have f119 := (V106.other W111 H15)
  have f120 := ((H8.other W106 (Ne.symm H16)).other W111 (Ne.symm H17))
  have f121 := ((H9.other W106 (Ne.symm H18)).other W111 (Ne.symm H19))
  have ne122 : ah ≠ al := own_ne_arv H10 H6 (by decide)
  have ne123 : ah ≠ ar := own_ne_arv H10 H7 (by decide)
  have f124 := ((H10.other W106 ne122).other W111 ne123)
  have z126 : n0 ≤ h111.size := (Nat.le_trans (Nat.le_trans Z0 (Nat.le_of_eq W106.size.symm)) (Nat.le_of_eq W111.size.symm))
  obtain ⟨cq125, q125, q125'⟩ := f112.cell
  obtain ⟨_, _, ⟨T125, L125, k125, n125⟩, -, X125, ⟨Lc125, hQ125, l125, y125, z125⟩, st125⟩ := X111.privateBack hx (y := (⟨"com/example/prequential/prequential/measure/ScoreMultiset", "update", "(I)V"⟩ : MethodName)) hown (mvT hZ (own_w hw 54 rfl)) (mvT hZ (own_w hw 55 rfl)) (mvT hZ (own_selp (by decide) (own_w hw 2 rfl) (own_w hw 56 rfl) (own_w hw 55 rfl))) (Cond.privateMethod_at (mvP hZ (own_w hw 56 rfl) (args := #[]))) (mvT hZ (own_w hw 57 rfl)) (by decide) (backOf (W := 0) (rm8 l Z a0 hw [] a1 p2 al kl (own_p lL p2 (own_g lR (own_g lL p2))) ar kr (own_p lR (own_g lL p2) p2) ac kc lC au ku lT ah kh lH h111 n0 z126 f112 f114 f115 f116 f117 f118 f119 V111 f120 f121 f124 H13 H14 H18 H19 H20 H21 (own_rngp H22 (H23.2 _)) (own_rngp H23 H21) H24 H25 H26) hZ (own_w hw 57 rfl) (own_w hw 3 rfl) (by decide) (by decide)) (g := (mkF m 28 #[.val (.ref a1), .val (.int p2), .val (.int (own_g lL p2))] [(.int p2), (.ref a1)])) rfl (by rw [hml]; rfl) (Steps.refl _) (a := a1) (by rw [e111]; exact q125) q125' (argsL := [(.int p2)]) (rest := []) (lenOf pd_1 rfl) rfl (by show 2 * 0 + _ ≤ _; exact Nat.le_of_eq rfl) (hb hby d10_28) (fun _ _ => ⟨rfl, e111, (by decide : 0 + 0 ≤ _), (by decide : 0 + 0 ≤ _)⟩)
  dsimp only [Pt.U, Pt.locs, Pt.cells, Pt.slots] at X125 l125 y125 z125 st125 hQ125
  subst l125 y125 z125
  obtain ⟨rfl, Nq125, K125, R125_1, R125_2, R125_3, R125_4⟩ := hQ125
  have N125 := Fr.app N111 Nq125
  have f127 := (f112.keep K125)
  have ne128 : a1 ≠ ah := Exa.neArv f127 R125_2 (own_w hw 2 rfl)
  have ne129 : a1 ≠ au := Exa.neArv f127 R125_1 (own_w hw 2 rfl)
  have f130 := (f114.keep K125 (ninS ne129 (ninS ne128 nin0)))
  have f131 := (f115.keep K125 (ninS ne129 (ninS ne128 nin0)))
  have f132 := (f116.keep K125 (ninS ne129 (ninS ne128 nin0)))
  have f133 := (f117.keep K125 (ninS ne129 (ninS ne128 nin0)))
  have f134 := (f118.keep K125 (ninS ne129 (ninS ne128 nin0)))
  have f135 := (f119.keep K125 (ninS H18 (ninS (Ne.symm ne122) nin0)))
  have f136 := (V111.keep K125 (ninS H19 (ninS (Ne.symm ne123) nin0)))
  have ne137 : ac ≠ ah := own_ne_arv H8 H10 (by decide)
  have f138 := (f120.keep K125 (ninS H20 (ninS ne137 nin0)))
  have z140 : n0 ≤ T125.heap.size := (Nat.le_trans z126 K125.1)
  obtain ⟨cq139, q139, q139'⟩ := f127.cell
  obtain ⟨_, _, ⟨T139, L139, k139, n139⟩, -, X139, ⟨Lc139, hQ139, l139, y139, z139⟩, st139⟩ := X125.privateBack hx (y := (⟨"com/example/prequential/prequential/measure/ScoreMultiset", "update", "(I)V"⟩ : MethodName)) hown (mvT hZ (own_w hw 54 rfl)) (mvT hZ (own_w hw 55 rfl)) (mvT hZ (own_selp (by decide) (own_w hw 2 rfl) (own_w hw 56 rfl) (own_w hw 55 rfl))) (Cond.privateMethod_at (mvP hZ (own_w hw 56 rfl) (args := #[]))) (mvT hZ (own_w hw 57 rfl)) (by decide) (backOf (W := 0) (rm8 l Z a0 hw [] a1 (own_g lL p2) al kl (own_p lL p2 (own_g lR (own_g lL p2))) ar kr (own_p lR (own_g lL p2) p2) ac kc lC au ku (own_uT (own_p lL p2 (own_g lR (own_g lL p2))) (own_p lR (own_g lL p2) p2) lC lT p2) ah kh (own_uH (own_p lL p2 (own_g lR (own_g lL p2))) (own_p lR (own_g lL p2) p2) lH p2) T125.heap n0 z140 f127 f130 f131 f132 f133 f134 f135 f136 f138 R125_1 R125_2 H13 H14 H18 H19 H20 (H22.2 _) (own_rngp H22 (H23.2 _)) (own_rngp H23 H21) H24 R125_3 R125_4) hZ (own_w hw 57 rfl) (own_w hw 3 rfl) (by decide) (by decide)) (g := (mkF m 33 #[.val (.ref a1), .val (.int p2), .val (.int (own_g lL p2))] [(.int (own_g lL p2)), (.ref a1)])) rfl (by rw [hml]; rfl) (Steps.refl _) (a := a1) q139 q139' (argsL := [(.int (own_g lL p2))]) (rest := []) (lenOf pd_1 rfl) rfl (by show 2 * 0 + _ ≤ _; exact Nat.le_of_eq rfl) (hb hby d10_33) (fun _ _ => ⟨rfl, rfl, (by decide : 0 + 0 ≤ _), (by decide : 0 + 0 ≤ _)⟩)
  dsimp only [Pt.U, Pt.locs, Pt.cells, Pt.slots] at X139 l139 y139 z139 st139 hQ139
  subst l139 y139 z139
  obtain ⟨rfl, Nq139, K139, R139_1, R139_2, R139_3, R139_4⟩ := hQ139
  have N139 := Fr.app N125 Nq139
  have f141 := (f135.keep K139 (ninS H18 (ninS (Ne.symm ne122) nin0)))
  have f142 := (f136.keep K139 (ninS H19 (ninS (Ne.symm ne123) nin0)))
  obtain ⟨fs, hr, hrun, hended, hW, hsame⟩ := X139.leave (v := some (.int (own_g lL p2))) (fun h => by rw [Bd.returns] at h; cases h) (BodyLoose.notSynchronized Bd)
  refine ⟨_, _, pre0 _ ?_, hrun, hended, _, _, rfl, ?_, ⟨_, rfl⟩, hW, hsame.mono (by decide) (by decide)⟩
  · skip
    show Steps p.tables e below (s₁.setTop (mkF m 0 #[.val (.ref a1), .val (.int p2), .unset] [])) _
    refine XS.aloadN X0.here hx rfl (hb hby d10_0) rfl rfl ?_
    refine st101 _ ?_
    refine XS.iloadN X101.here hx rfl (hb hby d10_4) rfl ?_
    show Steps p.tables e below (T101.setTop (mkF m 5 #[.val (.ref a1), .val (.int p2), .unset] [(.int p2), (.ref al)])) _
    refine own_ia X101 hx hZ e101 H6 H21 (hb hby d10_5) ?_
    show Steps p.tables e below (T101.setTop (mkF m 6 #[.val (.ref a1), .val (.int p2), .unset] [(.int (own_g lL p2))])) _
    refine XS.istoreN X101.here hx rfl (hb hby d10_6) rfl (l' := #[.val (.ref a1), .val (.int p2), .val (.int (own_g lL p2))]) rfl ?_
    refine XS.aloadN X101.here hx rfl (hb hby d10_7) rfl rfl ?_
    refine st103 _ ?_
    refine XS.iloadN X103.here hx rfl (hb hby d10_11) rfl ?_
    refine XS.aloadN X103.here hx rfl (hb hby d10_12) rfl rfl ?_
    refine st104 _ ?_
    refine XS.iloadN X104.here hx rfl (hb hby d10_16) rfl ?_
    show Steps p.tables e below (T104.setTop (mkF m 17 #[.val (.ref a1), .val (.int p2), .val (.int (own_g lL p2))] [(.int (own_g lL p2)), (.ref ar), (.int p2), (.ref al)])) _
    refine own_ia X104 hx hZ e104 H7 (H22.2 _) (hb hby d10_17) ?_
    show Steps p.tables e below (T104.setTop (mkF m 18 #[.val (.ref a1), .val (.int p2), .val (.int (own_g lL p2))] [(.int (own_g lR (own_g lL p2))), (.int p2), (.ref al)])) _
    refine st106 _ ?_
    refine XS.aloadN X106.here hx rfl (hb hby d10_19) rfl rfl ?_
    refine st109 _ ?_
    refine XS.iloadN X109.here hx rfl (hb hby d10_23) rfl ?_
    refine XS.iloadN X109.here hx rfl (hb hby d10_24) rfl ?_
    refine st111 _ ?_
    refine XS.aloadN X111.here hx rfl (hb hby d10_26) rfl rfl ?_
    refine XS.iloadN X111.here hx rfl (hb hby d10_27) rfl ?_
    show Steps p.tables e below (T111.setTop (mkF m 28 #[.val (.ref a1), .val (.int p2), .val (.int (own_g lL p2))] [(.int p2), (.ref a1)])) _
    refine st125.trans ?_
    show Steps p.tables e below (T125.setTop (mkF m 31 #[.val (.ref a1), .val (.int p2), .val (.int (own_g lL p2))] [])) _
    refine XS.aloadN X125.here hx rfl (hb hby d10_31) rfl rfl ?_
    refine XS.iloadN X125.here hx rfl (hb hby d10_32) rfl ?_
    show Steps p.tables e below (T125.setTop (mkF m 33 #[.val (.ref a1), .val (.int p2), .val (.int (own_g lL p2))] [(.int (own_g lL p2)), (.ref a1)])) _
    refine st139.trans ?_
    show Steps p.tables e below (T139.setTop (mkF m 36 #[.val (.ref a1), .val (.int p2), .val (.int (own_g lL p2))] [])) _
    refine XS.iloadN X139.here hx rfl (hb hby d10_36) rfl ?_
    show Steps p.tables e below (T139.setTop (mkF m 37 #[.val (.ref a1), .val (.int p2), .val (.int (own_g lL p2))] [(.int (own_g lL p2))])) _
    exact retI X139 hx Bd.returns (hb hby d10_37) hr
  · show Q10 Z a1 p2 al kl lL ar kr lR ac kc lC au ku lT ah kh lH h0 n0 _ T139.heap _
    exact ⟨rfl, N139, (((((Keep.refl h0 [al, ar, au, ah]).wr W106 (Or.inl (List.mem_of_getElem? (i := 0) rfl))).wr W111 (Or.inl (List.mem_of_getElem? (i := 1) rfl))).trans K125 (allS (P := (fun x => x ∈ [al, ar, au, ah] ∨ h0.size ≤ x)) (Or.inl (List.mem_of_getElem? (i := 2) rfl)) (allS (P := (fun x => x ∈ [al, ar, au, ah] ∨ h0.size ≤ x)) (Or.inl (List.mem_of_getElem? (i := 3) rfl)) all0))).trans K139 (allS (P := (fun x => x ∈ [al, ar, au, ah] ∨ h0.size ≤ x)) (Or.inl (List.mem_of_getElem? (i := 2) rfl)) (allS (P := (fun x => x ∈ [al, ar, au, ah] ∨ h0.size ≤ x)) (Or.inl (List.mem_of_getElem? (i := 3) rfl)) all0))), f141, f142, R139_1, R139_2, (own_rngp H22 (H23.2 _)), (own_rngp H23 H21), R139_3, R139_4⟩
abbrev own_e11 (k : Nat) (i : Instr) (l : Nat) : Prop := decode prog_108_method_18_code k = .ok (i, l)
theorem d11_0 : own_e11 0 (.aload_n 0) 1 := by decide +kernel
theorem d11_1 : own_e11 1 (.getfield 17) 3 := by decide +kernel
theorem d11_4 : own_e11 4 (.iload_n 1) 1 := by decide +kernel
theorem d11_5 : own_e11 5 .iaload 1 := by decide +kernel
theorem d11_6 : own_e11 6 (.istore_n 2) 1 := by decide +kernel
theorem d11_7 : own_e11 7 (.aload_n 0) 1 := by decide +kernel
theorem d11_8 : own_e11 8 (.getfield 17) 3 := by decide +kernel
theorem d11_11 : own_e11 11 (.iload_n 1) 1 := by decide +kernel
theorem d11_12 : own_e11 12 (.aload_n 0) 1 := by decide +kernel
theorem d11_13 : own_e11 13 (.getfield 13) 3 := by decide +kernel
theorem d11_16 : own_e11 16 (.iload_n 2) 1 := by decide +kernel
theorem d11_17 : own_e11 17 .iaload 1 := by decide +kernel
theorem d11_18 : own_e11 18 .iastore 1 := by decide +kernel
theorem d11_19 : own_e11 19 (.aload_n 0) 1 := by decide +kernel
theorem d11_20 : own_e11 20 (.getfield 13) 3 := by decide +kernel
theorem d11_23 : own_e11 23 (.iload_n 2) 1 := by decide +kernel
theorem d11_24 : own_e11 24 (.iload_n 1) 1 := by decide +kernel
theorem d11_25 : own_e11 25 .iastore 1 := by decide +kernel
theorem d11_26 : own_e11 26 (.aload_n 0) 1 := by decide +kernel
theorem d11_27 : own_e11 27 (.iload_n 1) 1 := by decide +kernel
theorem d11_28 : own_e11 28 (.invokevirtual 104) 3 := by decide +kernel
theorem d11_31 : own_e11 31 (.aload_n 0) 1 := by decide +kernel
theorem d11_32 : own_e11 32 (.iload_n 2) 1 := by decide +kernel
theorem d11_33 : own_e11 33 (.invokevirtual 104) 3 := by decide +kernel
theorem d11_36 : own_e11 36 (.iload_n 2) 1 := by decide +kernel
theorem d11_37 : own_e11 37 .ireturn 1 := by decide +kernel
theorem ef_11 (m : MethodId) (a1 : Addr) (p2 : Int32) : entryFrame m #[(.ref a1), (.int p2)] 3 = mkF m 0 #[.val (.ref a1), .val (.int p2), .unset] [] := by first | (simp [entryFrame, mkF, argsToLocals, Value.category]; done) | rfl
def Q11 (Z : State) (a1 : Addr) (p2 : Int32) (al : Addr) (kl : ClassId) (lL : List Int32) (ar : Addr) (kr : ClassId) (lR : List Int32) (ac : Addr) (kc : ClassId) (lC : List Int32) (au : Addr) (ku : ClassId) (lT : List Int32) (ah : Addr) (kh : ClassId) (lH : List Int32) (h0 : Heap) (n0 : Nat) (v : Option Value) (h : Heap) (L : List Loc) : Prop := v = some (.int (own_g lR p2)) ∧ Fr n0 L ∧ Keep h0 h [al, ar, au, ah] ∧ Arv Z h al kl .int (16 : Int32) (own_v (own_rl lL lR lC lT lH p2).1) (.int (0 : Int32)) ∧ Arv Z h ar kr .int (16 : Int32) (own_v (own_rl lL lR lC lT lH p2).2.1) (.int (0 : Int32)) ∧ Arv Z h au ku .int (16 : Int32) (own_v (own_rl lL lR lC lT lH p2).2.2.1) (.int (0 : Int32)) ∧ Arv Z h ah kh .byte (16 : Int32) (own_v (own_rl lL lR lC lT lH p2).2.2.2) (.int (0 : Int32)) ∧ own_rng (own_rl lL lR lC lT lH p2).1 ∧ own_rng (own_rl lL lR lC lT lH p2).2.1 ∧ (own_rl lL lR lC lT lH p2).2.2.1.length = 16 ∧ (own_rl lL lR lC lT lH p2).2.2.2.length = 16
set_option maxRecDepth 65536 in
set_option maxHeartbeats 40000000 in
theorem rm11 (l : Launch) (Z : State) (a0 : Array Value) (hw : ∀ d ∈ tables_1, d.before a0 Z = true) (ws : List Jvm.Cond) (a1 : Addr) (p2 : Int32) (al : Addr) (kl : ClassId) (lL : List Int32) (ar : Addr) (kr : ClassId) (lR : List Int32) (ac : Addr) (kc : ClassId) (lC : List Int32) (au : Addr) (ku : ClassId) (lT : List Int32) (ah : Addr) (kh : ClassId) (lH : List Int32) (h0 : Heap) (n0 : Nat) (Z0 : n0 ≤ h0.size) (H0 : Exa Z h0 a1 "com/example/prequential/prequential/measure/ScoreMultiset") (H1 : Fld Z h0 a1 "com/example/prequential/prequential/measure/ScoreMultiset" "left" "[I" (.ref al)) (H2 : Fld Z h0 a1 "com/example/prequential/prequential/measure/ScoreMultiset" "right" "[I" (.ref ar)) (H3 : Fld Z h0 a1 "com/example/prequential/prequential/measure/ScoreMultiset" "count" "[I" (.ref ac)) (H4 : Fld Z h0 a1 "com/example/prequential/prequential/measure/ScoreMultiset" "total" "[I" (.ref au)) (H5 : Fld Z h0 a1 "com/example/prequential/prequential/measure/ScoreMultiset" "height" "[B" (.ref ah)) (H6 : Arv Z h0 al kl .int (16 : Int32) (own_v lL) (.int (0 : Int32))) (H7 : Arv Z h0 ar kr .int (16 : Int32) (own_v lR) (.int (0 : Int32))) (H8 : Arv Z h0 ac kc .int (16 : Int32) (own_v lC) (.int (0 : Int32))) (H9 : Arv Z h0 au ku .int (16 : Int32) (own_v lT) (.int (0 : Int32))) (H10 : Arv Z h0 ah kh .byte (16 : Int32) (own_v lH) (.int (0 : Int32))) (H11 : n0 ≤ al) (H12 : n0 ≤ ar) (H13 : n0 ≤ au) (H14 : n0 ≤ ah) (H15 : al ≠ ar) (H16 : al ≠ ac) (H17 : ar ≠ ac) (H18 : al ≠ au) (H19 : ar ≠ au) (H20 : ac ≠ au) (H21 : own_in p2) (H22 : own_rng lL) (H23 : own_rng lR) (H24 : lC.length = 16) (H25 : lT.length = 16) (H26 : lH.length = 16) :
    own_MF l (⟨"com/example/prequential/prequential/measure/ScoreMultiset", "rotateLeft", "(I)I"⟩ : MethodName) (Jvm.Cond.code (⟨"com/example/prequential/prequential/measure/ScoreMultiset", "rotateLeft", "(I)I"⟩ : MethodName) prog_108_method_18_code 3 (some .int) :: ws) ({ frames := 2, cells := 0, slots := 0, locals := 28 } : Room) #[(.ref a1), (.int p2)] Z h0 (Q11 Z a1 p2 al kl lL ar kr lR ac kc lC au ku lT ah kh lH h0 n0) := by
  refine MetFree.of_bodySF (plainFor_of_name pn_com_example_prequential_prequential_measure_ScoreMultiset) hisR ?_
  intro p e s m args below meth c s₁ Bd hml0 hP hK
  obtain ⟨rfl, hZ, hh⟩ := hP
  have hx := Bd.exec
  have hby := Bd.bytes
  have hml : c.maxLocals = 3 := hml0
  have hown : s.vm.findClass "com/example/prequential/prequential/measure/ScoreMultiset" = some m.cls := findClass_of_methodNamed Bd.named
  have hnm := (name_of_methodNamed Bd.named Bd.method).1
  have X0 : Stand p l e ({ frames := 2, cells := 0, slots := 0, locals := 28 } : Room) s m #[(.ref a1), (.int p2)] below meth c s₁ [] 0 0 := Stand.of_body Bd
  have e0 : s₁.heap = h0 := by rw [← hh, Bd.state]; rfl
  have N0 := Fr.nil n0
  have pre0 : ∀ t, Steps p.tables e below (s₁.setTop (mkF m 0 #[.val (.ref a1), .val (.int p2), .unset] [])) t → Steps p.tables e below (s₁.setTop (entryFrame m #[(.ref a1), (.int p2)] 3)) t := fun t k => castTop (ef_11 m a1 p2) k
  obtain ⟨T101, X101, e101, st101⟩ := getF X0 hx hZ hown (host := "") (Or.inl (own_w hw 16 rfl)) Via.refl e0 H2 (g := (mkF m 1 #[.val (.ref a1), .val (.int p2), .unset] [(.ref a1)])) rfl rfl (hb hby d11_1)
  obtain ⟨T103, X103, e103, st103⟩ := getF X101 hx hZ hown (host := "") (Or.inl (own_w hw 16 rfl)) Via.refl e101 H2 (g := (mkF m 8 #[.val (.ref a1), .val (.int p2), .val (.int (own_g lR p2))] [(.ref a1)])) rfl rfl (hb hby d11_8)
  obtain ⟨T104, X104, e104, st104⟩ := getF X103 hx hZ hown (host := "") (Or.inl (own_w hw 14 rfl)) Via.refl e103 H1 (g := (mkF m 13 #[.val (.ref a1), .val (.int p2), .val (.int (own_g lR p2))] [(.ref a1), (.int p2), (.ref ar)])) rfl rfl (hb hby d11_13)
  obtain ⟨cl106, Ar106, qc106, S106, M106, Hh106, G106⟩ := id H7
  have hin106 : ¬ (p2 < 0 ∨ cl106.slots.size ≤ (p2).toNatClampNeg) := inb_of S106 H21
  obtain ⟨T106, h106, X106, e106, W106, st106⟩ := stI X104 hx hZ e104 Ar106 (j := p2) hin106 (g := (mkF m 18 #[.val (.ref a1), .val (.int p2), .val (.int (own_g lR p2))] [(.int (own_g lL (own_g lR p2))), (.int p2), (.ref ar)])) rfl rfl (hb hby d11_18)
  have V106 : Arv Z h106 ar kr .int (16 : Int32) (own_v (own_p lR p2 (own_g lL (own_g lR p2)))) (.int (0 : Int32)) := by rw [own_vp]; exact Arv.set Ar106 qc106 S106 M106 Hh106 G106 rfl W106 p2.toNatClampNeg (rfl) (own_vlt H21 H23.1)
  have N106 := Fr.snoc X106 N0 H12
  have ne107 : a1 ≠ ar := Exa.neArv (H0.wr W106) V106 (own_w hw 2 rfl)
  have f108 := (H1.other W106 (Or.inl ne107))
  obtain ⟨T109, X109, e109, st109⟩ := getF X106 hx hZ hown (host := "") (Or.inl (own_w hw 14 rfl)) Via.refl e106 f108 (g := (mkF m 20 #[.val (.ref a1), .val (.int p2), .val (.int (own_g lR p2))] [(.ref a1)])) rfl rfl (hb hby d11_20)
  have f110 := (H6.other W106 H15)
  obtain ⟨cl111, Ar111, qc111, S111, M111, Hh111, G111⟩ := id f110
  have hin111 : ¬ ((own_g lR p2) < 0 ∨ cl111.slots.size ≤ ((own_g lR p2)).toNatClampNeg) := inb_of S111 (H23.2 _)
  obtain ⟨T111, h111, X111, e111, W111, st111⟩ := stI X109 hx hZ e109 Ar111 (j := (own_g lR p2)) hin111 (g := (mkF m 25 #[.val (.ref a1), .val (.int p2), .val (.int (own_g lR p2))] [(.int p2), (.int (own_g lR p2)), (.ref al)])) rfl rfl (hb hby d11_25)
  have V111 : Arv Z h111 al kl .int (16 : Int32) (own_v (own_p lL (own_g lR p2) p2)) (.int (0 : Int32)) := by rw [own_vp]; exact Arv.set Ar111 qc111 S111 M111 Hh111 G111 rfl W111 (own_g lR p2).toNatClampNeg (rfl) (own_vlt (H23.2 _) H22.1)
  have N111 := Fr.snoc X111 N106 H11
  have f112 := ((H0.wr W106).wr W111)
  have ne113 : a1 ≠ al := Exa.neArv f112 V111 (own_w hw 2 rfl)
  have f114 := (f108.other W111 (Or.inl ne113))
  have f115 := ((H2.other W106 (Or.inl ne107)).other W111 (Or.inl ne113))
  have f116 := ((H3.other W106 (Or.inl ne107)).other W111 (Or.inl ne113))
  have f117 := ((H4.other W106 (Or.inl ne107)).other W111 (Or.inl ne113))
  have f118 := ((H5.other W106 (Or.inl ne107)).other W111 (Or.inl ne113))
  have f119 := (V106.other W111 (Ne.symm H15))
  have f120 := ((H8.other W106 (Ne.symm H17)).other W111 (Ne.symm H16))
  have f121 := ((H9.other W106 (Ne.symm H19)).other W111 (Ne.symm H18))
  have ne122 : ah ≠ ar := own_ne_arv H10 H7 (by decide)
  have ne123 : ah ≠ al := own_ne_arv H10 H6 (by decide)
  have f124 := ((H10.other W106 ne122).other W111 ne123)
  have z126 : n0 ≤ h111.size := (Nat.le_trans (Nat.le_trans Z0 (Nat.le_of_eq W106.size.symm)) (Nat.le_of_eq W111.size.symm))
  obtain ⟨cq125, q125, q125'⟩ := f112.cell
  obtain ⟨_, _, ⟨T125, L125, k125, n125⟩, -, X125, ⟨Lc125, hQ125, l125, y125, z125⟩, st125⟩ := X111.privateBack hx (y := (⟨"com/example/prequential/prequential/measure/ScoreMultiset", "update", "(I)V"⟩ : MethodName)) hown (mvT hZ (own_w hw 54 rfl)) (mvT hZ (own_w hw 55 rfl)) (mvT hZ (own_selp (by decide) (own_w hw 2 rfl) (own_w hw 56 rfl) (own_w hw 55 rfl))) (Cond.privateMethod_at (mvP hZ (own_w hw 56 rfl) (args := #[]))) (mvT hZ (own_w hw 57 rfl)) (by decide) (backOf (W := 0) (rm8 l Z a0 hw [] a1 p2 al kl (own_p lL (own_g lR p2) p2) ar kr (own_p lR p2 (own_g lL (own_g lR p2))) ac kc lC au ku lT ah kh lH h111 n0 z126 f112 f114 f115 f116 f117 f118 V111 f119 f120 f121 f124 H13 H14 H18 H19 H20 H21 (own_rngp H22 H21) (own_rngp H23 (H22.2 _)) H24 H25 H26) hZ (own_w hw 57 rfl) (own_w hw 3 rfl) (by decide) (by decide)) (g := (mkF m 28 #[.val (.ref a1), .val (.int p2), .val (.int (own_g lR p2))] [(.int p2), (.ref a1)])) rfl (by rw [hml]; rfl) (Steps.refl _) (a := a1) (by rw [e111]; exact q125) q125' (argsL := [(.int p2)]) (rest := []) (lenOf pd_1 rfl) rfl (by show 2 * 0 + _ ≤ _; exact Nat.le_of_eq rfl) (hb hby d11_28) (fun _ _ => ⟨rfl, e111, (by decide : 0 + 0 ≤ _), (by decide : 0 + 0 ≤ _)⟩)
  dsimp only [Pt.U, Pt.locs, Pt.cells, Pt.slots] at X125 l125 y125 z125 st125 hQ125
  subst l125 y125 z125
  obtain ⟨rfl, Nq125, K125, R125_1, R125_2, R125_3, R125_4⟩ := hQ125
  have N125 := Fr.app N111 Nq125
  have f127 := (f112.keep K125)
  have ne128 : a1 ≠ ah := Exa.neArv f127 R125_2 (own_w hw 2 rfl)
  have ne129 : a1 ≠ au := Exa.neArv f127 R125_1 (own_w hw 2 rfl)
  have f130 := (f114.keep K125 (ninS ne129 (ninS ne128 nin0)))
  have f131 := (f115.keep K125 (ninS ne129 (ninS ne128 nin0)))
  have f132 := (f116.keep K125 (ninS ne129 (ninS ne128 nin0)))
  have f133 := (f117.keep K125 (ninS ne129 (ninS ne128 nin0)))
  have f134 := (f118.keep K125 (ninS ne129 (ninS ne128 nin0)))
  have f135 := (V111.keep K125 (ninS H18 (ninS (Ne.symm ne123) nin0)))
  have f136 := (f119.keep K125 (ninS H19 (ninS (Ne.symm ne122) nin0)))
  have ne137 : ac ≠ ah := own_ne_arv H8 H10 (by decide)
  have f138 := (f120.keep K125 (ninS H20 (ninS ne137 nin0)))
  have z140 : n0 ≤ T125.heap.size := (Nat.le_trans z126 K125.1)
  obtain ⟨cq139, q139, q139'⟩ := f127.cell
  obtain ⟨_, _, ⟨T139, L139, k139, n139⟩, -, X139, ⟨Lc139, hQ139, l139, y139, z139⟩, st139⟩ := X125.privateBack hx (y := (⟨"com/example/prequential/prequential/measure/ScoreMultiset", "update", "(I)V"⟩ : MethodName)) hown (mvT hZ (own_w hw 54 rfl)) (mvT hZ (own_w hw 55 rfl)) (mvT hZ (own_selp (by decide) (own_w hw 2 rfl) (own_w hw 56 rfl) (own_w hw 55 rfl))) (Cond.privateMethod_at (mvP hZ (own_w hw 56 rfl) (args := #[]))) (mvT hZ (own_w hw 57 rfl)) (by decide) (backOf (W := 0) (rm8 l Z a0 hw [] a1 (own_g lR p2) al kl (own_p lL (own_g lR p2) p2) ar kr (own_p lR p2 (own_g lL (own_g lR p2))) ac kc lC au ku (own_uT (own_p lL (own_g lR p2) p2) (own_p lR p2 (own_g lL (own_g lR p2))) lC lT p2) ah kh (own_uH (own_p lL (own_g lR p2) p2) (own_p lR p2 (own_g lL (own_g lR p2))) lH p2) T125.heap n0 z140 f127 f130 f131 f132 f133 f134 f135 f136 f138 R125_1 R125_2 H13 H14 H18 H19 H20 (H23.2 _) (own_rngp H22 H21) (own_rngp H23 (H22.2 _)) H24 R125_3 R125_4) hZ (own_w hw 57 rfl) (own_w hw 3 rfl) (by decide) (by decide)) (g := (mkF m 33 #[.val (.ref a1), .val (.int p2), .val (.int (own_g lR p2))] [(.int (own_g lR p2)), (.ref a1)])) rfl (by rw [hml]; rfl) (Steps.refl _) (a := a1) q139 q139' (argsL := [(.int (own_g lR p2))]) (rest := []) (lenOf pd_1 rfl) rfl (by show 2 * 0 + _ ≤ _; exact Nat.le_of_eq rfl) (hb hby d11_33) (fun _ _ => ⟨rfl, rfl, (by decide : 0 + 0 ≤ _), (by decide : 0 + 0 ≤ _)⟩)
  dsimp only [Pt.U, Pt.locs, Pt.cells, Pt.slots] at X139 l139 y139 z139 st139 hQ139
  subst l139 y139 z139
  obtain ⟨rfl, Nq139, K139, R139_1, R139_2, R139_3, R139_4⟩ := hQ139
  have N139 := Fr.app N125 Nq139
  have f141 := (f135.keep K139 (ninS H18 (ninS (Ne.symm ne123) nin0)))
  have f142 := (f136.keep K139 (ninS H19 (ninS (Ne.symm ne122) nin0)))
  obtain ⟨fs, hr, hrun, hended, hW, hsame⟩ := X139.leave (v := some (.int (own_g lR p2))) (fun h => by rw [Bd.returns] at h; cases h) (BodyLoose.notSynchronized Bd)
  refine ⟨_, _, pre0 _ ?_, hrun, hended, _, _, rfl, ?_, ⟨_, rfl⟩, hW, hsame.mono (by decide) (by decide)⟩
  · skip
    show Steps p.tables e below (s₁.setTop (mkF m 0 #[.val (.ref a1), .val (.int p2), .unset] [])) _
    refine XS.aloadN X0.here hx rfl (hb hby d11_0) rfl rfl ?_
    refine st101 _ ?_
    refine XS.iloadN X101.here hx rfl (hb hby d11_4) rfl ?_
    show Steps p.tables e below (T101.setTop (mkF m 5 #[.val (.ref a1), .val (.int p2), .unset] [(.int p2), (.ref ar)])) _
    refine own_ia X101 hx hZ e101 H7 H21 (hb hby d11_5) ?_
    show Steps p.tables e below (T101.setTop (mkF m 6 #[.val (.ref a1), .val (.int p2), .unset] [(.int (own_g lR p2))])) _
    refine XS.istoreN X101.here hx rfl (hb hby d11_6) rfl (l' := #[.val (.ref a1), .val (.int p2), .val (.int (own_g lR p2))]) rfl ?_
    refine XS.aloadN X101.here hx rfl (hb hby d11_7) rfl rfl ?_
    refine st103 _ ?_
    refine XS.iloadN X103.here hx rfl (hb hby d11_11) rfl ?_
    refine XS.aloadN X103.here hx rfl (hb hby d11_12) rfl rfl ?_
    refine st104 _ ?_
    refine XS.iloadN X104.here hx rfl (hb hby d11_16) rfl ?_
    show Steps p.tables e below (T104.setTop (mkF m 17 #[.val (.ref a1), .val (.int p2), .val (.int (own_g lR p2))] [(.int (own_g lR p2)), (.ref al), (.int p2), (.ref ar)])) _
    refine own_ia X104 hx hZ e104 H6 (H23.2 _) (hb hby d11_17) ?_
    show Steps p.tables e below (T104.setTop (mkF m 18 #[.val (.ref a1), .val (.int p2), .val (.int (own_g lR p2))] [(.int (own_g lL (own_g lR p2))), (.int p2), (.ref ar)])) _
    refine st106 _ ?_
    refine XS.aloadN X106.here hx rfl (hb hby d11_19) rfl rfl ?_
    refine st109 _ ?_
    refine XS.iloadN X109.here hx rfl (hb hby d11_23) rfl ?_
    refine XS.iloadN X109.here hx rfl (hb hby d11_24) rfl ?_
    refine st111 _ ?_
    refine XS.aloadN X111.here hx rfl (hb hby d11_26) rfl rfl ?_
    refine XS.iloadN X111.here hx rfl (hb hby d11_27) rfl ?_
    show Steps p.tables e below (T111.setTop (mkF m 28 #[.val (.ref a1), .val (.int p2), .val (.int (own_g lR p2))] [(.int p2), (.ref a1)])) _
    refine st125.trans ?_
    show Steps p.tables e below (T125.setTop (mkF m 31 #[.val (.ref a1), .val (.int p2), .val (.int (own_g lR p2))] [])) _
    refine XS.aloadN X125.here hx rfl (hb hby d11_31) rfl rfl ?_
    refine XS.iloadN X125.here hx rfl (hb hby d11_32) rfl ?_
    show Steps p.tables e below (T125.setTop (mkF m 33 #[.val (.ref a1), .val (.int p2), .val (.int (own_g lR p2))] [(.int (own_g lR p2)), (.ref a1)])) _
    refine st139.trans ?_
    show Steps p.tables e below (T139.setTop (mkF m 36 #[.val (.ref a1), .val (.int p2), .val (.int (own_g lR p2))] [])) _
    refine XS.iloadN X139.here hx rfl (hb hby d11_36) rfl ?_
    show Steps p.tables e below (T139.setTop (mkF m 37 #[.val (.ref a1), .val (.int p2), .val (.int (own_g lR p2))] [(.int (own_g lR p2))])) _
    exact retI X139 hx Bd.returns (hb hby d11_37) hr
  · show Q11 Z a1 p2 al kl lL ar kr lR ac kc lC au ku lT ah kh lH h0 n0 _ T139.heap _
    exact ⟨rfl, N139, (((((Keep.refl h0 [al, ar, au, ah]).wr W106 (Or.inl (List.mem_of_getElem? (i := 1) rfl))).wr W111 (Or.inl (List.mem_of_getElem? (i := 0) rfl))).trans K125 (allS (P := (fun x => x ∈ [al, ar, au, ah] ∨ h0.size ≤ x)) (Or.inl (List.mem_of_getElem? (i := 2) rfl)) (allS (P := (fun x => x ∈ [al, ar, au, ah] ∨ h0.size ≤ x)) (Or.inl (List.mem_of_getElem? (i := 3) rfl)) all0))).trans K139 (allS (P := (fun x => x ∈ [al, ar, au, ah] ∨ h0.size ≤ x)) (Or.inl (List.mem_of_getElem? (i := 2) rfl)) (allS (P := (fun x => x ∈ [al, ar, au, ah] ∨ h0.size ≤ x)) (Or.inl (List.mem_of_getElem? (i := 3) rfl)) all0))), f141, f142, R139_1, R139_2, (own_rngp H22 H21), (own_rngp H23 (H22.2 _)), R139_3, R139_4⟩
abbrev own_e7 (k : Nat) (i : Instr) (l : Nat) : Prop := decode prog_108_method_16_code k = .ok (i, l)
theorem d7_0 : own_e7 0 (.aload_n 0) 1 := by decide +kernel
theorem d7_1 : own_e7 1 (.getfield 26) 3 := by decide +kernel
theorem d7_4 : own_e7 4 (.aload_n 0) 1 := by decide +kernel
theorem d7_5 : own_e7 5 (.getfield 13) 3 := by decide +kernel
theorem d7_8 : own_e7 8 (.iload_n 1) 1 := by decide +kernel
theorem d7_9 : own_e7 9 .iaload 1 := by decide +kernel
theorem d7_10 : own_e7 10 .baload 1 := by decide +kernel
theorem d7_11 : own_e7 11 (.aload_n 0) 1 := by decide +kernel
theorem d7_12 : own_e7 12 (.getfield 26) 3 := by decide +kernel
theorem d7_15 : own_e7 15 (.aload_n 0) 1 := by decide +kernel
theorem d7_16 : own_e7 16 (.getfield 17) 3 := by decide +kernel
theorem d7_19 : own_e7 19 (.iload_n 1) 1 := by decide +kernel
theorem d7_20 : own_e7 20 .iaload 1 := by decide +kernel
theorem d7_21 : own_e7 21 .baload 1 := by decide +kernel
theorem d7_22 : own_e7 22 .isub 1 := by decide +kernel
theorem d7_23 : own_e7 23 (.istore_n 2) 1 := by decide +kernel
theorem d7_24 : own_e7 24 (.iload_n 2) 1 := by decide +kernel
theorem d7_25 : own_e7 25 (.iconst 1) 1 := by decide +kernel
theorem d7_26 : own_e7 26 (.if_icmp .le 52) 3 := by decide +kernel
theorem d7_29 : own_e7 29 (.aload_n 0) 1 := by decide +kernel
theorem d7_30 : own_e7 30 (.getfield 13) 3 := by decide +kernel
theorem d7_33 : own_e7 33 (.iload_n 1) 1 := by decide +kernel
theorem d7_34 : own_e7 34 .iaload 1 := by decide +kernel
theorem d7_35 : own_e7 35 (.istore_n 3) 1 := by decide +kernel
theorem d7_36 : own_e7 36 (.aload_n 0) 1 := by decide +kernel
theorem d7_37 : own_e7 37 (.getfield 26) 3 := by decide +kernel
theorem d7_40 : own_e7 40 (.aload_n 0) 1 := by decide +kernel
theorem d7_41 : own_e7 41 (.getfield 17) 3 := by decide +kernel
theorem d7_44 : own_e7 44 (.iload_n 3) 1 := by decide +kernel
theorem d7_45 : own_e7 45 .iaload 1 := by decide +kernel
theorem d7_46 : own_e7 46 .baload 1 := by decide +kernel
theorem d7_47 : own_e7 47 (.aload_n 0) 1 := by decide +kernel
theorem d7_48 : own_e7 48 (.getfield 26) 3 := by decide +kernel
theorem d7_51 : own_e7 51 (.aload_n 0) 1 := by decide +kernel
theorem d7_52 : own_e7 52 (.getfield 13) 3 := by decide +kernel
theorem d7_55 : own_e7 55 (.iload_n 3) 1 := by decide +kernel
theorem d7_56 : own_e7 56 .iaload 1 := by decide +kernel
theorem d7_57 : own_e7 57 .baload 1 := by decide +kernel
theorem d7_58 : own_e7 58 (.if_icmp .le 14) 3 := by decide +kernel
theorem d7_61 : own_e7 61 (.aload_n 0) 1 := by decide +kernel
theorem d7_62 : own_e7 62 (.getfield 13) 3 := by decide +kernel
theorem d7_65 : own_e7 65 (.iload_n 1) 1 := by decide +kernel
theorem d7_66 : own_e7 66 (.aload_n 0) 1 := by decide +kernel
theorem d7_67 : own_e7 67 (.iload_n 3) 1 := by decide +kernel
theorem d7_68 : own_e7 68 (.invokevirtual 98) 3 := by decide +kernel
theorem pd_2 : parseMethodDescriptor "(I)I" = some ⟨[.int], some .int⟩ := by decide +kernel
theorem d7_71 : own_e7 71 .iastore 1 := by decide +kernel
theorem d7_72 : own_e7 72 (.aload_n 0) 1 := by decide +kernel
theorem d7_73 : own_e7 73 (.iload_n 1) 1 := by decide +kernel
theorem d7_74 : own_e7 74 (.invokevirtual 101) 3 := by decide +kernel
theorem d7_77 : own_e7 77 .ireturn 1 := by decide +kernel
theorem d7_78 : own_e7 78 (.iload_n 2) 1 := by decide +kernel
theorem d7_79 : own_e7 79 (.iconst (-1)) 1 := by decide +kernel
theorem d7_80 : own_e7 80 (.if_icmp .ge 52) 3 := by decide +kernel
theorem d7_83 : own_e7 83 (.aload_n 0) 1 := by decide +kernel
theorem d7_84 : own_e7 84 (.getfield 17) 3 := by decide +kernel
theorem d7_87 : own_e7 87 (.iload_n 1) 1 := by decide +kernel
theorem d7_88 : own_e7 88 .iaload 1 := by decide +kernel
theorem d7_89 : own_e7 89 (.istore_n 3) 1 := by decide +kernel
theorem d7_90 : own_e7 90 (.aload_n 0) 1 := by decide +kernel
theorem d7_91 : own_e7 91 (.getfield 26) 3 := by decide +kernel
theorem d7_94 : own_e7 94 (.aload_n 0) 1 := by decide +kernel
theorem d7_95 : own_e7 95 (.getfield 13) 3 := by decide +kernel
theorem d7_98 : own_e7 98 (.iload_n 3) 1 := by decide +kernel
theorem d7_99 : own_e7 99 .iaload 1 := by decide +kernel
theorem d7_100 : own_e7 100 .baload 1 := by decide +kernel
theorem d7_101 : own_e7 101 (.aload_n 0) 1 := by decide +kernel
theorem d7_102 : own_e7 102 (.getfield 26) 3 := by decide +kernel
theorem d7_105 : own_e7 105 (.aload_n 0) 1 := by decide +kernel
theorem d7_106 : own_e7 106 (.getfield 17) 3 := by decide +kernel
theorem d7_109 : own_e7 109 (.iload_n 3) 1 := by decide +kernel
theorem d7_110 : own_e7 110 .iaload 1 := by decide +kernel
theorem d7_111 : own_e7 111 .baload 1 := by decide +kernel
theorem d7_112 : own_e7 112 (.if_icmp .le 14) 3 := by decide +kernel
theorem d7_115 : own_e7 115 (.aload_n 0) 1 := by decide +kernel
theorem d7_116 : own_e7 116 (.getfield 17) 3 := by decide +kernel
theorem d7_119 : own_e7 119 (.iload_n 1) 1 := by decide +kernel
theorem d7_120 : own_e7 120 (.aload_n 0) 1 := by decide +kernel
theorem d7_121 : own_e7 121 (.iload_n 3) 1 := by decide +kernel
theorem d7_122 : own_e7 122 (.invokevirtual 101) 3 := by decide +kernel
theorem d7_125 : own_e7 125 .iastore 1 := by decide +kernel
theorem d7_126 : own_e7 126 (.aload_n 0) 1 := by decide +kernel
theorem d7_127 : own_e7 127 (.iload_n 1) 1 := by decide +kernel
theorem d7_128 : own_e7 128 (.invokevirtual 98) 3 := by decide +kernel
theorem d7_131 : own_e7 131 .ireturn 1 := by decide +kernel
theorem d7_132 : own_e7 132 (.aload_n 0) 1 := by decide +kernel
theorem d7_133 : own_e7 133 (.iload_n 1) 1 := by decide +kernel
theorem d7_134 : own_e7 134 (.invokevirtual 104) 3 := by decide +kernel
theorem d7_137 : own_e7 137 (.iload_n 1) 1 := by decide +kernel
theorem d7_138 : own_e7 138 .ireturn 1 := by decide +kernel
theorem ef_7 (m : MethodId) (a1 : Addr) (p2 : Int32) : entryFrame m #[(.ref a1), (.int p2)] 4 = mkF m 0 #[.val (.ref a1), .val (.int p2), .unset, .unset] [] := by first | (simp [entryFrame, mkF, argsToLocals, Value.category]; done) | rfl
def Q7 (Z : State) (a1 : Addr) (p2 : Int32) (al : Addr) (kl : ClassId) (lL : List Int32) (ar : Addr) (kr : ClassId) (lR : List Int32) (ac : Addr) (kc : ClassId) (lC : List Int32) (au : Addr) (ku : ClassId) (lT : List Int32) (ah : Addr) (kh : ClassId) (lH : List Int32) (h0 : Heap) (n0 : Nat) (v : Option Value) (h : Heap) (L : List Loc) : Prop := v = some (.int (own_bal lL lR lC lT lH p2).2) ∧ Fr n0 L ∧ Keep h0 h [al, ar, au, ah] ∧ Arv Z h al kl .int (16 : Int32) (own_v (own_bal lL lR lC lT lH p2).1.1) (.int (0 : Int32)) ∧ Arv Z h ar kr .int (16 : Int32) (own_v (own_bal lL lR lC lT lH p2).1.2.1) (.int (0 : Int32)) ∧ Arv Z h au ku .int (16 : Int32) (own_v (own_bal lL lR lC lT lH p2).1.2.2.1) (.int (0 : Int32)) ∧ Arv Z h ah kh .byte (16 : Int32) (own_v (own_bal lL lR lC lT lH p2).1.2.2.2) (.int (0 : Int32)) ∧ own_rng (own_bal lL lR lC lT lH p2).1.1 ∧ own_rng (own_bal lL lR lC lT lH p2).1.2.1 ∧ (own_bal lL lR lC lT lH p2).1.2.2.1.length = 16 ∧ (own_bal lL lR lC lT lH p2).1.2.2.2.length = 16 ∧ own_in (own_bal lL lR lC lT lH p2).2
set_option maxRecDepth 65536 in
set_option maxHeartbeats 40000000 in
theorem rm7 (l : Launch) (Z : State) (a0 : Array Value) (hw : ∀ d ∈ tables_1, d.before a0 Z = true) (ws : List Jvm.Cond) (a1 : Addr) (p2 : Int32) (al : Addr) (kl : ClassId) (lL : List Int32) (ar : Addr) (kr : ClassId) (lR : List Int32) (ac : Addr) (kc : ClassId) (lC : List Int32) (au : Addr) (ku : ClassId) (lT : List Int32) (ah : Addr) (kh : ClassId) (lH : List Int32) (h0 : Heap) (n0 : Nat) (Z0 : n0 ≤ h0.size) (H0 : Exa Z h0 a1 "com/example/prequential/prequential/measure/ScoreMultiset") (H1 : Fld Z h0 a1 "com/example/prequential/prequential/measure/ScoreMultiset" "left" "[I" (.ref al)) (H2 : Fld Z h0 a1 "com/example/prequential/prequential/measure/ScoreMultiset" "right" "[I" (.ref ar)) (H3 : Fld Z h0 a1 "com/example/prequential/prequential/measure/ScoreMultiset" "count" "[I" (.ref ac)) (H4 : Fld Z h0 a1 "com/example/prequential/prequential/measure/ScoreMultiset" "total" "[I" (.ref au)) (H5 : Fld Z h0 a1 "com/example/prequential/prequential/measure/ScoreMultiset" "height" "[B" (.ref ah)) (H6 : Arv Z h0 al kl .int (16 : Int32) (own_v lL) (.int (0 : Int32))) (H7 : Arv Z h0 ar kr .int (16 : Int32) (own_v lR) (.int (0 : Int32))) (H8 : Arv Z h0 ac kc .int (16 : Int32) (own_v lC) (.int (0 : Int32))) (H9 : Arv Z h0 au ku .int (16 : Int32) (own_v lT) (.int (0 : Int32))) (H10 : Arv Z h0 ah kh .byte (16 : Int32) (own_v lH) (.int (0 : Int32))) (H11 : n0 ≤ al) (H12 : n0 ≤ ar) (H13 : n0 ≤ au) (H14 : n0 ≤ ah) (H15 : al ≠ ar) (H16 : al ≠ ac) (H17 : ar ≠ ac) (H18 : al ≠ au) (H19 : ar ≠ au) (H20 : ac ≠ au) (H21 : own_in p2) (H22 : own_rng lL) (H23 : own_rng lR) (H24 : lC.length = 16) (H25 : lT.length = 16) (H26 : lH.length = 16) :
    own_MF l (⟨"com/example/prequential/prequential/measure/ScoreMultiset", "balance", "(I)I"⟩ : MethodName) (Jvm.Cond.code (⟨"com/example/prequential/prequential/measure/ScoreMultiset", "balance", "(I)I"⟩ : MethodName) prog_108_method_16_code 4 (some .int) :: ws) ({ frames := 3, cells := 0, slots := 0, locals := 44 } : Room) #[(.ref a1), (.int p2)] Z h0 (Q7 Z a1 p2 al kl lL ar kr lR ac kc lC au ku lT ah kh lH h0 n0) := by
  refine MetFree.of_bodySF (plainFor_of_name pn_com_example_prequential_prequential_measure_ScoreMultiset) hisR ?_
  intro p e s m args below meth c s₁ Bd hml0 hP hK
  obtain ⟨rfl, hZ, hh⟩ := hP
  have hx := Bd.exec
  have hby := Bd.bytes
  have hml : c.maxLocals = 4 := hml0
  have hown : s.vm.findClass "com/example/prequential/prequential/measure/ScoreMultiset" = some m.cls := findClass_of_methodNamed Bd.named
  have hnm := (name_of_methodNamed Bd.named Bd.method).1
  have X0 : Stand p l e ({ frames := 3, cells := 0, slots := 0, locals := 44 } : Room) s m #[(.ref a1), (.int p2)] below meth c s₁ [] 0 0 := Stand.of_body Bd
  have e0 : s₁.heap = h0 := by rw [← hh, Bd.state]; rfl
  have N0 := Fr.nil n0
  have pre0 : ∀ t, Steps p.tables e below (s₁.setTop (mkF m 0 #[.val (.ref a1), .val (.int p2), .unset, .unset] [])) t → Steps p.tables e below (s₁.setTop (entryFrame m #[(.ref a1), (.int p2)] 4)) t := fun t k => castTop (ef_7 m a1 p2) k
  obtain ⟨T101, X101, e101, st101⟩ := getF X0 hx hZ hown (host := "") (Or.inl (own_w hw 23 rfl)) Via.refl e0 H5 (g := (mkF m 1 #[.val (.ref a1), .val (.int p2), .unset, .unset] [(.ref a1)])) rfl rfl (hb hby d7_1)
  obtain ⟨T102, X102, e102, st102⟩ := getF X101 hx hZ hown (host := "") (Or.inl (own_w hw 14 rfl)) Via.refl e101 H1 (g := (mkF m 5 #[.val (.ref a1), .val (.int p2), .unset, .unset] [(.ref a1), (.ref ah)])) rfl rfl (hb hby d7_5)
  obtain ⟨T105, X105, e105, st105⟩ := getF X102 hx hZ hown (host := "") (Or.inl (own_w hw 23 rfl)) Via.refl e102 H5 (g := (mkF m 12 #[.val (.ref a1), .val (.int p2), .unset, .unset] [(.ref a1), (.int (own_g lH (own_g lL p2)))])) rfl rfl (hb hby d7_12)
  obtain ⟨T106, X106, e106, st106⟩ := getF X105 hx hZ hown (host := "") (Or.inl (own_w hw 16 rfl)) Via.refl e105 H2 (g := (mkF m 16 #[.val (.ref a1), .val (.int p2), .unset, .unset] [(.ref a1), (.ref ah), (.int (own_g lH (own_g lL p2)))])) rfl rfl (hb hby d7_16)
  have pre109 : ∀ t, Steps p.tables e below (T106.setTop (mkF m 26 #[.val (.ref a1), .val (.int p2), .val (.int ((own_g lH (own_g lL p2)) - (own_g lH (own_g lR p2)))), .unset] [(.int (1 : Int32)), (.int ((own_g lH (own_g lL p2)) - (own_g lH (own_g lR p2))))])) t → Steps p.tables e below (s₁.setTop (entryFrame m #[(.ref a1), (.int p2)] 4)) t := fun t kt => by
    refine pre0 t ?_
    show Steps p.tables e below (s₁.setTop (mkF m 0 #[.val (.ref a1), .val (.int p2), .unset, .unset] [])) _
    refine XS.aloadN X0.here hx rfl (hb hby d7_0) rfl rfl ?_
    refine st101 _ ?_
    refine XS.aloadN X101.here hx rfl (hb hby d7_4) rfl rfl ?_
    refine st102 _ ?_
    refine XS.iloadN X102.here hx rfl (hb hby d7_8) rfl ?_
    show Steps p.tables e below (T102.setTop (mkF m 9 #[.val (.ref a1), .val (.int p2), .unset, .unset] [(.int p2), (.ref al), (.ref ah)])) _
    refine own_ia X102 hx hZ e102 H6 H21 (hb hby d7_9) ?_
    show Steps p.tables e below (T102.setTop (mkF m 10 #[.val (.ref a1), .val (.int p2), .unset, .unset] [(.int (own_g lL p2)), (.ref ah)])) _
    refine own_ba X102 hx hZ e102 H10 (H22.2 _) (hb hby d7_10) ?_
    show Steps p.tables e below (T102.setTop (mkF m 11 #[.val (.ref a1), .val (.int p2), .unset, .unset] [(.int (own_g lH (own_g lL p2)))])) _
    refine XS.aloadN X102.here hx rfl (hb hby d7_11) rfl rfl ?_
    refine st105 _ ?_
    refine XS.aloadN X105.here hx rfl (hb hby d7_15) rfl rfl ?_
    refine st106 _ ?_
    refine XS.iloadN X106.here hx rfl (hb hby d7_19) rfl ?_
    show Steps p.tables e below (T106.setTop (mkF m 20 #[.val (.ref a1), .val (.int p2), .unset, .unset] [(.int p2), (.ref ar), (.ref ah), (.int (own_g lH (own_g lL p2)))])) _
    refine own_ia X106 hx hZ e106 H7 H21 (hb hby d7_20) ?_
    show Steps p.tables e below (T106.setTop (mkF m 21 #[.val (.ref a1), .val (.int p2), .unset, .unset] [(.int (own_g lR p2)), (.ref ah), (.int (own_g lH (own_g lL p2)))])) _
    refine own_ba X106 hx hZ e106 H10 (H23.2 _) (hb hby d7_21) ?_
    show Steps p.tables e below (T106.setTop (mkF m 22 #[.val (.ref a1), .val (.int p2), .unset, .unset] [(.int (own_g lH (own_g lR p2))), (.int (own_g lH (own_g lL p2)))])) _
    refine XS.isub X106.here hx rfl (hb hby d7_22) rfl ?_
    refine XS.istoreN X106.here hx rfl (hb hby d7_23) rfl (l' := #[.val (.ref a1), .val (.int p2), .val (.int ((own_g lH (own_g lL p2)) - (own_g lH (own_g lR p2)))), .unset]) rfl ?_
    refine XS.iloadN X106.here hx rfl (hb hby d7_24) rfl ?_
    refine XS.iconst X106.here hx rfl (hb hby d7_25) ?_
    show Steps p.tables e below (T106.setTop (mkF m 26 #[.val (.ref a1), .val (.int p2), .val (.int ((own_g lH (own_g lL p2)) - (own_g lH (own_g lR p2)))), .unset] [(.int (1 : Int32)), (.int ((own_g lH (own_g lL p2)) - (own_g lH (own_g lR p2))))])) _
    exact kt
  by_cases hc26_110 : (1 : Int32) < ((own_g lH (own_g lL p2)) - (own_g lH (own_g lR p2)))
  · skip
    obtain ⟨T111, X111, e111, st111⟩ := getF X106 hx hZ hown (host := "") (Or.inl (own_w hw 14 rfl)) Via.refl e106 H1 (g := (mkF m 30 #[.val (.ref a1), .val (.int p2), .val (.int ((own_g lH (own_g lL p2)) - (own_g lH (own_g lR p2)))), .unset] [(.ref a1)])) rfl rfl (hb hby d7_30)
    obtain ⟨T113, X113, e113, st113⟩ := getF X111 hx hZ hown (host := "") (Or.inl (own_w hw 23 rfl)) Via.refl e111 H5 (g := (mkF m 37 #[.val (.ref a1), .val (.int p2), .val (.int ((own_g lH (own_g lL p2)) - (own_g lH (own_g lR p2)))), .val (.int (own_g lL p2))] [(.ref a1)])) rfl rfl (hb hby d7_37)
    obtain ⟨T114, X114, e114, st114⟩ := getF X113 hx hZ hown (host := "") (Or.inl (own_w hw 16 rfl)) Via.refl e113 H2 (g := (mkF m 41 #[.val (.ref a1), .val (.int p2), .val (.int ((own_g lH (own_g lL p2)) - (own_g lH (own_g lR p2)))), .val (.int (own_g lL p2))] [(.ref a1), (.ref ah)])) rfl rfl (hb hby d7_41)
    obtain ⟨T117, X117, e117, st117⟩ := getF X114 hx hZ hown (host := "") (Or.inl (own_w hw 23 rfl)) Via.refl e114 H5 (g := (mkF m 48 #[.val (.ref a1), .val (.int p2), .val (.int ((own_g lH (own_g lL p2)) - (own_g lH (own_g lR p2)))), .val (.int (own_g lL p2))] [(.ref a1), (.int (own_g lH (own_g lR (own_g lL p2))))])) rfl rfl (hb hby d7_48)
    obtain ⟨T118, X118, e118, st118⟩ := getF X117 hx hZ hown (host := "") (Or.inl (own_w hw 14 rfl)) Via.refl e117 H1 (g := (mkF m 52 #[.val (.ref a1), .val (.int p2), .val (.int ((own_g lH (own_g lL p2)) - (own_g lH (own_g lR p2)))), .val (.int (own_g lL p2))] [(.ref a1), (.ref ah), (.int (own_g lH (own_g lR (own_g lL p2))))])) rfl rfl (hb hby d7_52)
    have pre121 : ∀ t, Steps p.tables e below (T118.setTop (mkF m 58 #[.val (.ref a1), .val (.int p2), .val (.int ((own_g lH (own_g lL p2)) - (own_g lH (own_g lR p2)))), .val (.int (own_g lL p2))] [(.int (own_g lH (own_g lL (own_g lL p2)))), (.int (own_g lH (own_g lR (own_g lL p2))))])) t → Steps p.tables e below (s₁.setTop (entryFrame m #[(.ref a1), (.int p2)] 4)) t := fun t kt => by
      refine pre109 t ?_
      show Steps p.tables e below (T106.setTop (mkF m 26 #[.val (.ref a1), .val (.int p2), .val (.int ((own_g lH (own_g lL p2)) - (own_g lH (own_g lR p2)))), .unset] [(.int (1 : Int32)), (.int ((own_g lH (own_g lL p2)) - (own_g lH (own_g lR p2))))])) _
      refine XS.icmpNo X106.here hx rfl (hb hby d7_26) rfl (tlt (hc26_110 : (1 : Int32) < ((own_g lH (own_g lL p2)) - (own_g lH (own_g lR p2))))).2.2.2 ?_
      refine XS.aloadN X106.here hx rfl (hb hby d7_29) rfl rfl ?_
      refine st111 _ ?_
      refine XS.iloadN X111.here hx rfl (hb hby d7_33) rfl ?_
      show Steps p.tables e below (T111.setTop (mkF m 34 #[.val (.ref a1), .val (.int p2), .val (.int ((own_g lH (own_g lL p2)) - (own_g lH (own_g lR p2)))), .unset] [(.int p2), (.ref al)])) _
      refine own_ia X111 hx hZ e111 H6 H21 (hb hby d7_34) ?_
      show Steps p.tables e below (T111.setTop (mkF m 35 #[.val (.ref a1), .val (.int p2), .val (.int ((own_g lH (own_g lL p2)) - (own_g lH (own_g lR p2)))), .unset] [(.int (own_g lL p2))])) _
      refine XS.istoreN X111.here hx rfl (hb hby d7_35) rfl (l' := #[.val (.ref a1), .val (.int p2), .val (.int ((own_g lH (own_g lL p2)) - (own_g lH (own_g lR p2)))), .val (.int (own_g lL p2))]) rfl ?_
      refine XS.aloadN X111.here hx rfl (hb hby d7_36) rfl rfl ?_
      refine st113 _ ?_
      refine XS.aloadN X113.here hx rfl (hb hby d7_40) rfl rfl ?_
      refine st114 _ ?_
      refine XS.iloadN X114.here hx rfl (hb hby d7_44) rfl ?_
      show Steps p.tables e below (T114.setTop (mkF m 45 #[.val (.ref a1), .val (.int p2), .val (.int ((own_g lH (own_g lL p2)) - (own_g lH (own_g lR p2)))), .val (.int (own_g lL p2))] [(.int (own_g lL p2)), (.ref ar), (.ref ah)])) _
      refine own_ia X114 hx hZ e114 H7 (H22.2 _) (hb hby d7_45) ?_
      show Steps p.tables e below (T114.setTop (mkF m 46 #[.val (.ref a1), .val (.int p2), .val (.int ((own_g lH (own_g lL p2)) - (own_g lH (own_g lR p2)))), .val (.int (own_g lL p2))] [(.int (own_g lR (own_g lL p2))), (.ref ah)])) _
      refine own_ba X114 hx hZ e114 H10 (H23.2 _) (hb hby d7_46) ?_
      show Steps p.tables e below (T114.setTop (mkF m 47 #[.val (.ref a1), .val (.int p2), .val (.int ((own_g lH (own_g lL p2)) - (own_g lH (own_g lR p2)))), .val (.int (own_g lL p2))] [(.int (own_g lH (own_g lR (own_g lL p2))))])) _
      refine XS.aloadN X114.here hx rfl (hb hby d7_47) rfl rfl ?_
      refine st117 _ ?_
      refine XS.aloadN X117.here hx rfl (hb hby d7_51) rfl rfl ?_
      refine st118 _ ?_
      refine XS.iloadN X118.here hx rfl (hb hby d7_55) rfl ?_
      show Steps p.tables e below (T118.setTop (mkF m 56 #[.val (.ref a1), .val (.int p2), .val (.int ((own_g lH (own_g lL p2)) - (own_g lH (own_g lR p2)))), .val (.int (own_g lL p2))] [(.int (own_g lL p2)), (.ref al), (.ref ah), (.int (own_g lH (own_g lR (own_g lL p2))))])) _
      refine own_ia X118 hx hZ e118 H6 (H22.2 _) (hb hby d7_56) ?_
      show Steps p.tables e below (T118.setTop (mkF m 57 #[.val (.ref a1), .val (.int p2), .val (.int ((own_g lH (own_g lL p2)) - (own_g lH (own_g lR p2)))), .val (.int (own_g lL p2))] [(.int (own_g lL (own_g lL p2))), (.ref ah), (.int (own_g lH (own_g lR (own_g lL p2))))])) _
      refine own_ba X118 hx hZ e118 H10 (H22.2 _) (hb hby d7_57) ?_
      show Steps p.tables e below (T118.setTop (mkF m 58 #[.val (.ref a1), .val (.int p2), .val (.int ((own_g lH (own_g lL p2)) - (own_g lH (own_g lR p2)))), .val (.int (own_g lL p2))] [(.int (own_g lH (own_g lL (own_g lL p2)))), (.int (own_g lH (own_g lR (own_g lL p2))))])) _
      exact kt
    by_cases hc58_122 : (own_g lH (own_g lL (own_g lL p2))) < (own_g lH (own_g lR (own_g lL p2)))
    · skip
      obtain ⟨T123, X123, e123, st123⟩ := getF X118 hx hZ hown (host := "") (Or.inl (own_w hw 14 rfl)) Via.refl e118 H1 (g := (mkF m 62 #[.val (.ref a1), .val (.int p2), .val (.int ((own_g lH (own_g lL p2)) - (own_g lH (own_g lR p2)))), .val (.int (own_g lL p2))] [(.ref a1)])) rfl rfl (hb hby d7_62)
      obtain ⟨cq124, q124, q124'⟩ := H0.cell
      obtain ⟨_, _, ⟨T124, L124, k124, n124⟩, -, X124, ⟨Lc124, hQ124, l124, y124, z124⟩, st124⟩ := X123.privateBack hx (y := (⟨"com/example/prequential/prequential/measure/ScoreMultiset", "rotateLeft", "(I)I"⟩ : MethodName)) hown (mvT hZ (own_w hw 66 rfl)) (mvT hZ (own_w hw 67 rfl)) (mvT hZ (own_selp (by decide) (own_w hw 2 rfl) (own_w hw 68 rfl) (own_w hw 67 rfl))) (Cond.privateMethod_at (mvP hZ (own_w hw 68 rfl) (args := #[]))) (mvT hZ (own_w hw 69 rfl)) (by decide) (backOf (W := 2) (rm11 l Z a0 hw [] a1 (own_g lL p2) al kl lL ar kr lR ac kc lC au ku lT ah kh lH h0 n0 Z0 H0 H1 H2 H3 H4 H5 H6 H7 H8 H9 H10 H11 H12 H13 H14 H15 H16 H17 H18 H19 H20 (H22.2 _) H22 H23 H24 H25 H26) hZ (own_w hw 69 rfl) (own_w hw 3 rfl) (by decide) (by decide)) (g := (mkF m 68 #[.val (.ref a1), .val (.int p2), .val (.int ((own_g lH (own_g lL p2)) - (own_g lH (own_g lR p2)))), .val (.int (own_g lL p2))] [(.int (own_g lL p2)), (.ref a1), (.int p2), (.ref al)])) rfl (by rw [hml]; rfl) (Steps.refl _) (a := a1) (by rw [e123]; exact q124) q124' (argsL := [(.int (own_g lL p2))]) (rest := [(.int p2), (.ref al)]) (lenOf pd_2 rfl) rfl (by show 2 * 0 + _ ≤ _; exact Nat.le_of_eq rfl) (hb hby d7_68) (fun _ _ => ⟨rfl, e123, (by decide : 0 + 0 ≤ _), (by decide : 0 + 0 ≤ _)⟩)
      dsimp only [Pt.U, Pt.locs, Pt.cells, Pt.slots] at X124 l124 y124 z124 st124 hQ124
      subst l124 y124 z124
      obtain ⟨rfl, Nq124, K124, R124_1, R124_2, R124_3, R124_4, R124_5, R124_6, R124_7, R124_8⟩ := hQ124
      have N124 := Fr.app N0 Nq124
      obtain ⟨cl125, Ar125, qc125, S125, M125, Hh125, G125⟩ := id R124_1
      have hin125 : ¬ (p2 < 0 ∨ cl125.slots.size ≤ (p2).toNatClampNeg) := inb_of S125 H21
      obtain ⟨T125, h125, X125, e125, W125, st125⟩ := stI X124 hx hZ rfl Ar125 (j := p2) hin125 (g := (mkF m 71 #[.val (.ref a1), .val (.int p2), .val (.int ((own_g lH (own_g lL p2)) - (own_g lH (own_g lR p2)))), .val (.int (own_g lL p2))] [(.int (own_g lR (own_g lL p2))), (.int p2), (.ref al)])) rfl rfl (hb hby d7_71)
      have V125 : Arv Z h125 al kl .int (16 : Int32) (own_v (own_p ((own_rl lL lR lC lT lH (own_g lL p2)).1) p2 (own_g lR (own_g lL p2)))) (.int (0 : Int32)) := by rw [own_vp]; exact Arv.set Ar125 qc125 S125 M125 Hh125 G125 rfl W125 p2.toNatClampNeg (rfl) (own_vlt H21 R124_5.1)
      have N125 := Fr.snoc X125 N124 H11
      have f126 := ((H0.keep K124).wr W125)
      have ne127 : a1 ≠ ah := Exa.neArv (H0.keep K124) R124_4 (own_w hw 2 rfl)
      have ne128 : a1 ≠ au := Exa.neArv (H0.keep K124) R124_3 (own_w hw 2 rfl)
      have ne129 : a1 ≠ ar := Exa.neArv (H0.keep K124) R124_2 (own_w hw 2 rfl)
      have ne130 : a1 ≠ al := Exa.neArv f126 V125 (own_w hw 2 rfl)
      have f131 := ((H1.keep K124 (ninS ne130 (ninS ne129 (ninS ne128 (ninS ne127 nin0))))).other W125 (Or.inl ne130))
      have f132 := ((H2.keep K124 (ninS ne130 (ninS ne129 (ninS ne128 (ninS ne127 nin0))))).other W125 (Or.inl ne130))
      have f133 := ((H3.keep K124 (ninS ne130 (ninS ne129 (ninS ne128 (ninS ne127 nin0))))).other W125 (Or.inl ne130))
      have f134 := ((H4.keep K124 (ninS ne130 (ninS ne129 (ninS ne128 (ninS ne127 nin0))))).other W125 (Or.inl ne130))
      have f135 := ((H5.keep K124 (ninS ne130 (ninS ne129 (ninS ne128 (ninS ne127 nin0))))).other W125 (Or.inl ne130))
      have f136 := (R124_2.other W125 (Ne.symm H15))
      have ne137 : ac ≠ ah := own_ne_arv H8 H10 (by decide)
      have f138 := ((H8.keep K124 (ninS (Ne.symm H16) (ninS (Ne.symm H17) (ninS H20 (ninS ne137 nin0))))).other W125 (Ne.symm H16))
      have f139 := (R124_3.other W125 (Ne.symm H18))
      have ne140 : ah ≠ al := own_ne_arv H10 H6 (by decide)
      have f141 := (R124_4.other W125 ne140)
      have z143 : n0 ≤ h125.size := (Nat.le_trans (Nat.le_trans Z0 K124.1) (Nat.le_of_eq W125.size.symm))
      obtain ⟨cq142, q142, q142'⟩ := f126.cell
      obtain ⟨_, _, ⟨T142, L142, k142, n142⟩, -, X142, ⟨Lc142, hQ142, l142, y142, z142⟩, st142⟩ := X125.privateBack hx (y := (⟨"com/example/prequential/prequential/measure/ScoreMultiset", "rotateRight", "(I)I"⟩ : MethodName)) hown (mvT hZ (own_w hw 62 rfl)) (mvT hZ (own_w hw 63 rfl)) (mvT hZ (own_selp (by decide) (own_w hw 2 rfl) (own_w hw 64 rfl) (own_w hw 63 rfl))) (Cond.privateMethod_at (mvP hZ (own_w hw 64 rfl) (args := #[]))) (mvT hZ (own_w hw 65 rfl)) (by decide) (backOf (W := 0) (rm10 l Z a0 hw [] a1 p2 al kl (own_p ((own_rl lL lR lC lT lH (own_g lL p2)).1) p2 (own_g lR (own_g lL p2))) ar kr ((own_rl lL lR lC lT lH (own_g lL p2)).2.1) ac kc lC au ku ((own_rl lL lR lC lT lH (own_g lL p2)).2.2.1) ah kh ((own_rl lL lR lC lT lH (own_g lL p2)).2.2.2) h125 n0 z143 f126 f131 f132 f133 f134 f135 V125 f136 f138 f139 f141 H11 H12 H13 H14 H15 H16 H17 H18 H19 H20 H21 (own_rngp R124_5 (H23.2 _)) R124_6 H24 R124_7 R124_8) hZ (own_w hw 65 rfl) (own_w hw 3 rfl) (by decide) (by decide)) (g := (mkF m 74 #[.val (.ref a1), .val (.int p2), .val (.int ((own_g lH (own_g lL p2)) - (own_g lH (own_g lR p2)))), .val (.int (own_g lL p2))] [(.int p2), (.ref a1)])) rfl (by rw [hml]; rfl) (Steps.refl _) (a := a1) (by rw [e125]; exact q142) q142' (argsL := [(.int p2)]) (rest := []) (lenOf pd_2 rfl) rfl (by show 2 * 0 + _ ≤ _; exact Nat.le_of_eq rfl) (hb hby d7_74) (fun _ _ => ⟨rfl, e125, (by decide : 0 + 0 ≤ _), (by decide : 0 + 0 ≤ _)⟩)
      dsimp only [Pt.U, Pt.locs, Pt.cells, Pt.slots] at X142 l142 y142 z142 st142 hQ142
      subst l142 y142 z142
      obtain ⟨rfl, Nq142, K142, R142_1, R142_2, R142_3, R142_4, R142_5, R142_6, R142_7, R142_8⟩ := hQ142
      have N142 := Fr.app N125 Nq142
      obtain ⟨fs, hr, hrun, hended, hW, hsame⟩ := X142.leave (v := some (.int (own_g (own_p ((own_rl lL lR lC lT lH (own_g lL p2)).1) p2 (own_g lR (own_g lL p2))) p2))) (fun h => by rw [Bd.returns] at h; cases h) (BodyLoose.notSynchronized Bd)
      refine ⟨_, _, pre121 _ ?_, hrun, hended, _, _, rfl, ?_, ⟨_, rfl⟩, hW, hsame.mono (by decide) (by decide)⟩
      · skip
        show Steps p.tables e below (T118.setTop (mkF m 58 #[.val (.ref a1), .val (.int p2), .val (.int ((own_g lH (own_g lL p2)) - (own_g lH (own_g lR p2)))), .val (.int (own_g lL p2))] [(.int (own_g lH (own_g lL (own_g lL p2)))), (.int (own_g lH (own_g lR (own_g lL p2))))])) _
        refine XS.icmpNo X118.here hx rfl (hb hby d7_58) rfl (tlt (hc58_122 : (own_g lH (own_g lL (own_g lL p2))) < (own_g lH (own_g lR (own_g lL p2))))).2.2.2 ?_
        refine XS.aloadN X118.here hx rfl (hb hby d7_61) rfl rfl ?_
        refine st123 _ ?_
        refine XS.iloadN X123.here hx rfl (hb hby d7_65) rfl ?_
        refine XS.aloadN X123.here hx rfl (hb hby d7_66) rfl rfl ?_
        refine XS.iloadN X123.here hx rfl (hb hby d7_67) rfl ?_
        show Steps p.tables e below (T123.setTop (mkF m 68 #[.val (.ref a1), .val (.int p2), .val (.int ((own_g lH (own_g lL p2)) - (own_g lH (own_g lR p2)))), .val (.int (own_g lL p2))] [(.int (own_g lL p2)), (.ref a1), (.int p2), (.ref al)])) _
        refine st124.trans ?_
        show Steps p.tables e below (T124.setTop (mkF m 71 #[.val (.ref a1), .val (.int p2), .val (.int ((own_g lH (own_g lL p2)) - (own_g lH (own_g lR p2)))), .val (.int (own_g lL p2))] [(.int (own_g lR (own_g lL p2))), (.int p2), (.ref al)])) _
        refine st125 _ ?_
        refine XS.aloadN X125.here hx rfl (hb hby d7_72) rfl rfl ?_
        refine XS.iloadN X125.here hx rfl (hb hby d7_73) rfl ?_
        show Steps p.tables e below (T125.setTop (mkF m 74 #[.val (.ref a1), .val (.int p2), .val (.int ((own_g lH (own_g lL p2)) - (own_g lH (own_g lR p2)))), .val (.int (own_g lL p2))] [(.int p2), (.ref a1)])) _
        refine st142.trans ?_
        show Steps p.tables e below (T142.setTop (mkF m 77 #[.val (.ref a1), .val (.int p2), .val (.int ((own_g lH (own_g lL p2)) - (own_g lH (own_g lR p2)))), .val (.int (own_g lL p2))] [(.int (own_g (own_p ((own_rl lL lR lC lT lH (own_g lL p2)).1) p2 (own_g lR (own_g lL p2))) p2))])) _
        exact retI X142 hx Bd.returns (hb hby d7_77) hr
      · show Q7 Z a1 p2 al kl lL ar kr lR ac kc lC au ku lT ah kh lH h0 n0 _ T142.heap _
        exact ⟨(by simp only [own_bal, own_b1, own_b2, eq_true hc26_110, eq_true hc58_122, if_true, if_false]), N142, ((((Keep.refl h0 [al, ar, au, ah]).trans K124 (allS (P := (fun x => x ∈ [al, ar, au, ah] ∨ h0.size ≤ x)) (Or.inl (List.mem_of_getElem? (i := 0) rfl)) (allS (P := (fun x => x ∈ [al, ar, au, ah] ∨ h0.size ≤ x)) (Or.inl (List.mem_of_getElem? (i := 1) rfl)) (allS (P := (fun x => x ∈ [al, ar, au, ah] ∨ h0.size ≤ x)) (Or.inl (List.mem_of_getElem? (i := 2) rfl)) (allS (P := (fun x => x ∈ [al, ar, au, ah] ∨ h0.size ≤ x)) (Or.inl (List.mem_of_getElem? (i := 3) rfl)) all0))))).wr W125 (Or.inl (List.mem_of_getElem? (i := 0) rfl))).trans K142 (allS (P := (fun x => x ∈ [al, ar, au, ah] ∨ h0.size ≤ x)) (Or.inl (List.mem_of_getElem? (i := 0) rfl)) (allS (P := (fun x => x ∈ [al, ar, au, ah] ∨ h0.size ≤ x)) (Or.inl (List.mem_of_getElem? (i := 1) rfl)) (allS (P := (fun x => x ∈ [al, ar, au, ah] ∨ h0.size ≤ x)) (Or.inl (List.mem_of_getElem? (i := 2) rfl)) (allS (P := (fun x => x ∈ [al, ar, au, ah] ∨ h0.size ≤ x)) (Or.inl (List.mem_of_getElem? (i := 3) rfl)) all0))))), (by simpa only [own_bal, own_b1, own_b2, eq_true hc26_110, eq_true hc58_122, if_true, if_false] using R142_1), (by simpa only [own_bal, own_b1, own_b2, eq_true hc26_110, eq_true hc58_122, if_true, if_false] using R142_2), (by simpa only [own_bal, own_b1, own_b2, eq_true hc26_110, eq_true hc58_122, if_true, if_false] using R142_3), (by simpa only [own_bal, own_b1, own_b2, eq_true hc26_110, eq_true hc58_122, if_true, if_false] using R142_4), (by simpa only [own_bal, own_b1, own_b2, eq_true hc26_110, eq_true hc58_122, if_true, if_false] using R142_5), (by simpa only [own_bal, own_b1, own_b2, eq_true hc26_110, eq_true hc58_122, if_true, if_false] using R142_6), (by simpa only [own_bal, own_b1, own_b2, eq_true hc26_110, eq_true hc58_122, if_true, if_false] using R142_7), (by simpa only [own_bal, own_b1, own_b2, eq_true hc26_110, eq_true hc58_122, if_true, if_false] using R142_8), (by simpa only [own_bal, own_b1, own_b2, eq_true hc26_110, eq_true hc58_122, if_true, if_false] using ((own_rngp R124_5 (H23.2 _)).2 _))⟩
    · skip
      obtain ⟨cq144, q144, q144'⟩ := H0.cell
      obtain ⟨_, _, ⟨T144, L144, k144, n144⟩, -, X144, ⟨Lc144, hQ144, l144, y144, z144⟩, st144⟩ := X118.privateBack hx (y := (⟨"com/example/prequential/prequential/measure/ScoreMultiset", "rotateRight", "(I)I"⟩ : MethodName)) hown (mvT hZ (own_w hw 62 rfl)) (mvT hZ (own_w hw 63 rfl)) (mvT hZ (own_selp (by decide) (own_w hw 2 rfl) (own_w hw 64 rfl) (own_w hw 63 rfl))) (Cond.privateMethod_at (mvP hZ (own_w hw 64 rfl) (args := #[]))) (mvT hZ (own_w hw 65 rfl)) (by decide) (backOf (W := 0) (rm10 l Z a0 hw [] a1 p2 al kl lL ar kr lR ac kc lC au ku lT ah kh lH h0 n0 Z0 H0 H1 H2 H3 H4 H5 H6 H7 H8 H9 H10 H11 H12 H13 H14 H15 H16 H17 H18 H19 H20 H21 H22 H23 H24 H25 H26) hZ (own_w hw 65 rfl) (own_w hw 3 rfl) (by decide) (by decide)) (g := (mkF m 74 #[.val (.ref a1), .val (.int p2), .val (.int ((own_g lH (own_g lL p2)) - (own_g lH (own_g lR p2)))), .val (.int (own_g lL p2))] [(.int p2), (.ref a1)])) rfl (by rw [hml]; rfl) (Steps.refl _) (a := a1) (by rw [e118]; exact q144) q144' (argsL := [(.int p2)]) (rest := []) (lenOf pd_2 rfl) rfl (by show 2 * 0 + _ ≤ _; exact Nat.le_of_eq rfl) (hb hby d7_74) (fun _ _ => ⟨rfl, e118, (by decide : 0 + 0 ≤ _), (by decide : 0 + 0 ≤ _)⟩)
      dsimp only [Pt.U, Pt.locs, Pt.cells, Pt.slots] at X144 l144 y144 z144 st144 hQ144
      subst l144 y144 z144
      obtain ⟨rfl, Nq144, K144, R144_1, R144_2, R144_3, R144_4, R144_5, R144_6, R144_7, R144_8⟩ := hQ144
      have N144 := Fr.app N0 Nq144
      obtain ⟨fs, hr, hrun, hended, hW, hsame⟩ := X144.leave (v := some (.int (own_g lL p2))) (fun h => by rw [Bd.returns] at h; cases h) (BodyLoose.notSynchronized Bd)
      refine ⟨_, _, pre121 _ ?_, hrun, hended, _, _, rfl, ?_, ⟨_, rfl⟩, hW, hsame.mono (by decide) (by decide)⟩
      · skip
        show Steps p.tables e below (T118.setTop (mkF m 58 #[.val (.ref a1), .val (.int p2), .val (.int ((own_g lH (own_g lL p2)) - (own_g lH (own_g lR p2)))), .val (.int (own_g lL p2))] [(.int (own_g lH (own_g lL (own_g lL p2)))), (.int (own_g lH (own_g lR (own_g lL p2))))])) _
        refine XS.icmpYes X118.here hx rfl (pc0 := 58) (pc' := 72) rfl (hb hby d7_58) rfl (flt (hc58_122 : ¬ ((own_g lH (own_g lL (own_g lL p2))) < (own_g lH (own_g lR (own_g lL p2)))))).2.2.2 (by decide) (by decide) ?_
        refine XS.aloadN X118.here hx rfl (hb hby d7_72) rfl rfl ?_
        refine XS.iloadN X118.here hx rfl (hb hby d7_73) rfl ?_
        show Steps p.tables e below (T118.setTop (mkF m 74 #[.val (.ref a1), .val (.int p2), .val (.int ((own_g lH (own_g lL p2)) - (own_g lH (own_g lR p2)))), .val (.int (own_g lL p2))] [(.int p2), (.ref a1)])) _
        refine st144.trans ?_
        show Steps p.tables e below (T144.setTop (mkF m 77 #[.val (.ref a1), .val (.int p2), .val (.int ((own_g lH (own_g lL p2)) - (own_g lH (own_g lR p2)))), .val (.int (own_g lL p2))] [(.int (own_g lL p2))])) _
        exact retI X144 hx Bd.returns (hb hby d7_77) hr
      · show Q7 Z a1 p2 al kl lL ar kr lR ac kc lC au ku lT ah kh lH h0 n0 _ T144.heap _
        exact ⟨(by simp only [own_bal, own_b1, own_b2, eq_true hc26_110, eq_false hc58_122, if_true, if_false]), N144, ((Keep.refl h0 [al, ar, au, ah]).trans K144 (allS (P := (fun x => x ∈ [al, ar, au, ah] ∨ h0.size ≤ x)) (Or.inl (List.mem_of_getElem? (i := 0) rfl)) (allS (P := (fun x => x ∈ [al, ar, au, ah] ∨ h0.size ≤ x)) (Or.inl (List.mem_of_getElem? (i := 1) rfl)) (allS (P := (fun x => x ∈ [al, ar, au, ah] ∨ h0.size ≤ x)) (Or.inl (List.mem_of_getElem? (i := 2) rfl)) (allS (P := (fun x => x ∈ [al, ar, au, ah] ∨ h0.size ≤ x)) (Or.inl (List.mem_of_getElem? (i := 3) rfl)) all0))))), (by simpa only [own_bal, own_b1, own_b2, eq_true hc26_110, eq_false hc58_122, if_true, if_false] using R144_1), (by simpa only [own_bal, own_b1, own_b2, eq_true hc26_110, eq_false hc58_122, if_true, if_false] using R144_2), (by simpa only [own_bal, own_b1, own_b2, eq_true hc26_110, eq_false hc58_122, if_true, if_false] using R144_3), (by simpa only [own_bal, own_b1, own_b2, eq_true hc26_110, eq_false hc58_122, if_true, if_false] using R144_4), (by simpa only [own_bal, own_b1, own_b2, eq_true hc26_110, eq_false hc58_122, if_true, if_false] using R144_5), (by simpa only [own_bal, own_b1, own_b2, eq_true hc26_110, eq_false hc58_122, if_true, if_false] using R144_6), (by simpa only [own_bal, own_b1, own_b2, eq_true hc26_110, eq_false hc58_122, if_true, if_false] using R144_7), (by simpa only [own_bal, own_b1, own_b2, eq_true hc26_110, eq_false hc58_122, if_true, if_false] using R144_8), (by simpa only [own_bal, own_b1, own_b2, eq_true hc26_110, eq_false hc58_122, if_true, if_false] using (H22.2 _))⟩
  · skip
    have pre145 : ∀ t, Steps p.tables e below (T106.setTop (mkF m 80 #[.val (.ref a1), .val (.int p2), .val (.int ((own_g lH (own_g lL p2)) - (own_g lH (own_g lR p2)))), .unset] [(.int (-1 : Int32)), (.int ((own_g lH (own_g lL p2)) - (own_g lH (own_g lR p2))))])) t → Steps p.tables e below (s₁.setTop (entryFrame m #[(.ref a1), (.int p2)] 4)) t := fun t kt => by
      refine pre109 t ?_
      show Steps p.tables e below (T106.setTop (mkF m 26 #[.val (.ref a1), .val (.int p2), .val (.int ((own_g lH (own_g lL p2)) - (own_g lH (own_g lR p2)))), .unset] [(.int (1 : Int32)), (.int ((own_g lH (own_g lL p2)) - (own_g lH (own_g lR p2))))])) _
      refine XS.icmpYes X106.here hx rfl (pc0 := 26) (pc' := 78) rfl (hb hby d7_26) rfl (flt (hc26_110 : ¬ ((1 : Int32) < ((own_g lH (own_g lL p2)) - (own_g lH (own_g lR p2)))))).2.2.2 (by decide) (by decide) ?_
      refine XS.iloadN X106.here hx rfl (hb hby d7_78) rfl ?_
      refine XS.iconst X106.here hx rfl (hb hby d7_79) ?_
      show Steps p.tables e below (T106.setTop (mkF m 80 #[.val (.ref a1), .val (.int p2), .val (.int ((own_g lH (own_g lL p2)) - (own_g lH (own_g lR p2)))), .unset] [(.int (-1 : Int32)), (.int ((own_g lH (own_g lL p2)) - (own_g lH (own_g lR p2))))])) _
      exact kt
    by_cases hc80_146 : ((own_g lH (own_g lL p2)) - (own_g lH (own_g lR p2))) < (-1 : Int32)
    · skip
      obtain ⟨T147, X147, e147, st147⟩ := getF X106 hx hZ hown (host := "") (Or.inl (own_w hw 16 rfl)) Via.refl e106 H2 (g := (mkF m 84 #[.val (.ref a1), .val (.int p2), .val (.int ((own_g lH (own_g lL p2)) - (own_g lH (own_g lR p2)))), .unset] [(.ref a1)])) rfl rfl (hb hby d7_84)
      obtain ⟨T149, X149, e149, st149⟩ := getF X147 hx hZ hown (host := "") (Or.inl (own_w hw 23 rfl)) Via.refl e147 H5 (g := (mkF m 91 #[.val (.ref a1), .val (.int p2), .val (.int ((own_g lH (own_g lL p2)) - (own_g lH (own_g lR p2)))), .val (.int (own_g lR p2))] [(.ref a1)])) rfl rfl (hb hby d7_91)
      obtain ⟨T150, X150, e150, st150⟩ := getF X149 hx hZ hown (host := "") (Or.inl (own_w hw 14 rfl)) Via.refl e149 H1 (g := (mkF m 95 #[.val (.ref a1), .val (.int p2), .val (.int ((own_g lH (own_g lL p2)) - (own_g lH (own_g lR p2)))), .val (.int (own_g lR p2))] [(.ref a1), (.ref ah)])) rfl rfl (hb hby d7_95)
      obtain ⟨T153, X153, e153, st153⟩ := getF X150 hx hZ hown (host := "") (Or.inl (own_w hw 23 rfl)) Via.refl e150 H5 (g := (mkF m 102 #[.val (.ref a1), .val (.int p2), .val (.int ((own_g lH (own_g lL p2)) - (own_g lH (own_g lR p2)))), .val (.int (own_g lR p2))] [(.ref a1), (.int (own_g lH (own_g lL (own_g lR p2))))])) rfl rfl (hb hby d7_102)
      obtain ⟨T154, X154, e154, st154⟩ := getF X153 hx hZ hown (host := "") (Or.inl (own_w hw 16 rfl)) Via.refl e153 H2 (g := (mkF m 106 #[.val (.ref a1), .val (.int p2), .val (.int ((own_g lH (own_g lL p2)) - (own_g lH (own_g lR p2)))), .val (.int (own_g lR p2))] [(.ref a1), (.ref ah), (.int (own_g lH (own_g lL (own_g lR p2))))])) rfl rfl (hb hby d7_106)
      have pre157 : ∀ t, Steps p.tables e below (T154.setTop (mkF m 112 #[.val (.ref a1), .val (.int p2), .val (.int ((own_g lH (own_g lL p2)) - (own_g lH (own_g lR p2)))), .val (.int (own_g lR p2))] [(.int (own_g lH (own_g lR (own_g lR p2)))), (.int (own_g lH (own_g lL (own_g lR p2))))])) t → Steps p.tables e below (s₁.setTop (entryFrame m #[(.ref a1), (.int p2)] 4)) t := fun t kt => by
        refine pre145 t ?_
        show Steps p.tables e below (T106.setTop (mkF m 80 #[.val (.ref a1), .val (.int p2), .val (.int ((own_g lH (own_g lL p2)) - (own_g lH (own_g lR p2)))), .unset] [(.int (-1 : Int32)), (.int ((own_g lH (own_g lL p2)) - (own_g lH (own_g lR p2))))])) _
        refine XS.icmpNo X106.here hx rfl (hb hby d7_80) rfl (tlt (hc80_146 : ((own_g lH (own_g lL p2)) - (own_g lH (own_g lR p2))) < (-1 : Int32))).2.1 ?_
        refine XS.aloadN X106.here hx rfl (hb hby d7_83) rfl rfl ?_
        refine st147 _ ?_
        refine XS.iloadN X147.here hx rfl (hb hby d7_87) rfl ?_
        show Steps p.tables e below (T147.setTop (mkF m 88 #[.val (.ref a1), .val (.int p2), .val (.int ((own_g lH (own_g lL p2)) - (own_g lH (own_g lR p2)))), .unset] [(.int p2), (.ref ar)])) _
        refine own_ia X147 hx hZ e147 H7 H21 (hb hby d7_88) ?_
        show Steps p.tables e below (T147.setTop (mkF m 89 #[.val (.ref a1), .val (.int p2), .val (.int ((own_g lH (own_g lL p2)) - (own_g lH (own_g lR p2)))), .unset] [(.int (own_g lR p2))])) _
        refine XS.istoreN X147.here hx rfl (hb hby d7_89) rfl (l' := #[.val (.ref a1), .val (.int p2), .val (.int ((own_g lH (own_g lL p2)) - (own_g lH (own_g lR p2)))), .val (.int (own_g lR p2))]) rfl ?_
        refine XS.aloadN X147.here hx rfl (hb hby d7_90) rfl rfl ?_
        refine st149 _ ?_
        refine XS.aloadN X149.here hx rfl (hb hby d7_94) rfl rfl ?_
        refine st150 _ ?_
        refine XS.iloadN X150.here hx rfl (hb hby d7_98) rfl ?_
        show Steps p.tables e below (T150.setTop (mkF m 99 #[.val (.ref a1), .val (.int p2), .val (.int ((own_g lH (own_g lL p2)) - (own_g lH (own_g lR p2)))), .val (.int (own_g lR p2))] [(.int (own_g lR p2)), (.ref al), (.ref ah)])) _
        refine own_ia X150 hx hZ e150 H6 (H23.2 _) (hb hby d7_99) ?_
        show Steps p.tables e below (T150.setTop (mkF m 100 #[.val (.ref a1), .val (.int p2), .val (.int ((own_g lH (own_g lL p2)) - (own_g lH (own_g lR p2)))), .val (.int (own_g lR p2))] [(.int (own_g lL (own_g lR p2))), (.ref ah)])) _
        refine own_ba X150 hx hZ e150 H10 (H22.2 _) (hb hby d7_100) ?_
        show Steps p.tables e below (T150.setTop (mkF m 101 #[.val (.ref a1), .val (.int p2), .val (.int ((own_g lH (own_g lL p2)) - (own_g lH (own_g lR p2)))), .val (.int (own_g lR p2))] [(.int (own_g lH (own_g lL (own_g lR p2))))])) _
        refine XS.aloadN X150.here hx rfl (hb hby d7_101) rfl rfl ?_
        refine st153 _ ?_
        refine XS.aloadN X153.here hx rfl (hb hby d7_105) rfl rfl ?_
        refine st154 _ ?_
        refine XS.iloadN X154.here hx rfl (hb hby d7_109) rfl ?_
        show Steps p.tables e below (T154.setTop (mkF m 110 #[.val (.ref a1), .val (.int p2), .val (.int ((own_g lH (own_g lL p2)) - (own_g lH (own_g lR p2)))), .val (.int (own_g lR p2))] [(.int (own_g lR p2)), (.ref ar), (.ref ah), (.int (own_g lH (own_g lL (own_g lR p2))))])) _
        refine own_ia X154 hx hZ e154 H7 (H23.2 _) (hb hby d7_110) ?_
        show Steps p.tables e below (T154.setTop (mkF m 111 #[.val (.ref a1), .val (.int p2), .val (.int ((own_g lH (own_g lL p2)) - (own_g lH (own_g lR p2)))), .val (.int (own_g lR p2))] [(.int (own_g lR (own_g lR p2))), (.ref ah), (.int (own_g lH (own_g lL (own_g lR p2))))])) _
        refine own_ba X154 hx hZ e154 H10 (H23.2 _) (hb hby d7_111) ?_
        show Steps p.tables e below (T154.setTop (mkF m 112 #[.val (.ref a1), .val (.int p2), .val (.int ((own_g lH (own_g lL p2)) - (own_g lH (own_g lR p2)))), .val (.int (own_g lR p2))] [(.int (own_g lH (own_g lR (own_g lR p2)))), (.int (own_g lH (own_g lL (own_g lR p2))))])) _
        exact kt
      by_cases hc112_158 : (own_g lH (own_g lR (own_g lR p2))) < (own_g lH (own_g lL (own_g lR p2)))
      · skip
        obtain ⟨T159, X159, e159, st159⟩ := getF X154 hx hZ hown (host := "") (Or.inl (own_w hw 16 rfl)) Via.refl e154 H2 (g := (mkF m 116 #[.val (.ref a1), .val (.int p2), .val (.int ((own_g lH (own_g lL p2)) - (own_g lH (own_g lR p2)))), .val (.int (own_g lR p2))] [(.ref a1)])) rfl rfl (hb hby d7_116)
        obtain ⟨cq160, q160, q160'⟩ := H0.cell
        obtain ⟨_, _, ⟨T160, L160, k160, n160⟩, -, X160, ⟨Lc160, hQ160, l160, y160, z160⟩, st160⟩ := X159.privateBack hx (y := (⟨"com/example/prequential/prequential/measure/ScoreMultiset", "rotateRight", "(I)I"⟩ : MethodName)) hown (mvT hZ (own_w hw 62 rfl)) (mvT hZ (own_w hw 63 rfl)) (mvT hZ (own_selp (by decide) (own_w hw 2 rfl) (own_w hw 64 rfl) (own_w hw 63 rfl))) (Cond.privateMethod_at (mvP hZ (own_w hw 64 rfl) (args := #[]))) (mvT hZ (own_w hw 65 rfl)) (by decide) (backOf (W := 2) (rm10 l Z a0 hw [] a1 (own_g lR p2) al kl lL ar kr lR ac kc lC au ku lT ah kh lH h0 n0 Z0 H0 H1 H2 H3 H4 H5 H6 H7 H8 H9 H10 H11 H12 H13 H14 H15 H16 H17 H18 H19 H20 (H23.2 _) H22 H23 H24 H25 H26) hZ (own_w hw 65 rfl) (own_w hw 3 rfl) (by decide) (by decide)) (g := (mkF m 122 #[.val (.ref a1), .val (.int p2), .val (.int ((own_g lH (own_g lL p2)) - (own_g lH (own_g lR p2)))), .val (.int (own_g lR p2))] [(.int (own_g lR p2)), (.ref a1), (.int p2), (.ref ar)])) rfl (by rw [hml]; rfl) (Steps.refl _) (a := a1) (by rw [e159]; exact q160) q160' (argsL := [(.int (own_g lR p2))]) (rest := [(.int p2), (.ref ar)]) (lenOf pd_2 rfl) rfl (by show 2 * 0 + _ ≤ _; exact Nat.le_of_eq rfl) (hb hby d7_122) (fun _ _ => ⟨rfl, e159, (by decide : 0 + 0 ≤ _), (by decide : 0 + 0 ≤ _)⟩)
        dsimp only [Pt.U, Pt.locs, Pt.cells, Pt.slots] at X160 l160 y160 z160 st160 hQ160
        subst l160 y160 z160
        obtain ⟨rfl, Nq160, K160, R160_1, R160_2, R160_3, R160_4, R160_5, R160_6, R160_7, R160_8⟩ := hQ160
        have N160 := Fr.app N0 Nq160
        obtain ⟨cl161, Ar161, qc161, S161, M161, Hh161, G161⟩ := id R160_2
        have hin161 : ¬ (p2 < 0 ∨ cl161.slots.size ≤ (p2).toNatClampNeg) := inb_of S161 H21
        obtain ⟨T161, h161, X161, e161, W161, st161⟩ := stI X160 hx hZ rfl Ar161 (j := p2) hin161 (g := (mkF m 125 #[.val (.ref a1), .val (.int p2), .val (.int ((own_g lH (own_g lL p2)) - (own_g lH (own_g lR p2)))), .val (.int (own_g lR p2))] [(.int (own_g lL (own_g lR p2))), (.int p2), (.ref ar)])) rfl rfl (hb hby d7_125)
        have V161 : Arv Z h161 ar kr .int (16 : Int32) (own_v (own_p ((own_rr lL lR lC lT lH (own_g lR p2)).2.1) p2 (own_g lL (own_g lR p2)))) (.int (0 : Int32)) := by rw [own_vp]; exact Arv.set Ar161 qc161 S161 M161 Hh161 G161 rfl W161 p2.toNatClampNeg (rfl) (own_vlt H21 R160_6.1)
        have N161 := Fr.snoc X161 N160 H12
        have f162 := ((H0.keep K160).wr W161)
        have ne163 : a1 ≠ ah := Exa.neArv (H0.keep K160) R160_4 (own_w hw 2 rfl)
        have ne164 : a1 ≠ au := Exa.neArv (H0.keep K160) R160_3 (own_w hw 2 rfl)
        have ne165 : a1 ≠ ar := Exa.neArv f162 V161 (own_w hw 2 rfl)
        have ne166 : a1 ≠ al := Exa.neArv (H0.keep K160) R160_1 (own_w hw 2 rfl)
        have f167 := ((H1.keep K160 (ninS ne166 (ninS ne165 (ninS ne164 (ninS ne163 nin0))))).other W161 (Or.inl ne165))
        have f168 := ((H2.keep K160 (ninS ne166 (ninS ne165 (ninS ne164 (ninS ne163 nin0))))).other W161 (Or.inl ne165))
        have f169 := ((H3.keep K160 (ninS ne166 (ninS ne165 (ninS ne164 (ninS ne163 nin0))))).other W161 (Or.inl ne165))
        have f170 := ((H4.keep K160 (ninS ne166 (ninS ne165 (ninS ne164 (ninS ne163 nin0))))).other W161 (Or.inl ne165))
        have f171 := ((H5.keep K160 (ninS ne166 (ninS ne165 (ninS ne164 (ninS ne163 nin0))))).other W161 (Or.inl ne165))
        have f172 := (R160_1.other W161 H15)
        have ne173 : ac ≠ ah := own_ne_arv H8 H10 (by decide)
        have f174 := ((H8.keep K160 (ninS (Ne.symm H16) (ninS (Ne.symm H17) (ninS H20 (ninS ne173 nin0))))).other W161 (Ne.symm H17))
        have f175 := (R160_3.other W161 (Ne.symm H19))
        have ne176 : ah ≠ ar := own_ne_arv H10 H7 (by decide)
        have f177 := (R160_4.other W161 ne176)
        have z179 : n0 ≤ h161.size := (Nat.le_trans (Nat.le_trans Z0 K160.1) (Nat.le_of_eq W161.size.symm))
        obtain ⟨cq178, q178, q178'⟩ := f162.cell
        obtain ⟨_, _, ⟨T178, L178, k178, n178⟩, -, X178, ⟨Lc178, hQ178, l178, y178, z178⟩, st178⟩ := X161.privateBack hx (y := (⟨"com/example/prequential/prequential/measure/ScoreMultiset", "rotateLeft", "(I)I"⟩ : MethodName)) hown (mvT hZ (own_w hw 66 rfl)) (mvT hZ (own_w hw 67 rfl)) (mvT hZ (own_selp (by decide) (own_w hw 2 rfl) (own_w hw 68 rfl) (own_w hw 67 rfl))) (Cond.privateMethod_at (mvP hZ (own_w hw 68 rfl) (args := #[]))) (mvT hZ (own_w hw 69 rfl)) (by decide) (backOf (W := 0) (rm11 l Z a0 hw [] a1 p2 al kl ((own_rr lL lR lC lT lH (own_g lR p2)).1) ar kr (own_p ((own_rr lL lR lC lT lH (own_g lR p2)).2.1) p2 (own_g lL (own_g lR p2))) ac kc lC au ku ((own_rr lL lR lC lT lH (own_g lR p2)).2.2.1) ah kh ((own_rr lL lR lC lT lH (own_g lR p2)).2.2.2) h161 n0 z179 f162 f167 f168 f169 f170 f171 f172 V161 f174 f175 f177 H11 H12 H13 H14 H15 H16 H17 H18 H19 H20 H21 R160_5 (own_rngp R160_6 (H22.2 _)) H24 R160_7 R160_8) hZ (own_w hw 69 rfl) (own_w hw 3 rfl) (by decide) (by decide)) (g := (mkF m 128 #[.val (.ref a1), .val (.int p2), .val (.int ((own_g lH (own_g lL p2)) - (own_g lH (own_g lR p2)))), .val (.int (own_g lR p2))] [(.int p2), (.ref a1)])) rfl (by rw [hml]; rfl) (Steps.refl _) (a := a1) (by rw [e161]; exact q178) q178' (argsL := [(.int p2)]) (rest := []) (lenOf pd_2 rfl) rfl (by show 2 * 0 + _ ≤ _; exact Nat.le_of_eq rfl) (hb hby d7_128) (fun _ _ => ⟨rfl, e161, (by decide : 0 + 0 ≤ _), (by decide : 0 + 0 ≤ _)⟩)
        dsimp only [Pt.U, Pt.locs, Pt.cells, Pt.slots] at X178 l178 y178 z178 st178 hQ178
        subst l178 y178 z178
        obtain ⟨rfl, Nq178, K178, R178_1, R178_2, R178_3, R178_4, R178_5, R178_6, R178_7, R178_8⟩ := hQ178
        have N178 := Fr.app N161 Nq178
        obtain ⟨fs, hr, hrun, hended, hW, hsame⟩ := X178.leave (v := some (.int (own_g (own_p ((own_rr lL lR lC lT lH (own_g lR p2)).2.1) p2 (own_g lL (own_g lR p2))) p2))) (fun h => by rw [Bd.returns] at h; cases h) (BodyLoose.notSynchronized Bd)
        refine ⟨_, _, pre157 _ ?_, hrun, hended, _, _, rfl, ?_, ⟨_, rfl⟩, hW, hsame.mono (by decide) (by decide)⟩
        · skip
          show Steps p.tables e below (T154.setTop (mkF m 112 #[.val (.ref a1), .val (.int p2), .val (.int ((own_g lH (own_g lL p2)) - (own_g lH (own_g lR p2)))), .val (.int (own_g lR p2))] [(.int (own_g lH (own_g lR (own_g lR p2)))), (.int (own_g lH (own_g lL (own_g lR p2))))])) _
          refine XS.icmpNo X154.here hx rfl (hb hby d7_112) rfl (tlt (hc112_158 : (own_g lH (own_g lR (own_g lR p2))) < (own_g lH (own_g lL (own_g lR p2))))).2.2.2 ?_
          refine XS.aloadN X154.here hx rfl (hb hby d7_115) rfl rfl ?_
          refine st159 _ ?_
          refine XS.iloadN X159.here hx rfl (hb hby d7_119) rfl ?_
          refine XS.aloadN X159.here hx rfl (hb hby d7_120) rfl rfl ?_
          refine XS.iloadN X159.here hx rfl (hb hby d7_121) rfl ?_
          show Steps p.tables e below (T159.setTop (mkF m 122 #[.val (.ref a1), .val (.int p2), .val (.int ((own_g lH (own_g lL p2)) - (own_g lH (own_g lR p2)))), .val (.int (own_g lR p2))] [(.int (own_g lR p2)), (.ref a1), (.int p2), (.ref ar)])) _
          refine st160.trans ?_
          show Steps p.tables e below (T160.setTop (mkF m 125 #[.val (.ref a1), .val (.int p2), .val (.int ((own_g lH (own_g lL p2)) - (own_g lH (own_g lR p2)))), .val (.int (own_g lR p2))] [(.int (own_g lL (own_g lR p2))), (.int p2), (.ref ar)])) _
          refine st161 _ ?_
          refine XS.aloadN X161.here hx rfl (hb hby d7_126) rfl rfl ?_
          refine XS.iloadN X161.here hx rfl (hb hby d7_127) rfl ?_
          show Steps p.tables e below (T161.setTop (mkF m 128 #[.val (.ref a1), .val (.int p2), .val (.int ((own_g lH (own_g lL p2)) - (own_g lH (own_g lR p2)))), .val (.int (own_g lR p2))] [(.int p2), (.ref a1)])) _
          refine st178.trans ?_
          show Steps p.tables e below (T178.setTop (mkF m 131 #[.val (.ref a1), .val (.int p2), .val (.int ((own_g lH (own_g lL p2)) - (own_g lH (own_g lR p2)))), .val (.int (own_g lR p2))] [(.int (own_g (own_p ((own_rr lL lR lC lT lH (own_g lR p2)).2.1) p2 (own_g lL (own_g lR p2))) p2))])) _
          exact retI X178 hx Bd.returns (hb hby d7_131) hr
        · show Q7 Z a1 p2 al kl lL ar kr lR ac kc lC au ku lT ah kh lH h0 n0 _ T178.heap _
          exact ⟨(by simp only [own_bal, own_b1, own_b2, eq_false hc26_110, eq_true hc80_146, eq_true hc112_158, if_true, if_false]), N178, ((((Keep.refl h0 [al, ar, au, ah]).trans K160 (allS (P := (fun x => x ∈ [al, ar, au, ah] ∨ h0.size ≤ x)) (Or.inl (List.mem_of_getElem? (i := 0) rfl)) (allS (P := (fun x => x ∈ [al, ar, au, ah] ∨ h0.size ≤ x)) (Or.inl (List.mem_of_getElem? (i := 1) rfl)) (allS (P := (fun x => x ∈ [al, ar, au, ah] ∨ h0.size ≤ x)) (Or.inl (List.mem_of_getElem? (i := 2) rfl)) (allS (P := (fun x => x ∈ [al, ar, au, ah] ∨ h0.size ≤ x)) (Or.inl (List.mem_of_getElem? (i := 3) rfl)) all0))))).wr W161 (Or.inl (List.mem_of_getElem? (i := 1) rfl))).trans K178 (allS (P := (fun x => x ∈ [al, ar, au, ah] ∨ h0.size ≤ x)) (Or.inl (List.mem_of_getElem? (i := 0) rfl)) (allS (P := (fun x => x ∈ [al, ar, au, ah] ∨ h0.size ≤ x)) (Or.inl (List.mem_of_getElem? (i := 1) rfl)) (allS (P := (fun x => x ∈ [al, ar, au, ah] ∨ h0.size ≤ x)) (Or.inl (List.mem_of_getElem? (i := 2) rfl)) (allS (P := (fun x => x ∈ [al, ar, au, ah] ∨ h0.size ≤ x)) (Or.inl (List.mem_of_getElem? (i := 3) rfl)) all0))))), (by simpa only [own_bal, own_b1, own_b2, eq_false hc26_110, eq_true hc80_146, eq_true hc112_158, if_true, if_false] using R178_1), (by simpa only [own_bal, own_b1, own_b2, eq_false hc26_110, eq_true hc80_146, eq_true hc112_158, if_true, if_false] using R178_2), (by simpa only [own_bal, own_b1, own_b2, eq_false hc26_110, eq_true hc80_146, eq_true hc112_158, if_true, if_false] using R178_3), (by simpa only [own_bal, own_b1, own_b2, eq_false hc26_110, eq_true hc80_146, eq_true hc112_158, if_true, if_false] using R178_4), (by simpa only [own_bal, own_b1, own_b2, eq_false hc26_110, eq_true hc80_146, eq_true hc112_158, if_true, if_false] using R178_5), (by simpa only [own_bal, own_b1, own_b2, eq_false hc26_110, eq_true hc80_146, eq_true hc112_158, if_true, if_false] using R178_6), (by simpa only [own_bal, own_b1, own_b2, eq_false hc26_110, eq_true hc80_146, eq_true hc112_158, if_true, if_false] using R178_7), (by simpa only [own_bal, own_b1, own_b2, eq_false hc26_110, eq_true hc80_146, eq_true hc112_158, if_true, if_false] using R178_8), (by simpa only [own_bal, own_b1, own_b2, eq_false hc26_110, eq_true hc80_146, eq_true hc112_158, if_true, if_false] using ((own_rngp R160_6 (H22.2 _)).2 _))⟩
      · skip
        obtain ⟨cq180, q180, q180'⟩ := H0.cell
        obtain ⟨_, _, ⟨T180, L180, k180, n180⟩, -, X180, ⟨Lc180, hQ180, l180, y180, z180⟩, st180⟩ := X154.privateBack hx (y := (⟨"com/example/prequential/prequential/measure/ScoreMultiset", "rotateLeft", "(I)I"⟩ : MethodName)) hown (mvT hZ (own_w hw 66 rfl)) (mvT hZ (own_w hw 67 rfl)) (mvT hZ (own_selp (by decide) (own_w hw 2 rfl) (own_w hw 68 rfl) (own_w hw 67 rfl))) (Cond.privateMethod_at (mvP hZ (own_w hw 68 rfl) (args := #[]))) (mvT hZ (own_w hw 69 rfl)) (by decide) (backOf (W := 0) (rm11 l Z a0 hw [] a1 p2 al kl lL ar kr lR ac kc lC au ku lT ah kh lH h0 n0 Z0 H0 H1 H2 H3 H4 H5 H6 H7 H8 H9 H10 H11 H12 H13 H14 H15 H16 H17 H18 H19 H20 H21 H22 H23 H24 H25 H26) hZ (own_w hw 69 rfl) (own_w hw 3 rfl) (by decide) (by decide)) (g := (mkF m 128 #[.val (.ref a1), .val (.int p2), .val (.int ((own_g lH (own_g lL p2)) - (own_g lH (own_g lR p2)))), .val (.int (own_g lR p2))] [(.int p2), (.ref a1)])) rfl (by rw [hml]; rfl) (Steps.refl _) (a := a1) (by rw [e154]; exact q180) q180' (argsL := [(.int p2)]) (rest := []) (lenOf pd_2 rfl) rfl (by show 2 * 0 + _ ≤ _; exact Nat.le_of_eq rfl) (hb hby d7_128) (fun _ _ => ⟨rfl, e154, (by decide : 0 + 0 ≤ _), (by decide : 0 + 0 ≤ _)⟩)
        dsimp only [Pt.U, Pt.locs, Pt.cells, Pt.slots] at X180 l180 y180 z180 st180 hQ180
        subst l180 y180 z180
        obtain ⟨rfl, Nq180, K180, R180_1, R180_2, R180_3, R180_4, R180_5, R180_6, R180_7, R180_8⟩ := hQ180
        have N180 := Fr.app N0 Nq180
        obtain ⟨fs, hr, hrun, hended, hW, hsame⟩ := X180.leave (v := some (.int (own_g lR p2))) (fun h => by rw [Bd.returns] at h; cases h) (BodyLoose.notSynchronized Bd)
        refine ⟨_, _, pre157 _ ?_, hrun, hended, _, _, rfl, ?_, ⟨_, rfl⟩, hW, hsame.mono (by decide) (by decide)⟩
        · skip
          show Steps p.tables e below (T154.setTop (mkF m 112 #[.val (.ref a1), .val (.int p2), .val (.int ((own_g lH (own_g lL p2)) - (own_g lH (own_g lR p2)))), .val (.int (own_g lR p2))] [(.int (own_g lH (own_g lR (own_g lR p2)))), (.int (own_g lH (own_g lL (own_g lR p2))))])) _
          refine XS.icmpYes X154.here hx rfl (pc0 := 112) (pc' := 126) rfl (hb hby d7_112) rfl (flt (hc112_158 : ¬ ((own_g lH (own_g lR (own_g lR p2))) < (own_g lH (own_g lL (own_g lR p2)))))).2.2.2 (by decide) (by decide) ?_
          refine XS.aloadN X154.here hx rfl (hb hby d7_126) rfl rfl ?_
          refine XS.iloadN X154.here hx rfl (hb hby d7_127) rfl ?_
          show Steps p.tables e below (T154.setTop (mkF m 128 #[.val (.ref a1), .val (.int p2), .val (.int ((own_g lH (own_g lL p2)) - (own_g lH (own_g lR p2)))), .val (.int (own_g lR p2))] [(.int p2), (.ref a1)])) _
          refine st180.trans ?_
          show Steps p.tables e below (T180.setTop (mkF m 131 #[.val (.ref a1), .val (.int p2), .val (.int ((own_g lH (own_g lL p2)) - (own_g lH (own_g lR p2)))), .val (.int (own_g lR p2))] [(.int (own_g lR p2))])) _
          exact retI X180 hx Bd.returns (hb hby d7_131) hr
        · show Q7 Z a1 p2 al kl lL ar kr lR ac kc lC au ku lT ah kh lH h0 n0 _ T180.heap _
          exact ⟨(by simp only [own_bal, own_b1, own_b2, eq_false hc26_110, eq_true hc80_146, eq_false hc112_158, if_true, if_false]), N180, ((Keep.refl h0 [al, ar, au, ah]).trans K180 (allS (P := (fun x => x ∈ [al, ar, au, ah] ∨ h0.size ≤ x)) (Or.inl (List.mem_of_getElem? (i := 0) rfl)) (allS (P := (fun x => x ∈ [al, ar, au, ah] ∨ h0.size ≤ x)) (Or.inl (List.mem_of_getElem? (i := 1) rfl)) (allS (P := (fun x => x ∈ [al, ar, au, ah] ∨ h0.size ≤ x)) (Or.inl (List.mem_of_getElem? (i := 2) rfl)) (allS (P := (fun x => x ∈ [al, ar, au, ah] ∨ h0.size ≤ x)) (Or.inl (List.mem_of_getElem? (i := 3) rfl)) all0))))), (by simpa only [own_bal, own_b1, own_b2, eq_false hc26_110, eq_true hc80_146, eq_false hc112_158, if_true, if_false] using R180_1), (by simpa only [own_bal, own_b1, own_b2, eq_false hc26_110, eq_true hc80_146, eq_false hc112_158, if_true, if_false] using R180_2), (by simpa only [own_bal, own_b1, own_b2, eq_false hc26_110, eq_true hc80_146, eq_false hc112_158, if_true, if_false] using R180_3), (by simpa only [own_bal, own_b1, own_b2, eq_false hc26_110, eq_true hc80_146, eq_false hc112_158, if_true, if_false] using R180_4), (by simpa only [own_bal, own_b1, own_b2, eq_false hc26_110, eq_true hc80_146, eq_false hc112_158, if_true, if_false] using R180_5), (by simpa only [own_bal, own_b1, own_b2, eq_false hc26_110, eq_true hc80_146, eq_false hc112_158, if_true, if_false] using R180_6), (by simpa only [own_bal, own_b1, own_b2, eq_false hc26_110, eq_true hc80_146, eq_false hc112_158, if_true, if_false] using R180_7), (by simpa only [own_bal, own_b1, own_b2, eq_false hc26_110, eq_true hc80_146, eq_false hc112_158, if_true, if_false] using R180_8), (by simpa only [own_bal, own_b1, own_b2, eq_false hc26_110, eq_true hc80_146, eq_false hc112_158, if_true, if_false] using (H23.2 _))⟩
    · skip
      obtain ⟨cq181, q181, q181'⟩ := H0.cell
      obtain ⟨_, _, ⟨T181, L181, k181, n181⟩, -, X181, ⟨Lc181, hQ181, l181, y181, z181⟩, st181⟩ := X106.privateBack hx (y := (⟨"com/example/prequential/prequential/measure/ScoreMultiset", "update", "(I)V"⟩ : MethodName)) hown (mvT hZ (own_w hw 54 rfl)) (mvT hZ (own_w hw 55 rfl)) (mvT hZ (own_selp (by decide) (own_w hw 2 rfl) (own_w hw 56 rfl) (own_w hw 55 rfl))) (Cond.privateMethod_at (mvP hZ (own_w hw 56 rfl) (args := #[]))) (mvT hZ (own_w hw 57 rfl)) (by decide) (backOf (W := 0) (rm8 l Z a0 hw [] a1 p2 al kl lL ar kr lR ac kc lC au ku lT ah kh lH h0 n0 Z0 H0 H1 H2 H3 H4 H5 H6 H7 H8 H9 H10 H13 H14 H18 H19 H20 H21 H22 H23 H24 H25 H26) hZ (own_w hw 57 rfl) (own_w hw 3 rfl) (by decide) (by decide)) (g := (mkF m 134 #[.val (.ref a1), .val (.int p2), .val (.int ((own_g lH (own_g lL p2)) - (own_g lH (own_g lR p2)))), .unset] [(.int p2), (.ref a1)])) rfl (by rw [hml]; rfl) (Steps.refl _) (a := a1) (by rw [e106]; exact q181) q181' (argsL := [(.int p2)]) (rest := []) (lenOf pd_1 rfl) rfl (by show 2 * 0 + _ ≤ _; exact Nat.le_of_eq rfl) (hb hby d7_134) (fun _ _ => ⟨rfl, e106, (by decide : 0 + 0 ≤ _), (by decide : 0 + 0 ≤ _)⟩)
      dsimp only [Pt.U, Pt.locs, Pt.cells, Pt.slots] at X181 l181 y181 z181 st181 hQ181
      subst l181 y181 z181
      obtain ⟨rfl, Nq181, K181, R181_1, R181_2, R181_3, R181_4⟩ := hQ181
      have N181 := Fr.app N0 Nq181
      have ne182 : al ≠ ah := own_ne_arv H6 H10 (by decide)
      have f183 := (H6.keep K181 (ninS H18 (ninS ne182 nin0)))
      have ne184 : ar ≠ ah := own_ne_arv H7 H10 (by decide)
      have f185 := (H7.keep K181 (ninS H19 (ninS ne184 nin0)))
      obtain ⟨fs, hr, hrun, hended, hW, hsame⟩ := X181.leave (v := some (.int p2)) (fun h => by rw [Bd.returns] at h; cases h) (BodyLoose.notSynchronized Bd)
      refine ⟨_, _, pre145 _ ?_, hrun, hended, _, _, rfl, ?_, ⟨_, rfl⟩, hW, hsame.mono (by decide) (by decide)⟩
      · skip
        show Steps p.tables e below (T106.setTop (mkF m 80 #[.val (.ref a1), .val (.int p2), .val (.int ((own_g lH (own_g lL p2)) - (own_g lH (own_g lR p2)))), .unset] [(.int (-1 : Int32)), (.int ((own_g lH (own_g lL p2)) - (own_g lH (own_g lR p2))))])) _
        refine XS.icmpYes X106.here hx rfl (pc0 := 80) (pc' := 132) rfl (hb hby d7_80) rfl (flt (hc80_146 : ¬ (((own_g lH (own_g lL p2)) - (own_g lH (own_g lR p2))) < (-1 : Int32)))).2.1 (by decide) (by decide) ?_
        refine XS.aloadN X106.here hx rfl (hb hby d7_132) rfl rfl ?_
        refine XS.iloadN X106.here hx rfl (hb hby d7_133) rfl ?_
        show Steps p.tables e below (T106.setTop (mkF m 134 #[.val (.ref a1), .val (.int p2), .val (.int ((own_g lH (own_g lL p2)) - (own_g lH (own_g lR p2)))), .unset] [(.int p2), (.ref a1)])) _
        refine st181.trans ?_
        show Steps p.tables e below (T181.setTop (mkF m 137 #[.val (.ref a1), .val (.int p2), .val (.int ((own_g lH (own_g lL p2)) - (own_g lH (own_g lR p2)))), .unset] [])) _
        refine XS.iloadN X181.here hx rfl (hb hby d7_137) rfl ?_
        show Steps p.tables e below (T181.setTop (mkF m 138 #[.val (.ref a1), .val (.int p2), .val (.int ((own_g lH (own_g lL p2)) - (own_g lH (own_g lR p2)))), .unset] [(.int p2)])) _
        exact retI X181 hx Bd.returns (hb hby d7_138) hr
      · show Q7 Z a1 p2 al kl lL ar kr lR ac kc lC au ku lT ah kh lH h0 n0 _ T181.heap _
        exact ⟨(by simp only [own_bal, own_b1, own_b2, eq_false hc26_110, eq_false hc80_146, if_true, if_false]), N181, ((Keep.refl h0 [al, ar, au, ah]).trans K181 (allS (P := (fun x => x ∈ [al, ar, au, ah] ∨ h0.size ≤ x)) (Or.inl (List.mem_of_getElem? (i := 2) rfl)) (allS (P := (fun x => x ∈ [al, ar, au, ah] ∨ h0.size ≤ x)) (Or.inl (List.mem_of_getElem? (i := 3) rfl)) all0))), (by simpa only [own_bal, own_b1, own_b2, eq_false hc26_110, eq_false hc80_146, if_true, if_false] using f183), (by simpa only [own_bal, own_b1, own_b2, eq_false hc26_110, eq_false hc80_146, if_true, if_false] using f185), (by simpa only [own_bal, own_b1, own_b2, eq_false hc26_110, eq_false hc80_146, if_true, if_false] using R181_1), (by simpa only [own_bal, own_b1, own_b2, eq_false hc26_110, eq_false hc80_146, if_true, if_false] using R181_2), (by simpa only [own_bal, own_b1, own_b2, eq_false hc26_110, eq_false hc80_146, if_true, if_false] using H22), (by simpa only [own_bal, own_b1, own_b2, eq_false hc26_110, eq_false hc80_146, if_true, if_false] using H23), (by simpa only [own_bal, own_b1, own_b2, eq_false hc26_110, eq_false hc80_146, if_true, if_false] using R181_3), (by simpa only [own_bal, own_b1, own_b2, eq_false hc26_110, eq_false hc80_146, if_true, if_false] using R181_4), (by simpa only [own_bal, own_b1, own_b2, eq_false hc26_110, eq_false hc80_146, if_true, if_false] using H21)⟩
abbrev own_e6 (k : Nat) (i : Instr) (l : Nat) : Prop := decode prog_108_method_15_code k = .ok (i, l)
theorem d6_0 : own_e6 0 (.aload_n 0) 1 := by decide +kernel
theorem d6_1 : own_e6 1 (.getfield 40) 3 := by decide +kernel
theorem d6_4 : own_e6 4 (.ifCond .ne 15) 3 := by decide +kernel
theorem d6_7 : own_e6 7 (.aload_n 0) 1 := by decide +kernel
theorem d6_8 : own_e6 8 (.getfield 23) 3 := by decide +kernel
theorem d6_11 : own_e6 11 (.iload_n 1) 1 := by decide +kernel
theorem d6_12 : own_e6 12 .dup2 1 := by decide +kernel
theorem d6_13 : own_e6 13 .iaload 1 := by decide +kernel
theorem d6_14 : own_e6 14 (.iload_n 2) 1 := by decide +kernel
theorem d6_15 : own_e6 15 .iadd 1 := by decide +kernel
theorem d6_16 : own_e6 16 .iastore 1 := by decide +kernel
theorem d6_17 : own_e6 17 (.iload_n 1) 1 := by decide +kernel
theorem d6_18 : own_e6 18 .ireturn 1 := by decide +kernel
theorem d6_19 : own_e6 19 (.aload_n 0) 1 := by decide +kernel
theorem d6_20 : own_e6 20 (.getfield 26) 3 := by decide +kernel
theorem d6_23 : own_e6 23 (.iload_n 1) 1 := by decide +kernel
theorem d6_24 : own_e6 24 .baload 1 := by decide +kernel
theorem d6_25 : own_e6 25 (.istore_n 3) 1 := by decide +kernel
theorem d6_26 : own_e6 26 (.aload_n 0) 1 := by decide +kernel
theorem d6_27 : own_e6 27 (.iload_n 1) 1 := by decide +kernel
theorem d6_28 : own_e6 28 (.invokevirtual 95) 3 := by decide +kernel
theorem d6_31 : own_e6 31 (.istore 4) 2 := by decide +kernel
theorem d6_33 : own_e6 33 (.aload_n 0) 1 := by decide +kernel
theorem d6_34 : own_e6 34 (.aload_n 0) 1 := by decide +kernel
theorem d6_35 : own_e6 35 (.getfield 26) 3 := by decide +kernel
theorem d6_38 : own_e6 38 (.iload 4) 2 := by decide +kernel
theorem d6_40 : own_e6 40 .baload 1 := by decide +kernel
theorem d6_41 : own_e6 41 (.iload_n 3) 1 := by decide +kernel
theorem d6_42 : own_e6 42 (.if_icmp .eq 7) 3 := by decide +kernel
theorem d6_49 : own_e6 49 (.iconst 0) 1 := by decide +kernel
theorem d6_50 : own_e6 50 (.putfield 40) 3 := by decide +kernel
theorem d6_53 : own_e6 53 (.iload 4) 2 := by decide +kernel
theorem d6_55 : own_e6 55 .ireturn 1 := by decide +kernel
theorem d6_45 : own_e6 45 (.iconst 1) 1 := by decide +kernel
theorem d6_46 : own_e6 46 (.goto 4) 3 := by decide +kernel
theorem ef_6 (m : MethodId) (a1 : Addr) (p2 : Int32) (p3 : Int32) : entryFrame m #[(.ref a1), (.int p2), (.int p3)] 5 = mkF m 0 #[.val (.ref a1), .val (.int p2), .val (.int p3), .unset, .unset] [] := by first | (simp [entryFrame, mkF, argsToLocals, Value.category]; done) | rfl
def Q6 (Z : State) (a1 : Addr) (p2 : Int32) (p3 : Int32) (ak : Addr) (ro : Int32) (u_ : Int32) (fr : Int32) (rs : Int32) (al : Addr) (kl : ClassId) (lL : List Int32) (ar : Addr) (kr : ClassId) (lR : List Int32) (ac : Addr) (kc : ClassId) (lC : List Int32) (au : Addr) (ku : ClassId) (lT : List Int32) (ah : Addr) (kh : ClassId) (lH : List Int32) (h0 : Heap) (n0 : Nat) (v : Option Value) (h : Heap) (L : List Loc) : Prop := v = some (.int (own_set lL lR lC lT lH rs p2 p3).2) ∧ Fr n0 L ∧ Keep h0 h [a1, al, ar, au, ah] ∧ Fld Z h a1 "com/example/prequential/prequential/measure/ScoreMultiset" "key" "[D" (.ref ak) ∧ Fld Z h a1 "com/example/prequential/prequential/measure/ScoreMultiset" "left" "[I" (.ref al) ∧ Fld Z h a1 "com/example/prequential/prequential/measure/ScoreMultiset" "right" "[I" (.ref ar) ∧ Fld Z h a1 "com/example/prequential/prequential/measure/ScoreMultiset" "count" "[I" (.ref ac) ∧ Fld Z h a1 "com/example/prequential/prequential/measure/ScoreMultiset" "total" "[I" (.ref au) ∧ Fld Z h a1 "com/example/prequential/prequential/measure/ScoreMultiset" "height" "[B" (.ref ah) ∧ Fld Z h a1 "com/example/prequential/prequential/measure/ScoreMultiset" "root" "I" (.int ro) ∧ Fld Z h a1 "com/example/prequential/prequential/measure/ScoreMultiset" "unused" "I" (.int u_) ∧ Fld Z h a1 "com/example/prequential/prequential/measure/ScoreMultiset" "freed" "I" (.int fr) ∧ Fld Z h a1 "com/example/prequential/prequential/measure/ScoreMultiset" "reshaped" "Z" (.int (own_set lL lR lC lT lH rs p2 p3).1.2) ∧ Arv Z h al kl .int (16 : Int32) (own_v (own_set lL lR lC lT lH rs p2 p3).1.1.1) (.int (0 : Int32)) ∧ Arv Z h ar kr .int (16 : Int32) (own_v (own_set lL lR lC lT lH rs p2 p3).1.1.2.1) (.int (0 : Int32)) ∧ Arv Z h au ku .int (16 : Int32) (own_v (own_set lL lR lC lT lH rs p2 p3).1.1.2.2.1) (.int (0 : Int32)) ∧ Arv Z h ah kh .byte (16 : Int32) (own_v (own_set lL lR lC lT lH rs p2 p3).1.1.2.2.2) (.int (0 : Int32)) ∧ own_rng (own_set lL lR lC lT lH rs p2 p3).1.1.1 ∧ own_rng (own_set lL lR lC lT lH rs p2 p3).1.1.2.1 ∧ (own_set lL lR lC lT lH rs p2 p3).1.1.2.2.1.length = 16 ∧ (own_set lL lR lC lT lH rs p2 p3).1.1.2.2.2.length = 16 ∧ own_in (own_set lL lR lC lT lH rs p2 p3).2
set_option maxRecDepth 65536 in
set_option maxHeartbeats 40000000 in
theorem rm6 (l : Launch) (Z : State) (a0 : Array Value) (hw : ∀ d ∈ tables_1, d.before a0 Z = true) (ws : List Jvm.Cond) (a1 : Addr) (p2 : Int32) (p3 : Int32) (ak : Addr) (ro : Int32) (u_ : Int32) (fr : Int32) (rs : Int32) (al : Addr) (kl : ClassId) (lL : List Int32) (ar : Addr) (kr : ClassId) (lR : List Int32) (ac : Addr) (kc : ClassId) (lC : List Int32) (au : Addr) (ku : ClassId) (lT : List Int32) (ah : Addr) (kh : ClassId) (lH : List Int32) (h0 : Heap) (n0 : Nat) (Z0 : n0 ≤ h0.size) (H0 : Exa Z h0 a1 "com/example/prequential/prequential/measure/ScoreMultiset") (H1 : Fld Z h0 a1 "com/example/prequential/prequential/measure/ScoreMultiset" "key" "[D" (.ref ak)) (H2 : Fld Z h0 a1 "com/example/prequential/prequential/measure/ScoreMultiset" "left" "[I" (.ref al)) (H3 : Fld Z h0 a1 "com/example/prequential/prequential/measure/ScoreMultiset" "right" "[I" (.ref ar)) (H4 : Fld Z h0 a1 "com/example/prequential/prequential/measure/ScoreMultiset" "count" "[I" (.ref ac)) (H5 : Fld Z h0 a1 "com/example/prequential/prequential/measure/ScoreMultiset" "total" "[I" (.ref au)) (H6 : Fld Z h0 a1 "com/example/prequential/prequential/measure/ScoreMultiset" "height" "[B" (.ref ah)) (H7 : Fld Z h0 a1 "com/example/prequential/prequential/measure/ScoreMultiset" "root" "I" (.int ro)) (H8 : Fld Z h0 a1 "com/example/prequential/prequential/measure/ScoreMultiset" "unused" "I" (.int u_)) (H9 : Fld Z h0 a1 "com/example/prequential/prequential/measure/ScoreMultiset" "freed" "I" (.int fr)) (H10 : Fld Z h0 a1 "com/example/prequential/prequential/measure/ScoreMultiset" "reshaped" "Z" (.int rs)) (H11 : Arv Z h0 al kl .int (16 : Int32) (own_v lL) (.int (0 : Int32))) (H12 : Arv Z h0 ar kr .int (16 : Int32) (own_v lR) (.int (0 : Int32))) (H13 : Arv Z h0 ac kc .int (16 : Int32) (own_v lC) (.int (0 : Int32))) (H14 : Arv Z h0 au ku .int (16 : Int32) (own_v lT) (.int (0 : Int32))) (H15 : Arv Z h0 ah kh .byte (16 : Int32) (own_v lH) (.int (0 : Int32))) (H16 : n0 ≤ al) (H17 : n0 ≤ ar) (H18 : n0 ≤ au) (H19 : n0 ≤ ah) (H20 : n0 ≤ a1) (H21 : al ≠ ar) (H22 : al ≠ ac) (H23 : ar ≠ ac) (H24 : al ≠ au) (H25 : ar ≠ au) (H26 : ac ≠ au) (H27 : own_in p2) (H28 : own_rng lL) (H29 : own_rng lR) (H30 : lC.length = 16) (H31 : lT.length = 16) (H32 : lH.length = 16) :
    own_MF l (⟨"com/example/prequential/prequential/measure/ScoreMultiset", "settle", "(II)I"⟩ : MethodName) (Jvm.Cond.code (⟨"com/example/prequential/prequential/measure/ScoreMultiset", "settle", "(II)I"⟩ : MethodName) prog_108_method_15_code 5 (some .int) :: ws) ({ frames := 4, cells := 0, slots := 0, locals := 59 } : Room) #[(.ref a1), (.int p2), (.int p3)] Z h0 (Q6 Z a1 p2 p3 ak ro u_ fr rs al kl lL ar kr lR ac kc lC au ku lT ah kh lH h0 n0) := by
  refine MetFree.of_bodySF (plainFor_of_name pn_com_example_prequential_prequential_measure_ScoreMultiset) hisR ?_
  intro p e s m args below meth c s₁ Bd hml0 hP hK
  obtain ⟨rfl, hZ, hh⟩ := hP
  have hx := Bd.exec
  have hby := Bd.bytes
  have hml : c.maxLocals = 5 := hml0
  have hown : s.vm.findClass "com/example/prequential/prequential/measure/ScoreMultiset" = some m.cls := findClass_of_methodNamed Bd.named
  have hnm := (name_of_methodNamed Bd.named Bd.method).1
  have X0 : Stand p l e ({ frames := 4, cells := 0, slots := 0, locals := 59 } : Room) s m #[(.ref a1), (.int p2), (.int p3)] below meth c s₁ [] 0 0 := Stand.of_body Bd
  have e0 : s₁.heap = h0 := by rw [← hh, Bd.state]; rfl
  have N0 := Fr.nil n0
  have pre0 : ∀ t, Steps p.tables e below (s₁.setTop (mkF m 0 #[.val (.ref a1), .val (.int p2), .val (.int p3), .unset, .unset] [])) t → Steps p.tables e below (s₁.setTop (entryFrame m #[(.ref a1), (.int p2), (.int p3)] 5)) t := fun t k => castTop (ef_6 m a1 p2 p3) k
  obtain ⟨T101, X101, e101, st101⟩ := getF X0 hx hZ hown (host := "") (Or.inl (own_w hw 36 rfl)) Via.refl e0 H10 (g := (mkF m 1 #[.val (.ref a1), .val (.int p2), .val (.int p3), .unset, .unset] [(.ref a1)])) rfl rfl (hb hby d6_1)
  have pre102 : ∀ t, Steps p.tables e below (T101.setTop (mkF m 4 #[.val (.ref a1), .val (.int p2), .val (.int p3), .unset, .unset] [(.int rs)])) t → Steps p.tables e below (s₁.setTop (entryFrame m #[(.ref a1), (.int p2), (.int p3)] 5)) t := fun t kt => by
    refine pre0 t ?_
    show Steps p.tables e below (s₁.setTop (mkF m 0 #[.val (.ref a1), .val (.int p2), .val (.int p3), .unset, .unset] [])) _
    refine XS.aloadN X0.here hx rfl (hb hby d6_0) rfl rfl ?_
    refine st101 _ ?_
    show Steps p.tables e below (T101.setTop (mkF m 4 #[.val (.ref a1), .val (.int p2), .val (.int p3), .unset, .unset] [(.int rs)])) _
    exact kt
  by_cases hc4_103 : rs = (0 : Int32)
  · skip
    obtain ⟨T104, X104, e104, st104⟩ := getF X101 hx hZ hown (host := "") (Or.inl (own_w hw 20 rfl)) Via.refl e101 H5 (g := (mkF m 8 #[.val (.ref a1), .val (.int p2), .val (.int p3), .unset, .unset] [(.ref a1)])) rfl rfl (hb hby d6_8)
    obtain ⟨cl106, Ar106, qc106, S106, M106, Hh106, G106⟩ := id H14
    have hin106 : ¬ (p2 < 0 ∨ cl106.slots.size ≤ (p2).toNatClampNeg) := inb_of S106 H27
    obtain ⟨T106, h106, X106, e106, W106, st106⟩ := stI X104 hx hZ e104 Ar106 (j := p2) hin106 (g := (mkF m 16 #[.val (.ref a1), .val (.int p2), .val (.int p3), .unset, .unset] [(.int ((own_g lT p2) + p3)), (.int p2), (.ref au)])) rfl rfl (hb hby d6_16)
    have V106 : Arv Z h106 au ku .int (16 : Int32) (own_v (own_p lT p2 ((own_g lT p2) + p3))) (.int (0 : Int32)) := by rw [own_vp]; exact Arv.set Ar106 qc106 S106 M106 Hh106 G106 rfl W106 p2.toNatClampNeg (rfl) (own_vlt H27 H31)
    have N106 := Fr.snoc X106 N0 H18
    have ne107 : a1 ≠ au := Exa.neArv (H0.wr W106) V106 (own_w hw 2 rfl)
    have f108 := (H10.other W106 (Or.inl ne107))
    have f109 := (H11.other W106 H24)
    have f110 := (H12.other W106 H25)
    have ne111 : ah ≠ au := own_ne_arv H15 H14 (by decide)
    have f112 := (H15.other W106 ne111)
    have f113 := (H1.other W106 (Or.inl ne107))
    have f114 := (H2.other W106 (Or.inl ne107))
    have f115 := (H3.other W106 (Or.inl ne107))
    have f116 := (H4.other W106 (Or.inl ne107))
    have f117 := (H5.other W106 (Or.inl ne107))
    have f118 := (H6.other W106 (Or.inl ne107))
    have f119 := (H7.other W106 (Or.inl ne107))
    have f120 := (H8.other W106 (Or.inl ne107))
    have f121 := (H9.other W106 (Or.inl ne107))
    obtain ⟨fs, hr, hrun, hended, hW, hsame⟩ := X106.leave (v := some (.int p2)) (fun h => by rw [Bd.returns] at h; cases h) (BodyLoose.notSynchronized Bd)
    refine ⟨_, _, pre102 _ ?_, hrun, hended, _, _, rfl, ?_, ⟨_, rfl⟩, hW, hsame.mono (by decide) (by decide)⟩
    · skip
      show Steps p.tables e below (T101.setTop (mkF m 4 #[.val (.ref a1), .val (.int p2), .val (.int p3), .unset, .unset] [(.int rs)])) _
      refine XS.ifNo X101.here hx rfl (hb hby d6_4) rfl ((if0 _ _).trans (teq (hc4_103 : rs = (0 : Int32))).2) ?_
      refine XS.aloadN X101.here hx rfl (hb hby d6_7) rfl rfl ?_
      refine st104 _ ?_
      refine XS.iloadN X104.here hx rfl (hb hby d6_11) rfl ?_
      show Steps p.tables e below (T104.setTop (mkF m 12 #[.val (.ref a1), .val (.int p2), .val (.int p3), .unset, .unset] [(.int p2), (.ref au)])) _
      refine XT.dup2 X104.here hx rfl (hb hby d6_12) rfl rfl rfl ?_
      show Steps p.tables e below (T104.setTop (mkF m 13 #[.val (.ref a1), .val (.int p2), .val (.int p3), .unset, .unset] [(.int p2), (.ref au), (.int p2), (.ref au)])) _
      refine own_ia X104 hx hZ e104 H14 H27 (hb hby d6_13) ?_
      show Steps p.tables e below (T104.setTop (mkF m 14 #[.val (.ref a1), .val (.int p2), .val (.int p3), .unset, .unset] [(.int (own_g lT p2)), (.int p2), (.ref au)])) _
      refine XS.iloadN X104.here hx rfl (hb hby d6_14) rfl ?_
      refine XS.iadd X104.here hx rfl (hb hby d6_15) rfl ?_
      refine st106 _ ?_
      refine XS.iloadN X106.here hx rfl (hb hby d6_17) rfl ?_
      show Steps p.tables e below (T106.setTop (mkF m 18 #[.val (.ref a1), .val (.int p2), .val (.int p3), .unset, .unset] [(.int p2)])) _
      exact retI X106 hx Bd.returns (hb hby d6_18) hr
    · show Q6 Z a1 p2 p3 ak ro u_ fr rs al kl lL ar kr lR ac kc lC au ku lT ah kh lH h0 n0 _ T106.heap _
      rw [e106]
      exact ⟨(by simp only [own_set, own_s1, eq_true hc4_103, if_true, if_false]), N106, ((Keep.refl h0 [a1, al, ar, au, ah]).wr W106 (Or.inl (List.mem_of_getElem? (i := 3) rfl))), f113, f114, f115, f116, f117, f118, f119, f120, f121, (by simpa only [own_set, own_s1, eq_true hc4_103, if_true, if_false] using f108), (by simpa only [own_set, own_s1, eq_true hc4_103, if_true, if_false] using f109), (by simpa only [own_set, own_s1, eq_true hc4_103, if_true, if_false] using f110), (by simpa only [own_set, own_s1, eq_true hc4_103, if_true, if_false] using V106), (by simpa only [own_set, own_s1, eq_true hc4_103, if_true, if_false] using f112), (by simpa only [own_set, own_s1, eq_true hc4_103, if_true, if_false] using H28), (by simpa only [own_set, own_s1, eq_true hc4_103, if_true, if_false] using H29), (by simpa only [own_set, own_s1, eq_true hc4_103, if_true, if_false] using (own_16p H31)), (by simpa only [own_set, own_s1, eq_true hc4_103, if_true, if_false] using H32), (by simpa only [own_set, own_s1, eq_true hc4_103, if_true, if_false] using H27)⟩
  · skip
    obtain ⟨T122, X122, e122, st122⟩ := getF X101 hx hZ hown (host := "") (Or.inl (own_w hw 23 rfl)) Via.refl e101 H6 (g := (mkF m 20 #[.val (.ref a1), .val (.int p2), .val (.int p3), .unset, .unset] [(.ref a1)])) rfl rfl (hb hby d6_20)
    obtain ⟨cq124, q124, q124'⟩ := H0.cell
    obtain ⟨_, _, ⟨T124, L124, k124, n124⟩, -, X124, ⟨Lc124, hQ124, l124, y124, z124⟩, st124⟩ := X122.privateBack hx (y := (⟨"com/example/prequential/prequential/measure/ScoreMultiset", "balance", "(I)I"⟩ : MethodName)) hown (mvT hZ (own_w hw 50 rfl)) (mvT hZ (own_w hw 51 rfl)) (mvT hZ (own_selp (by decide) (own_w hw 2 rfl) (own_w hw 52 rfl) (own_w hw 51 rfl))) (Cond.privateMethod_at (mvP hZ (own_w hw 52 rfl) (args := #[]))) (mvT hZ (own_w hw 53 rfl)) (by decide) (backOf (W := 0) (rm7 l Z a0 hw [] a1 p2 al kl lL ar kr lR ac kc lC au ku lT ah kh lH h0 n0 Z0 H0 H2 H3 H4 H5 H6 H11 H12 H13 H14 H15 H16 H17 H18 H19 H21 H22 H23 H24 H25 H26 H27 H28 H29 H30 H31 H32) hZ (own_w hw 53 rfl) (own_w hw 3 rfl) (by decide) (by decide)) (g := (mkF m 28 #[.val (.ref a1), .val (.int p2), .val (.int p3), .val (.int (own_g lH p2)), .unset] [(.int p2), (.ref a1)])) rfl (by rw [hml]; rfl) (Steps.refl _) (a := a1) (by rw [e122]; exact q124) q124' (argsL := [(.int p2)]) (rest := []) (lenOf pd_2 rfl) rfl (by show 2 * 0 + _ ≤ _; exact Nat.le_of_eq rfl) (hb hby d6_28) (fun _ _ => ⟨rfl, e122, (by decide : 0 + 0 ≤ _), (by decide : 0 + 0 ≤ _)⟩)
    dsimp only [Pt.U, Pt.locs, Pt.cells, Pt.slots] at X124 l124 y124 z124 st124 hQ124
    subst l124 y124 z124
    obtain ⟨rfl, Nq124, K124, R124_1, R124_2, R124_3, R124_4, R124_5, R124_6, R124_7, R124_8, R124_9⟩ := hQ124
    have N124 := Fr.app N0 Nq124
    have ne125 : a1 ≠ ah := Exa.neArv (H0.keep K124) R124_4 (own_w hw 2 rfl)
    have ne126 : a1 ≠ au := Exa.neArv (H0.keep K124) R124_3 (own_w hw 2 rfl)
    have ne127 : a1 ≠ ar := Exa.neArv (H0.keep K124) R124_2 (own_w hw 2 rfl)
    have ne128 : a1 ≠ al := Exa.neArv (H0.keep K124) R124_1 (own_w hw 2 rfl)
    have f129 := (H6.keep K124 (ninS ne128 (ninS ne127 (ninS ne126 (ninS ne125 nin0)))))
    obtain ⟨T130, X130, e130, st130⟩ := getF X124 hx hZ hown (host := "") (Or.inl (own_w hw 23 rfl)) Via.refl rfl f129 (g := (mkF m 35 #[.val (.ref a1), .val (.int p2), .val (.int p3), .val (.int (own_g lH p2)), .val (.int (own_bal lL lR lC lT lH p2).2)] [(.ref a1), (.ref a1)])) rfl rfl (hb hby d6_35)
    have pre132 : ∀ t, Steps p.tables e below (T130.setTop (mkF m 42 #[.val (.ref a1), .val (.int p2), .val (.int p3), .val (.int (own_g lH p2)), .val (.int (own_bal lL lR lC lT lH p2).2)] [(.int (own_g lH p2)), (.int (own_g ((own_bal lL lR lC lT lH p2).1.2.2.2) ((own_bal lL lR lC lT lH p2).2))), (.ref a1)])) t → Steps p.tables e below (s₁.setTop (entryFrame m #[(.ref a1), (.int p2), (.int p3)] 5)) t := fun t kt => by
      refine pre102 t ?_
      show Steps p.tables e below (T101.setTop (mkF m 4 #[.val (.ref a1), .val (.int p2), .val (.int p3), .unset, .unset] [(.int rs)])) _
      refine XS.ifYes X101.here hx rfl (pc0 := 4) (pc' := 19) rfl (hb hby d6_4) rfl ((if0 _ _).trans (feq (hc4_103 : ¬ (rs = (0 : Int32)))).2) (by decide) (by decide) ?_
      refine XS.aloadN X101.here hx rfl (hb hby d6_19) rfl rfl ?_
      refine st122 _ ?_
      refine XS.iloadN X122.here hx rfl (hb hby d6_23) rfl ?_
      show Steps p.tables e below (T122.setTop (mkF m 24 #[.val (.ref a1), .val (.int p2), .val (.int p3), .unset, .unset] [(.int p2), (.ref ah)])) _
      refine own_ba X122 hx hZ e122 H15 H27 (hb hby d6_24) ?_
      show Steps p.tables e below (T122.setTop (mkF m 25 #[.val (.ref a1), .val (.int p2), .val (.int p3), .unset, .unset] [(.int (own_g lH p2))])) _
      refine XS.istoreN X122.here hx rfl (hb hby d6_25) rfl (l' := #[.val (.ref a1), .val (.int p2), .val (.int p3), .val (.int (own_g lH p2)), .unset]) rfl ?_
      refine XS.aloadN X122.here hx rfl (hb hby d6_26) rfl rfl ?_
      refine XS.iloadN X122.here hx rfl (hb hby d6_27) rfl ?_
      show Steps p.tables e below (T122.setTop (mkF m 28 #[.val (.ref a1), .val (.int p2), .val (.int p3), .val (.int (own_g lH p2)), .unset] [(.int p2), (.ref a1)])) _
      refine st124.trans ?_
      show Steps p.tables e below (T124.setTop (mkF m 31 #[.val (.ref a1), .val (.int p2), .val (.int p3), .val (.int (own_g lH p2)), .unset] [(.int (own_bal lL lR lC lT lH p2).2)])) _
      refine XS.istore X124.here hx rfl (hb hby d6_31) rfl (l' := #[.val (.ref a1), .val (.int p2), .val (.int p3), .val (.int (own_g lH p2)), .val (.int (own_bal lL lR lC lT lH p2).2)]) rfl ?_
      refine XS.aloadN X124.here hx rfl (hb hby d6_33) rfl rfl ?_
      refine XS.aloadN X124.here hx rfl (hb hby d6_34) rfl rfl ?_
      refine st130 _ ?_
      refine XS.iload X130.here hx rfl (hb hby d6_38) rfl ?_
      show Steps p.tables e below (T130.setTop (mkF m 40 #[.val (.ref a1), .val (.int p2), .val (.int p3), .val (.int (own_g lH p2)), .val (.int (own_bal lL lR lC lT lH p2).2)] [(.int (own_bal lL lR lC lT lH p2).2), (.ref ah), (.ref a1)])) _
      refine own_ba X130 hx hZ e130 R124_4 R124_9 (hb hby d6_40) ?_
      show Steps p.tables e below (T130.setTop (mkF m 41 #[.val (.ref a1), .val (.int p2), .val (.int p3), .val (.int (own_g lH p2)), .val (.int (own_bal lL lR lC lT lH p2).2)] [(.int (own_g ((own_bal lL lR lC lT lH p2).1.2.2.2) ((own_bal lL lR lC lT lH p2).2))), (.ref a1)])) _
      refine XS.iloadN X130.here hx rfl (hb hby d6_41) rfl ?_
      show Steps p.tables e below (T130.setTop (mkF m 42 #[.val (.ref a1), .val (.int p2), .val (.int p3), .val (.int (own_g lH p2)), .val (.int (own_bal lL lR lC lT lH p2).2)] [(.int (own_g lH p2)), (.int (own_g ((own_bal lL lR lC lT lH p2).1.2.2.2) ((own_bal lL lR lC lT lH p2).2))), (.ref a1)])) _
      exact kt
    by_cases hc42_133 : (own_g ((own_bal lL lR lC lT lH p2).1.2.2.2) ((own_bal lL lR lC lT lH p2).2)) = (own_g lH p2)
    · skip
      have f134 := (H10.keep K124 (ninS ne128 (ninS ne127 (ninS ne126 (ninS ne125 nin0)))))
      have f135 := (H0.keep K124)
      obtain ⟨T136, h136, X136, e136, W136, st136⟩ := putFN X130 hx hZ hown (own_w hw 36 rfl) Via.refl e130 f134 f135 (Or.inl (own_w hw 37 rfl)) (own_w hw 2 rfl) (ty := .boolean) (v' := (.int (nar .boolean (0 : Int32)))) (by decide) rfl (fits_nar_bool _) (g := (mkF m 50 #[.val (.ref a1), .val (.int p2), .val (.int p3), .val (.int (own_g lH p2)), .val (.int (own_bal lL lR lC lT lH p2).2)] [(.int (0 : Int32)), (.ref a1)])) rfl rfl (hb hby d6_50)
      rw [show nar .boolean (0 : Int32) = (0 : Int32) from by decide] at W136
      have Fw136 := f134.same W136
      have N136 := Fr.snoc X136 N124 H20
      have f137 := (R124_1.other W136 (Ne.symm ne128))
      have f138 := (R124_2.other W136 (Ne.symm ne127))
      have f139 := (R124_3.other W136 (Ne.symm ne126))
      have f140 := (R124_4.other W136 (Ne.symm ne125))
      have f141 := ((H1.keep K124 (ninS ne128 (ninS ne127 (ninS ne126 (ninS ne125 nin0))))).other W136 (Or.inr (slot_ne (Or.inl (own_w hw 12 rfl)) (Or.inl (own_w hw 37 rfl)) (by decide) (t := (.array .double)) (t' := .boolean) (by decide) (by decide))))
      have f142 := ((H2.keep K124 (ninS ne128 (ninS ne127 (ninS ne126 (ninS ne125 nin0))))).other W136 (Or.inr (slot_ne (Or.inl (own_w hw 15 rfl)) (Or.inl (own_w hw 37 rfl)) (by decide) (t := (.array .int)) (t' := .boolean) (by decide) (by decide))))
      have f143 := ((H3.keep K124 (ninS ne128 (ninS ne127 (ninS ne126 (ninS ne125 nin0))))).other W136 (Or.inr (slot_ne (Or.inl (own_w hw 17 rfl)) (Or.inl (own_w hw 37 rfl)) (by decide) (t := (.array .int)) (t' := .boolean) (by decide) (by decide))))
      have f144 := ((H4.keep K124 (ninS ne128 (ninS ne127 (ninS ne126 (ninS ne125 nin0))))).other W136 (Or.inr (slot_ne (Or.inl (own_w hw 19 rfl)) (Or.inl (own_w hw 37 rfl)) (by decide) (t := (.array .int)) (t' := .boolean) (by decide) (by decide))))
      have f145 := ((H5.keep K124 (ninS ne128 (ninS ne127 (ninS ne126 (ninS ne125 nin0))))).other W136 (Or.inr (slot_ne (Or.inl (own_w hw 21 rfl)) (Or.inl (own_w hw 37 rfl)) (by decide) (t := (.array .int)) (t' := .boolean) (by decide) (by decide))))
      have f146 := (f129.other W136 (Or.inr (slot_ne (Or.inl (own_w hw 24 rfl)) (Or.inl (own_w hw 37 rfl)) (by decide) (t := (.array .byte)) (t' := .boolean) (by decide) (by decide))))
      have f147 := ((H7.keep K124 (ninS ne128 (ninS ne127 (ninS ne126 (ninS ne125 nin0))))).other W136 (Or.inr (slot_ne (Or.inl (own_w hw 26 rfl)) (Or.inl (own_w hw 37 rfl)) (by decide) (t := .int) (t' := .boolean) (by decide) (by decide))))
      have f148 := ((H8.keep K124 (ninS ne128 (ninS ne127 (ninS ne126 (ninS ne125 nin0))))).other W136 (Or.inr (slot_ne (Or.inl (own_w hw 28 rfl)) (Or.inl (own_w hw 37 rfl)) (by decide) (t := .int) (t' := .boolean) (by decide) (by decide))))
      have f149 := ((H9.keep K124 (ninS ne128 (ninS ne127 (ninS ne126 (ninS ne125 nin0))))).other W136 (Or.inr (slot_ne (Or.inl (own_w hw 30 rfl)) (Or.inl (own_w hw 37 rfl)) (by decide) (t := .int) (t' := .boolean) (by decide) (by decide))))
      obtain ⟨fs, hr, hrun, hended, hW, hsame⟩ := X136.leave (v := some (.int (own_bal lL lR lC lT lH p2).2)) (fun h => by rw [Bd.returns] at h; cases h) (BodyLoose.notSynchronized Bd)
      refine ⟨_, _, pre132 _ ?_, hrun, hended, _, _, rfl, ?_, ⟨_, rfl⟩, hW, hsame.mono (by decide) (by decide)⟩
      · skip
        show Steps p.tables e below (T130.setTop (mkF m 42 #[.val (.ref a1), .val (.int p2), .val (.int p3), .val (.int (own_g lH p2)), .val (.int (own_bal lL lR lC lT lH p2).2)] [(.int (own_g lH p2)), (.int (own_g ((own_bal lL lR lC lT lH p2).1.2.2.2) ((own_bal lL lR lC lT lH p2).2))), (.ref a1)])) _
        refine XS.icmpYes X130.here hx rfl (pc0 := 42) (pc' := 49) rfl (hb hby d6_42) rfl (teq (hc42_133 : (own_g ((own_bal lL lR lC lT lH p2).1.2.2.2) ((own_bal lL lR lC lT lH p2).2)) = (own_g lH p2))).1 (by decide) (by decide) ?_
        refine XS.iconst X130.here hx rfl (hb hby d6_49) ?_
        refine st136 _ ?_
        refine XS.iload X136.here hx rfl (hb hby d6_53) rfl ?_
        show Steps p.tables e below (T136.setTop (mkF m 55 #[.val (.ref a1), .val (.int p2), .val (.int p3), .val (.int (own_g lH p2)), .val (.int (own_bal lL lR lC lT lH p2).2)] [(.int (own_bal lL lR lC lT lH p2).2)])) _
        exact retI X136 hx Bd.returns (hb hby d6_55) hr
      · show Q6 Z a1 p2 p3 ak ro u_ fr rs al kl lL ar kr lR ac kc lC au ku lT ah kh lH h0 n0 _ T136.heap _
        rw [e136]
        exact ⟨(by simp only [own_set, own_s1, eq_false hc4_103, eq_true hc42_133, if_true, if_false]), N136, (((Keep.refl h0 [a1, al, ar, au, ah]).trans K124 (allS (P := (fun x => x ∈ [a1, al, ar, au, ah] ∨ h0.size ≤ x)) (Or.inl (List.mem_of_getElem? (i := 1) rfl)) (allS (P := (fun x => x ∈ [a1, al, ar, au, ah] ∨ h0.size ≤ x)) (Or.inl (List.mem_of_getElem? (i := 2) rfl)) (allS (P := (fun x => x ∈ [a1, al, ar, au, ah] ∨ h0.size ≤ x)) (Or.inl (List.mem_of_getElem? (i := 3) rfl)) (allS (P := (fun x => x ∈ [a1, al, ar, au, ah] ∨ h0.size ≤ x)) (Or.inl (List.mem_of_getElem? (i := 4) rfl)) all0))))).wr W136 (Or.inl (List.mem_of_getElem? (i := 0) rfl))), f141, f142, f143, f144, f145, f146, f147, f148, f149, (by simpa only [own_set, own_s1, eq_false hc4_103, eq_true hc42_133, if_true, if_false] using Fw136), (by simpa only [own_set, own_s1, eq_false hc4_103, eq_true hc42_133, if_true, if_false] using f137), (by simpa only [own_set, own_s1, eq_false hc4_103, eq_true hc42_133, if_true, if_false] using f138), (by simpa only [own_set, own_s1, eq_false hc4_103, eq_true hc42_133, if_true, if_false] using f139), (by simpa only [own_set, own_s1, eq_false hc4_103, eq_true hc42_133, if_true, if_false] using f140), (by simpa only [own_set, own_s1, eq_false hc4_103, eq_true hc42_133, if_true, if_false] using R124_5), (by simpa only [own_set, own_s1, eq_false hc4_103, eq_true hc42_133, if_true, if_false] using R124_6), (by simpa only [own_set, own_s1, eq_false hc4_103, eq_true hc42_133, if_true, if_false] using R124_7), (by simpa only [own_set, own_s1, eq_false hc4_103, eq_true hc42_133, if_true, if_false] using R124_8), (by simpa only [own_set, own_s1, eq_false hc4_103, eq_true hc42_133, if_true, if_false] using R124_9)⟩
    · skip
      have f150 := (H10.keep K124 (ninS ne128 (ninS ne127 (ninS ne126 (ninS ne125 nin0)))))
      have f151 := (H0.keep K124)
      obtain ⟨T152, h152, X152, e152, W152, st152⟩ := putFN X130 hx hZ hown (own_w hw 36 rfl) Via.refl e130 f150 f151 (Or.inl (own_w hw 37 rfl)) (own_w hw 2 rfl) (ty := .boolean) (v' := (.int (nar .boolean (1 : Int32)))) (by decide) rfl (fits_nar_bool _) (g := (mkF m 50 #[.val (.ref a1), .val (.int p2), .val (.int p3), .val (.int (own_g lH p2)), .val (.int (own_bal lL lR lC lT lH p2).2)] [(.int (1 : Int32)), (.ref a1)])) rfl rfl (hb hby d6_50)
      rw [show nar .boolean (1 : Int32) = (1 : Int32) from by decide] at W152
      have Fw152 := f150.same W152
      have N152 := Fr.snoc X152 N124 H20
      have f153 := (R124_1.other W152 (Ne.symm ne128))
      have f154 := (R124_2.other W152 (Ne.symm ne127))
      have f155 := (R124_3.other W152 (Ne.symm ne126))
      have f156 := (R124_4.other W152 (Ne.symm ne125))
      have f157 := ((H1.keep K124 (ninS ne128 (ninS ne127 (ninS ne126 (ninS ne125 nin0))))).other W152 (Or.inr (slot_ne (Or.inl (own_w hw 12 rfl)) (Or.inl (own_w hw 37 rfl)) (by decide) (t := (.array .double)) (t' := .boolean) (by decide) (by decide))))
      have f158 := ((H2.keep K124 (ninS ne128 (ninS ne127 (ninS ne126 (ninS ne125 nin0))))).other W152 (Or.inr (slot_ne (Or.inl (own_w hw 15 rfl)) (Or.inl (own_w hw 37 rfl)) (by decide) (t := (.array .int)) (t' := .boolean) (by decide) (by decide))))
      have f159 := ((H3.keep K124 (ninS ne128 (ninS ne127 (ninS ne126 (ninS ne125 nin0))))).other W152 (Or.inr (slot_ne (Or.inl (own_w hw 17 rfl)) (Or.inl (own_w hw 37 rfl)) (by decide) (t := (.array .int)) (t' := .boolean) (by decide) (by decide))))
      have f160 := ((H4.keep K124 (ninS ne128 (ninS ne127 (ninS ne126 (ninS ne125 nin0))))).other W152 (Or.inr (slot_ne (Or.inl (own_w hw 19 rfl)) (Or.inl (own_w hw 37 rfl)) (by decide) (t := (.array .int)) (t' := .boolean) (by decide) (by decide))))
      have f161 := ((H5.keep K124 (ninS ne128 (ninS ne127 (ninS ne126 (ninS ne125 nin0))))).other W152 (Or.inr (slot_ne (Or.inl (own_w hw 21 rfl)) (Or.inl (own_w hw 37 rfl)) (by decide) (t := (.array .int)) (t' := .boolean) (by decide) (by decide))))
      have f162 := (f129.other W152 (Or.inr (slot_ne (Or.inl (own_w hw 24 rfl)) (Or.inl (own_w hw 37 rfl)) (by decide) (t := (.array .byte)) (t' := .boolean) (by decide) (by decide))))
      have f163 := ((H7.keep K124 (ninS ne128 (ninS ne127 (ninS ne126 (ninS ne125 nin0))))).other W152 (Or.inr (slot_ne (Or.inl (own_w hw 26 rfl)) (Or.inl (own_w hw 37 rfl)) (by decide) (t := .int) (t' := .boolean) (by decide) (by decide))))
      have f164 := ((H8.keep K124 (ninS ne128 (ninS ne127 (ninS ne126 (ninS ne125 nin0))))).other W152 (Or.inr (slot_ne (Or.inl (own_w hw 28 rfl)) (Or.inl (own_w hw 37 rfl)) (by decide) (t := .int) (t' := .boolean) (by decide) (by decide))))
      have f165 := ((H9.keep K124 (ninS ne128 (ninS ne127 (ninS ne126 (ninS ne125 nin0))))).other W152 (Or.inr (slot_ne (Or.inl (own_w hw 30 rfl)) (Or.inl (own_w hw 37 rfl)) (by decide) (t := .int) (t' := .boolean) (by decide) (by decide))))
      obtain ⟨fs, hr, hrun, hended, hW, hsame⟩ := X152.leave (v := some (.int (own_bal lL lR lC lT lH p2).2)) (fun h => by rw [Bd.returns] at h; cases h) (BodyLoose.notSynchronized Bd)
      refine ⟨_, _, pre132 _ ?_, hrun, hended, _, _, rfl, ?_, ⟨_, rfl⟩, hW, hsame.mono (by decide) (by decide)⟩
      · skip
        show Steps p.tables e below (T130.setTop (mkF m 42 #[.val (.ref a1), .val (.int p2), .val (.int p3), .val (.int (own_g lH p2)), .val (.int (own_bal lL lR lC lT lH p2).2)] [(.int (own_g lH p2)), (.int (own_g ((own_bal lL lR lC lT lH p2).1.2.2.2) ((own_bal lL lR lC lT lH p2).2))), (.ref a1)])) _
        refine XS.icmpNo X130.here hx rfl (hb hby d6_42) rfl (feq (hc42_133 : ¬ ((own_g ((own_bal lL lR lC lT lH p2).1.2.2.2) ((own_bal lL lR lC lT lH p2).2)) = (own_g lH p2)))).1 ?_
        refine XS.iconst X130.here hx rfl (hb hby d6_45) ?_
        refine XS.goto X130.here hx rfl (pc0 := 46) (pc' := 50) rfl (hb hby d6_46) (by decide) (by decide) ?_
        refine st152 _ ?_
        refine XS.iload X152.here hx rfl (hb hby d6_53) rfl ?_
        show Steps p.tables e below (T152.setTop (mkF m 55 #[.val (.ref a1), .val (.int p2), .val (.int p3), .val (.int (own_g lH p2)), .val (.int (own_bal lL lR lC lT lH p2).2)] [(.int (own_bal lL lR lC lT lH p2).2)])) _
        exact retI X152 hx Bd.returns (hb hby d6_55) hr
      · show Q6 Z a1 p2 p3 ak ro u_ fr rs al kl lL ar kr lR ac kc lC au ku lT ah kh lH h0 n0 _ T152.heap _
        rw [e152]
        exact ⟨(by simp only [own_set, own_s1, eq_false hc4_103, eq_false hc42_133, if_true, if_false]), N152, (((Keep.refl h0 [a1, al, ar, au, ah]).trans K124 (allS (P := (fun x => x ∈ [a1, al, ar, au, ah] ∨ h0.size ≤ x)) (Or.inl (List.mem_of_getElem? (i := 1) rfl)) (allS (P := (fun x => x ∈ [a1, al, ar, au, ah] ∨ h0.size ≤ x)) (Or.inl (List.mem_of_getElem? (i := 2) rfl)) (allS (P := (fun x => x ∈ [a1, al, ar, au, ah] ∨ h0.size ≤ x)) (Or.inl (List.mem_of_getElem? (i := 3) rfl)) (allS (P := (fun x => x ∈ [a1, al, ar, au, ah] ∨ h0.size ≤ x)) (Or.inl (List.mem_of_getElem? (i := 4) rfl)) all0))))).wr W152 (Or.inl (List.mem_of_getElem? (i := 0) rfl))), f157, f158, f159, f160, f161, f162, f163, f164, f165, (by simpa only [own_set, own_s1, eq_false hc4_103, eq_false hc42_133, if_true, if_false] using Fw152), (by simpa only [own_set, own_s1, eq_false hc4_103, eq_false hc42_133, if_true, if_false] using f153), (by simpa only [own_set, own_s1, eq_false hc4_103, eq_false hc42_133, if_true, if_false] using f154), (by simpa only [own_set, own_s1, eq_false hc4_103, eq_false hc42_133, if_true, if_false] using f155), (by simpa only [own_set, own_s1, eq_false hc4_103, eq_false hc42_133, if_true, if_false] using f156), (by simpa only [own_set, own_s1, eq_false hc4_103, eq_false hc42_133, if_true, if_false] using R124_5), (by simpa only [own_set, own_s1, eq_false hc4_103, eq_false hc42_133, if_true, if_false] using R124_6), (by simpa only [own_set, own_s1, eq_false hc4_103, eq_false hc42_133, if_true, if_false] using R124_7), (by simpa only [own_set, own_s1, eq_false hc4_103, eq_false hc42_133, if_true, if_false] using R124_8), (by simpa only [own_set, own_s1, eq_false hc4_103, eq_false hc42_133, if_true, if_false] using R124_9)⟩
abbrev own_e5 (k : Nat) (i : Instr) (l : Nat) : Prop := decode prog_108_method_20_code k = .ok (i, l)
theorem d5_0 : own_e5 0 (.aload_n 0) 1 := by decide +kernel
theorem d5_1 : own_e5 1 (.getfield 37) 3 := by decide +kernel
theorem d5_4 : own_e5 4 (.ifCond .eq 21) 3 := by decide +kernel
theorem d5_25 : own_e5 25 (.aload_n 0) 1 := by decide +kernel
theorem d5_26 : own_e5 26 (.getfield 34) 3 := by decide +kernel
theorem d5_29 : own_e5 29 (.aload_n 0) 1 := by decide +kernel
theorem d5_30 : own_e5 30 (.getfield 9) 3 := by decide +kernel
theorem d5_33 : own_e5 33 .arraylength 1 := by decide +kernel
theorem d5_34 : own_e5 34 (.if_icmp .ne 7) 3 := by decide +kernel
theorem d5_41 : own_e5 41 (.aload_n 0) 1 := by decide +kernel
theorem d5_42 : own_e5 42 .dup 1 := by decide +kernel
theorem d5_43 : own_e5 43 (.getfield 34) 3 := by decide +kernel
theorem d5_46 : own_e5 46 .dup_x1 1 := by decide +kernel
theorem d5_47 : own_e5 47 (.iconst 1) 1 := by decide +kernel
theorem d5_48 : own_e5 48 .iadd 1 := by decide +kernel
theorem d5_49 : own_e5 49 (.putfield 34) 3 := by decide +kernel
theorem d5_52 : own_e5 52 (.istore_n 3) 1 := by decide +kernel
theorem d5_53 : own_e5 53 (.aload_n 0) 1 := by decide +kernel
theorem d5_54 : own_e5 54 (.getfield 9) 3 := by decide +kernel
theorem d5_57 : own_e5 57 (.iload_n 3) 1 := by decide +kernel
theorem d5_58 : own_e5 58 (.dload_n 1) 1 := by decide +kernel
theorem d5_59 : own_e5 59 .dastore 1 := by decide +kernel
theorem d5_60 : own_e5 60 (.aload_n 0) 1 := by decide +kernel
theorem d5_61 : own_e5 61 (.getfield 13) 3 := by decide +kernel
theorem d5_64 : own_e5 64 (.iload_n 3) 1 := by decide +kernel
theorem d5_65 : own_e5 65 (.iconst 0) 1 := by decide +kernel
theorem d5_66 : own_e5 66 .iastore 1 := by decide +kernel
theorem d5_67 : own_e5 67 (.aload_n 0) 1 := by decide +kernel
theorem d5_68 : own_e5 68 (.getfield 17) 3 := by decide +kernel
theorem d5_71 : own_e5 71 (.iload_n 3) 1 := by decide +kernel
theorem d5_72 : own_e5 72 (.iconst 0) 1 := by decide +kernel
theorem d5_73 : own_e5 73 .iastore 1 := by decide +kernel
theorem d5_74 : own_e5 74 (.aload_n 0) 1 := by decide +kernel
theorem d5_75 : own_e5 75 (.getfield 20) 3 := by decide +kernel
theorem d5_78 : own_e5 78 (.iload_n 3) 1 := by decide +kernel
theorem d5_79 : own_e5 79 (.iconst 1) 1 := by decide +kernel
theorem d5_80 : own_e5 80 .iastore 1 := by decide +kernel
theorem d5_81 : own_e5 81 (.aload_n 0) 1 := by decide +kernel
theorem d5_82 : own_e5 82 (.getfield 23) 3 := by decide +kernel
theorem d5_85 : own_e5 85 (.iload_n 3) 1 := by decide +kernel
theorem d5_86 : own_e5 86 (.iconst 1) 1 := by decide +kernel
theorem d5_87 : own_e5 87 .iastore 1 := by decide +kernel
theorem d5_88 : own_e5 88 (.aload_n 0) 1 := by decide +kernel
theorem d5_89 : own_e5 89 (.getfield 26) 3 := by decide +kernel
theorem d5_92 : own_e5 92 (.iload_n 3) 1 := by decide +kernel
theorem d5_93 : own_e5 93 (.iconst 1) 1 := by decide +kernel
theorem d5_94 : own_e5 94 .bastore 1 := by decide +kernel
theorem d5_95 : own_e5 95 (.aload_n 0) 1 := by decide +kernel
theorem d5_96 : own_e5 96 (.iconst 1) 1 := by decide +kernel
theorem d5_97 : own_e5 97 (.putfield 40) 3 := by decide +kernel
theorem d5_100 : own_e5 100 (.iload_n 3) 1 := by decide +kernel
theorem d5_101 : own_e5 101 .ireturn 1 := by decide +kernel
theorem ef_5 (m : MethodId) (a1 : Addr) (xv : UInt64) : entryFrame m #[(.ref a1), (.double xv)] 4 = mkF m 0 #[.val (.ref a1), .val (.double xv), .second, .unset] [] := by first | (simp [entryFrame, mkF, argsToLocals, Value.category]; done) | rfl
def Q5 (Z : State) (a1 : Addr) (xv : UInt64) (ak : Addr) (ro : Int32) (u_ : Int32) (rs : Int32) (al : Addr) (kl : ClassId) (lL : List Int32) (ar : Addr) (kr : ClassId) (lR : List Int32) (ac : Addr) (kc : ClassId) (lC : List Int32) (au : Addr) (ku : ClassId) (lT : List Int32) (ah : Addr) (kh : ClassId) (lH : List Int32) (kk : ClassId) (kK : List Nat) (val : Nat → UInt64) (xi : Nat) (h0 : Heap) (n0 : Nat) (v : Option Value) (h : Heap) (L : List Loc) : Prop := v = some (.int u_) ∧ Fr n0 L ∧ Keep h0 h [a1, ak, al, ar, ac, au, ah] ∧ Fld Z h a1 "com/example/prequential/prequential/measure/ScoreMultiset" "key" "[D" (.ref ak) ∧ Fld Z h a1 "com/example/prequential/prequential/measure/ScoreMultiset" "left" "[I" (.ref al) ∧ Fld Z h a1 "com/example/prequential/prequential/measure/ScoreMultiset" "right" "[I" (.ref ar) ∧ Fld Z h a1 "com/example/prequential/prequential/measure/ScoreMultiset" "count" "[I" (.ref ac) ∧ Fld Z h a1 "com/example/prequential/prequential/measure/ScoreMultiset" "total" "[I" (.ref au) ∧ Fld Z h a1 "com/example/prequential/prequential/measure/ScoreMultiset" "height" "[B" (.ref ah) ∧ Fld Z h a1 "com/example/prequential/prequential/measure/ScoreMultiset" "root" "I" (.int ro) ∧ Fld Z h a1 "com/example/prequential/prequential/measure/ScoreMultiset" "unused" "I" (.int (u_ + (1 : Int32))) ∧ Fld Z h a1 "com/example/prequential/prequential/measure/ScoreMultiset" "freed" "I" (.int (0 : Int32)) ∧ Fld Z h a1 "com/example/prequential/prequential/measure/ScoreMultiset" "reshaped" "Z" (.int (1 : Int32)) ∧ Arv Z h al kl .int (16 : Int32) (own_v (own_p lL u_ (0 : Int32))) (.int (0 : Int32)) ∧ Arv Z h ar kr .int (16 : Int32) (own_v (own_p lR u_ (0 : Int32))) (.int (0 : Int32)) ∧ Arv Z h ac kc .int (16 : Int32) (own_v (own_p lC u_ (1 : Int32))) (.int (0 : Int32)) ∧ Arv Z h au ku .int (16 : Int32) (own_v (own_p lT u_ (1 : Int32))) (.int (0 : Int32)) ∧ Arv Z h ah kh .byte (16 : Int32) (own_v (own_p lH u_ (1 : Int32))) (.int (0 : Int32)) ∧ own_Kar Z h ak kk (own_pk kK u_ xi) val
set_option maxRecDepth 65536 in
set_option maxHeartbeats 40000000 in
theorem rm5 (l : Launch) (Z : State) (a0 : Array Value) (hw : ∀ d ∈ tables_1, d.before a0 Z = true) (ws : List Jvm.Cond) (a1 : Addr) (xv : UInt64) (ak : Addr) (ro : Int32) (u_ : Int32) (rs : Int32) (al : Addr) (kl : ClassId) (lL : List Int32) (ar : Addr) (kr : ClassId) (lR : List Int32) (ac : Addr) (kc : ClassId) (lC : List Int32) (au : Addr) (ku : ClassId) (lT : List Int32) (ah : Addr) (kh : ClassId) (lH : List Int32) (kk : ClassId) (kK : List Nat) (val : Nat → UInt64) (xi : Nat) (h0 : Heap) (n0 : Nat) (Z0 : n0 ≤ h0.size) (H0 : Exa Z h0 a1 "com/example/prequential/prequential/measure/ScoreMultiset") (H1 : Fld Z h0 a1 "com/example/prequential/prequential/measure/ScoreMultiset" "key" "[D" (.ref ak)) (H2 : Fld Z h0 a1 "com/example/prequential/prequential/measure/ScoreMultiset" "left" "[I" (.ref al)) (H3 : Fld Z h0 a1 "com/example/prequential/prequential/measure/ScoreMultiset" "right" "[I" (.ref ar)) (H4 : Fld Z h0 a1 "com/example/prequential/prequential/measure/ScoreMultiset" "count" "[I" (.ref ac)) (H5 : Fld Z h0 a1 "com/example/prequential/prequential/measure/ScoreMultiset" "total" "[I" (.ref au)) (H6 : Fld Z h0 a1 "com/example/prequential/prequential/measure/ScoreMultiset" "height" "[B" (.ref ah)) (H7 : Fld Z h0 a1 "com/example/prequential/prequential/measure/ScoreMultiset" "root" "I" (.int ro)) (H8 : Fld Z h0 a1 "com/example/prequential/prequential/measure/ScoreMultiset" "unused" "I" (.int u_)) (H9 : Fld Z h0 a1 "com/example/prequential/prequential/measure/ScoreMultiset" "freed" "I" (.int (0 : Int32))) (H10 : Fld Z h0 a1 "com/example/prequential/prequential/measure/ScoreMultiset" "reshaped" "Z" (.int rs)) (H11 : Arv Z h0 al kl .int (16 : Int32) (own_v lL) (.int (0 : Int32))) (H12 : Arv Z h0 ar kr .int (16 : Int32) (own_v lR) (.int (0 : Int32))) (H13 : Arv Z h0 ac kc .int (16 : Int32) (own_v lC) (.int (0 : Int32))) (H14 : Arv Z h0 au ku .int (16 : Int32) (own_v lT) (.int (0 : Int32))) (H15 : Arv Z h0 ah kh .byte (16 : Int32) (own_v lH) (.int (0 : Int32))) (H16 : own_Kar Z h0 ak kk kK val) (H17 : n0 ≤ a1) (H18 : n0 ≤ ak) (H19 : n0 ≤ al) (H20 : n0 ≤ ar) (H21 : n0 ≤ ac) (H22 : n0 ≤ au) (H23 : n0 ≤ ah) (H24 : al ≠ ar) (H25 : al ≠ ac) (H26 : ar ≠ ac) (H27 : al ≠ au) (H28 : ar ≠ au) (H29 : ac ≠ au) (H30 : own_rng lL) (H31 : own_rng lR) (H32 : lC.length = 16) (H33 : lT.length = 16) (H34 : lH.length = 16) (H35 : own_in u_) (H36 : xv = val xi) :
    own_MF l (⟨"com/example/prequential/prequential/measure/ScoreMultiset", "newNode", "(D)I"⟩ : MethodName) (Jvm.Cond.code (⟨"com/example/prequential/prequential/measure/ScoreMultiset", "newNode", "(D)I"⟩ : MethodName) prog_108_method_20_code 4 (some .int) :: ws) ({ frames := 0, cells := 0, slots := 0, locals := 0 } : Room) #[(.ref a1), (.double xv)] Z h0 (Q5 Z a1 xv ak ro u_ rs al kl lL ar kr lR ac kc lC au ku lT ah kh lH kk kK val xi h0 n0) := by
  refine MetFree.of_bodySF (plainFor_of_name pn_com_example_prequential_prequential_measure_ScoreMultiset) hisR ?_
  intro p e s m args below meth c s₁ Bd hml0 hP hK
  obtain ⟨rfl, hZ, hh⟩ := hP
  have hx := Bd.exec
  have hby := Bd.bytes
  have hml : c.maxLocals = 4 := hml0
  have hown : s.vm.findClass "com/example/prequential/prequential/measure/ScoreMultiset" = some m.cls := findClass_of_methodNamed Bd.named
  have hnm := (name_of_methodNamed Bd.named Bd.method).1
  have X0 : Stand p l e ({ frames := 0, cells := 0, slots := 0, locals := 0 } : Room) s m #[(.ref a1), (.double xv)] below meth c s₁ [] 0 0 := Stand.of_body Bd
  have e0 : s₁.heap = h0 := by rw [← hh, Bd.state]; rfl
  have N0 := Fr.nil n0
  have pre0 : ∀ t, Steps p.tables e below (s₁.setTop (mkF m 0 #[.val (.ref a1), .val (.double xv), .second, .unset] [])) t → Steps p.tables e below (s₁.setTop (entryFrame m #[(.ref a1), (.double xv)] 4)) t := fun t k => castTop (ef_5 m a1 xv) k
  obtain ⟨T101, X101, e101, st101⟩ := getF X0 hx hZ hown (host := "") (Or.inl (own_w hw 29 rfl)) Via.refl e0 H9 (g := (mkF m 1 #[.val (.ref a1), .val (.double xv), .second, .unset] [(.ref a1)])) rfl rfl (hb hby d5_1)
  obtain ⟨T102, X102, e102, st102⟩ := getF X101 hx hZ hown (host := "") (Or.inl (own_w hw 27 rfl)) Via.refl e101 H8 (g := (mkF m 26 #[.val (.ref a1), .val (.double xv), .second, .unset] [(.ref a1)])) rfl rfl (hb hby d5_26)
  obtain ⟨T103, X103, e103, st103⟩ := getF X102 hx hZ hown (host := "") (Or.inl (own_w hw 11 rfl)) Via.refl e102 H1 (g := (mkF m 30 #[.val (.ref a1), .val (.double xv), .second, .unset] [(.ref a1), (.int u_)])) rfl rfl (hb hby d5_30)
  obtain ⟨cl104, Ar104, qc104, S104, M104, Hh104⟩ := id H16
  obtain ⟨T105, X105, e105, st105⟩ := getF X103 hx hZ hown (host := "") (Or.inl (own_w hw 27 rfl)) Via.refl e103 H8 (g := (mkF m 43 #[.val (.ref a1), .val (.double xv), .second, .unset] [(.ref a1), (.ref a1)])) rfl rfl (hb hby d5_43)
  obtain ⟨T106, h106, X106, e106, W106, st106⟩ := putF X105 hx hZ hown (host := "") (Or.inl (own_w hw 27 rfl)) Via.refl e105 H8 H0 (Or.inl (own_w hw 28 rfl)) (own_w hw 2 rfl) (ty := .int) (by decide) rfl rfl (g := (mkF m 49 #[.val (.ref a1), .val (.double xv), .second, .unset] [(.int (u_ + (1 : Int32))), (.ref a1), (.int u_)])) rfl rfl (hb hby d5_49)
  have Fw106 := H8.same W106
  have N106 := Fr.snoc X106 N0 H17
  have f107 := (H1.other W106 (Or.inr (slot_ne (Or.inl (own_w hw 12 rfl)) (Or.inl (own_w hw 28 rfl)) (by decide) (t := (.array .double)) (t' := .int) (by decide) (by decide))))
  obtain ⟨T108, X108, e108, st108⟩ := getF X106 hx hZ hown (host := "") (Or.inl (own_w hw 11 rfl)) Via.refl e106 f107 (g := (mkF m 54 #[.val (.ref a1), .val (.double xv), .second, .val (.int u_)] [(.ref a1)])) rfl rfl (hb hby d5_54)
  have ne109 : a1 ≠ ak := own_ne_kar H0 (own_w hw 2 rfl) H16
  have f110 := (H16.other W106 (Ne.symm ne109))
  obtain ⟨cl111, Ar111, qc111, S111, M111, Hh111⟩ := id f110
  have hin111 : ¬ (u_ < 0 ∨ cl111.slots.size ≤ (u_).toNatClampNeg) := inb_of S111 H35
  obtain ⟨T111, h111, X111, e111, W111, st111⟩ := stD X108 hx hZ e108 Ar111 (j := u_) hin111 (g := (mkF m 59 #[.val (.ref a1), .val (.double xv), .second, .val (.int u_)] [(.double xv), (.int u_), (.ref ak)])) rfl rfl (hb hby d5_59)
  have V111 : own_Kar Z h111 ak kk (own_pk kK u_ xi) val := own_Kar.set Ar111 qc111 S111 M111 Hh111 H35 H36 W111
  have N111 := Fr.snoc X111 N106 H18
  have f112 := ((H2.other W106 (Or.inr (slot_ne (Or.inl (own_w hw 15 rfl)) (Or.inl (own_w hw 28 rfl)) (by decide) (t := (.array .int)) (t' := .int) (by decide) (by decide)))).other W111 (Or.inl ne109))
  obtain ⟨T113, X113, e113, st113⟩ := getF X111 hx hZ hown (host := "") (Or.inl (own_w hw 14 rfl)) Via.refl e111 f112 (g := (mkF m 61 #[.val (.ref a1), .val (.double xv), .second, .val (.int u_)] [(.ref a1)])) rfl rfl (hb hby d5_61)
  have ne114 : a1 ≠ al := Exa.neArv H0 H11 (own_w hw 2 rfl)
  have ne115 : al ≠ ak := own_ne_kv H11 H16 (by decide)
  have f116 := ((H11.other W106 (Ne.symm ne114)).other W111 ne115)
  obtain ⟨cl117, Ar117, qc117, S117, M117, Hh117, G117⟩ := id f116
  have hin117 : ¬ (u_ < 0 ∨ cl117.slots.size ≤ (u_).toNatClampNeg) := inb_of S117 H35
  obtain ⟨T117, h117, X117, e117, W117, st117⟩ := stI X113 hx hZ e113 Ar117 (j := u_) hin117 (g := (mkF m 66 #[.val (.ref a1), .val (.double xv), .second, .val (.int u_)] [(.int (0 : Int32)), (.int u_), (.ref al)])) rfl rfl (hb hby d5_66)
  have V117 : Arv Z h117 al kl .int (16 : Int32) (own_v (own_p lL u_ (0 : Int32))) (.int (0 : Int32)) := by rw [own_vp]; exact Arv.set Ar117 qc117 S117 M117 Hh117 G117 rfl W117 u_.toNatClampNeg (rfl) (own_vlt H35 H30.1)
  have N117 := Fr.snoc X117 N111 H19
  have f118 := (((H3.other W106 (Or.inr (slot_ne (Or.inl (own_w hw 17 rfl)) (Or.inl (own_w hw 28 rfl)) (by decide) (t := (.array .int)) (t' := .int) (by decide) (by decide)))).other W111 (Or.inl ne109)).other W117 (Or.inl ne114))
  obtain ⟨T119, X119, e119, st119⟩ := getF X117 hx hZ hown (host := "") (Or.inl (own_w hw 16 rfl)) Via.refl e117 f118 (g := (mkF m 68 #[.val (.ref a1), .val (.double xv), .second, .val (.int u_)] [(.ref a1)])) rfl rfl (hb hby d5_68)
  have ne120 : a1 ≠ ar := Exa.neArv H0 H12 (own_w hw 2 rfl)
  have ne121 : ar ≠ ak := own_ne_kv H12 H16 (by decide)
  have f122 := (((H12.other W106 (Ne.symm ne120)).other W111 ne121).other W117 (Ne.symm H24))
  obtain ⟨cl123, Ar123, qc123, S123, M123, Hh123, G123⟩ := id f122
  have hin123 : ¬ (u_ < 0 ∨ cl123.slots.size ≤ (u_).toNatClampNeg) := inb_of S123 H35
  obtain ⟨T123, h123, X123, e123, W123, st123⟩ := stI X119 hx hZ e119 Ar123 (j := u_) hin123 (g := (mkF m 73 #[.val (.ref a1), .val (.double xv), .second, .val (.int u_)] [(.int (0 : Int32)), (.int u_), (.ref ar)])) rfl rfl (hb hby d5_73)
  have V123 : Arv Z h123 ar kr .int (16 : Int32) (own_v (own_p lR u_ (0 : Int32))) (.int (0 : Int32)) := by rw [own_vp]; exact Arv.set Ar123 qc123 S123 M123 Hh123 G123 rfl W123 u_.toNatClampNeg (rfl) (own_vlt H35 H31.1)
  have N123 := Fr.snoc X123 N117 H20
  have f124 := ((((H4.other W106 (Or.inr (slot_ne (Or.inl (own_w hw 19 rfl)) (Or.inl (own_w hw 28 rfl)) (by decide) (t := (.array .int)) (t' := .int) (by decide) (by decide)))).other W111 (Or.inl ne109)).other W117 (Or.inl ne114)).other W123 (Or.inl ne120))
  obtain ⟨T125, X125, e125, st125⟩ := getF X123 hx hZ hown (host := "") (Or.inl (own_w hw 18 rfl)) Via.refl e123 f124 (g := (mkF m 75 #[.val (.ref a1), .val (.double xv), .second, .val (.int u_)] [(.ref a1)])) rfl rfl (hb hby d5_75)
  have ne126 : a1 ≠ ac := Exa.neArv H0 H13 (own_w hw 2 rfl)
  have ne127 : ac ≠ ak := own_ne_kv H13 H16 (by decide)
  have f128 := ((((H13.other W106 (Ne.symm ne126)).other W111 ne127).other W117 (Ne.symm H25)).other W123 (Ne.symm H26))
  obtain ⟨cl129, Ar129, qc129, S129, M129, Hh129, G129⟩ := id f128
  have hin129 : ¬ (u_ < 0 ∨ cl129.slots.size ≤ (u_).toNatClampNeg) := inb_of S129 H35
  obtain ⟨T129, h129, X129, e129, W129, st129⟩ := stI X125 hx hZ e125 Ar129 (j := u_) hin129 (g := (mkF m 80 #[.val (.ref a1), .val (.double xv), .second, .val (.int u_)] [(.int (1 : Int32)), (.int u_), (.ref ac)])) rfl rfl (hb hby d5_80)
  have V129 : Arv Z h129 ac kc .int (16 : Int32) (own_v (own_p lC u_ (1 : Int32))) (.int (0 : Int32)) := by rw [own_vp]; exact Arv.set Ar129 qc129 S129 M129 Hh129 G129 rfl W129 u_.toNatClampNeg (rfl) (own_vlt H35 H32)
  have N129 := Fr.snoc X129 N123 H21
  have f130 := (((((H5.other W106 (Or.inr (slot_ne (Or.inl (own_w hw 21 rfl)) (Or.inl (own_w hw 28 rfl)) (by decide) (t := (.array .int)) (t' := .int) (by decide) (by decide)))).other W111 (Or.inl ne109)).other W117 (Or.inl ne114)).other W123 (Or.inl ne120)).other W129 (Or.inl ne126))
  obtain ⟨T131, X131, e131, st131⟩ := getF X129 hx hZ hown (host := "") (Or.inl (own_w hw 20 rfl)) Via.refl e129 f130 (g := (mkF m 82 #[.val (.ref a1), .val (.double xv), .second, .val (.int u_)] [(.ref a1)])) rfl rfl (hb hby d5_82)
  have ne132 : a1 ≠ au := Exa.neArv H0 H14 (own_w hw 2 rfl)
  have ne133 : au ≠ ak := own_ne_kv H14 H16 (by decide)
  have f134 := (((((H14.other W106 (Ne.symm ne132)).other W111 ne133).other W117 (Ne.symm H27)).other W123 (Ne.symm H28)).other W129 (Ne.symm H29))
  obtain ⟨cl135, Ar135, qc135, S135, M135, Hh135, G135⟩ := id f134
  have hin135 : ¬ (u_ < 0 ∨ cl135.slots.size ≤ (u_).toNatClampNeg) := inb_of S135 H35
  obtain ⟨T135, h135, X135, e135, W135, st135⟩ := stI X131 hx hZ e131 Ar135 (j := u_) hin135 (g := (mkF m 87 #[.val (.ref a1), .val (.double xv), .second, .val (.int u_)] [(.int (1 : Int32)), (.int u_), (.ref au)])) rfl rfl (hb hby d5_87)
  have V135 : Arv Z h135 au ku .int (16 : Int32) (own_v (own_p lT u_ (1 : Int32))) (.int (0 : Int32)) := by rw [own_vp]; exact Arv.set Ar135 qc135 S135 M135 Hh135 G135 rfl W135 u_.toNatClampNeg (rfl) (own_vlt H35 H33)
  have N135 := Fr.snoc X135 N129 H22
  have f136 := ((((((H6.other W106 (Or.inr (slot_ne (Or.inl (own_w hw 24 rfl)) (Or.inl (own_w hw 28 rfl)) (by decide) (t := (.array .byte)) (t' := .int) (by decide) (by decide)))).other W111 (Or.inl ne109)).other W117 (Or.inl ne114)).other W123 (Or.inl ne120)).other W129 (Or.inl ne126)).other W135 (Or.inl ne132))
  obtain ⟨T137, X137, e137, st137⟩ := getF X135 hx hZ hown (host := "") (Or.inl (own_w hw 23 rfl)) Via.refl e135 f136 (g := (mkF m 89 #[.val (.ref a1), .val (.double xv), .second, .val (.int u_)] [(.ref a1)])) rfl rfl (hb hby d5_89)
  have ne138 : a1 ≠ ah := Exa.neArv H0 H15 (own_w hw 2 rfl)
  have ne139 : ah ≠ ak := own_ne_kv H15 H16 (by decide)
  have ne140 : ah ≠ al := own_ne_arv H15 H11 (by decide)
  have ne141 : ah ≠ ar := own_ne_arv H15 H12 (by decide)
  have ne142 : ah ≠ ac := own_ne_arv H15 H13 (by decide)
  have ne143 : ah ≠ au := own_ne_arv H15 H14 (by decide)
  have f144 := ((((((H15.other W106 (Ne.symm ne138)).other W111 ne139).other W117 ne140).other W123 ne141).other W129 ne142).other W135 ne143)
  obtain ⟨cl145, Ar145, qc145, S145, M145, Hh145, G145⟩ := id f144
  have hin145 : ¬ (u_ < 0 ∨ cl145.slots.size ≤ (u_).toNatClampNeg) := inb_of S145 H35
  obtain ⟨T145, h145, X145, e145, W145, st145⟩ := stB X137 hx hZ e137 Ar145 (j := u_) hin145 (g := (mkF m 94 #[.val (.ref a1), .val (.double xv), .second, .val (.int u_)] [(.int (1 : Int32)), (.int u_), (.ref ah)])) rfl rfl (hb hby d5_94)
  rw [show nar .byte (1 : Int32) = (1 : Int32) from by decide] at W145
  have V145 : Arv Z h145 ah kh .byte (16 : Int32) (own_v (own_p lH u_ (1 : Int32))) (.int (0 : Int32)) := by rw [own_vp]; exact Arv.set Ar145 qc145 S145 M145 Hh145 G145 (by decide) W145 u_.toNatClampNeg (rfl) (own_vlt H35 H34)
  have N145 := Fr.snoc X145 N135 H23
  have f146 := (((((((H10.other W106 (Or.inr (slot_ne (Or.inl (own_w hw 37 rfl)) (Or.inl (own_w hw 28 rfl)) (by decide) (t := .boolean) (t' := .int) (by decide) (by decide)))).other W111 (Or.inl ne109)).other W117 (Or.inl ne114)).other W123 (Or.inl ne120)).other W129 (Or.inl ne126)).other W135 (Or.inl ne132)).other W145 (Or.inl ne138))
  have f147 := (((((((H0.wr W106).wr W111).wr W117).wr W123).wr W129).wr W135).wr W145)
  obtain ⟨T148, h148, X148, e148, W148, st148⟩ := putFN X145 hx hZ hown (own_w hw 36 rfl) Via.refl e145 f146 f147 (Or.inl (own_w hw 37 rfl)) (own_w hw 2 rfl) (ty := .boolean) (v' := (.int (nar .boolean (1 : Int32)))) (by decide) rfl (fits_nar_bool _) (g := (mkF m 97 #[.val (.ref a1), .val (.double xv), .second, .val (.int u_)] [(.int (1 : Int32)), (.ref a1)])) rfl rfl (hb hby d5_97)
  rw [show nar .boolean (1 : Int32) = (1 : Int32) from by decide] at W148
  have Fw148 := f146.same W148
  have N148 := Fr.snoc X148 N145 H17
  have f149 := (((((((f107.other W111 (Or.inl ne109)).other W117 (Or.inl ne114)).other W123 (Or.inl ne120)).other W129 (Or.inl ne126)).other W135 (Or.inl ne132)).other W145 (Or.inl ne138)).other W148 (Or.inr (slot_ne (Or.inl (own_w hw 12 rfl)) (Or.inl (own_w hw 37 rfl)) (by decide) (t := (.array .double)) (t' := .boolean) (by decide) (by decide))))
  have f150 := ((((((f112.other W117 (Or.inl ne114)).other W123 (Or.inl ne120)).other W129 (Or.inl ne126)).other W135 (Or.inl ne132)).other W145 (Or.inl ne138)).other W148 (Or.inr (slot_ne (Or.inl (own_w hw 15 rfl)) (Or.inl (own_w hw 37 rfl)) (by decide) (t := (.array .int)) (t' := .boolean) (by decide) (by decide))))
  have f151 := (((((f118.other W123 (Or.inl ne120)).other W129 (Or.inl ne126)).other W135 (Or.inl ne132)).other W145 (Or.inl ne138)).other W148 (Or.inr (slot_ne (Or.inl (own_w hw 17 rfl)) (Or.inl (own_w hw 37 rfl)) (by decide) (t := (.array .int)) (t' := .boolean) (by decide) (by decide))))
  have f152 := ((((f124.other W129 (Or.inl ne126)).other W135 (Or.inl ne132)).other W145 (Or.inl ne138)).other W148 (Or.inr (slot_ne (Or.inl (own_w hw 19 rfl)) (Or.inl (own_w hw 37 rfl)) (by decide) (t := (.array .int)) (t' := .boolean) (by decide) (by decide))))
  have f153 := (((f130.other W135 (Or.inl ne132)).other W145 (Or.inl ne138)).other W148 (Or.inr (slot_ne (Or.inl (own_w hw 21 rfl)) (Or.inl (own_w hw 37 rfl)) (by decide) (t := (.array .int)) (t' := .boolean) (by decide) (by decide))))
  have f154 := ((f136.other W145 (Or.inl ne138)).other W148 (Or.inr (slot_ne (Or.inl (own_w hw 24 rfl)) (Or.inl (own_w hw 37 rfl)) (by decide) (t := (.array .byte)) (t' := .boolean) (by decide) (by decide))))
  have f155 := ((((((((H7.other W106 (Or.inr (slot_ne (Or.inl (own_w hw 26 rfl)) (Or.inl (own_w hw 28 rfl)) (by decide) (t := .int) (t' := .int) (by decide) (by decide)))).other W111 (Or.inl ne109)).other W117 (Or.inl ne114)).other W123 (Or.inl ne120)).other W129 (Or.inl ne126)).other W135 (Or.inl ne132)).other W145 (Or.inl ne138)).other W148 (Or.inr (slot_ne (Or.inl (own_w hw 26 rfl)) (Or.inl (own_w hw 37 rfl)) (by decide) (t := .int) (t' := .boolean) (by decide) (by decide))))
  have f156 := (((((((Fw106.other W111 (Or.inl ne109)).other W117 (Or.inl ne114)).other W123 (Or.inl ne120)).other W129 (Or.inl ne126)).other W135 (Or.inl ne132)).other W145 (Or.inl ne138)).other W148 (Or.inr (slot_ne (Or.inl (own_w hw 28 rfl)) (Or.inl (own_w hw 37 rfl)) (by decide) (t := .int) (t' := .boolean) (by decide) (by decide))))
  have f157 := ((((((((H9.other W106 (Or.inr (slot_ne (Or.inl (own_w hw 30 rfl)) (Or.inl (own_w hw 28 rfl)) (by decide) (t := .int) (t' := .int) (by decide) (by decide)))).other W111 (Or.inl ne109)).other W117 (Or.inl ne114)).other W123 (Or.inl ne120)).other W129 (Or.inl ne126)).other W135 (Or.inl ne132)).other W145 (Or.inl ne138)).other W148 (Or.inr (slot_ne (Or.inl (own_w hw 30 rfl)) (Or.inl (own_w hw 37 rfl)) (by decide) (t := .int) (t' := .boolean) (by decide) (by decide))))
  have f158 := (((((V117.other W123 H24).other W129 H25).other W135 H27).other W145 (Ne.symm ne140)).other W148 (Ne.symm ne114))
  have f159 := ((((V123.other W129 H26).other W135 H28).other W145 (Ne.symm ne141)).other W148 (Ne.symm ne120))
  have f160 := (((V129.other W135 H29).other W145 (Ne.symm ne142)).other W148 (Ne.symm ne126))
  have f161 := ((V135.other W145 (Ne.symm ne143)).other W148 (Ne.symm ne132))
  have f162 := (V145.other W148 (Ne.symm ne138))
  have f163 := ((((((V111.other W117 (Ne.symm ne115)).other W123 (Ne.symm ne121)).other W129 (Ne.symm ne127)).other W135 (Ne.symm ne133)).other W145 (Ne.symm ne139)).other W148 (Ne.symm ne109))
  obtain ⟨fs, hr, hrun, hended, hW, hsame⟩ := X148.leave (v := some (.int u_)) (fun h => by rw [Bd.returns] at h; cases h) (BodyLoose.notSynchronized Bd)
  refine ⟨_, _, pre0 _ ?_, hrun, hended, _, _, rfl, ?_, ⟨_, rfl⟩, hW, hsame.mono (by decide) (by decide)⟩
  · skip
    show Steps p.tables e below (s₁.setTop (mkF m 0 #[.val (.ref a1), .val (.double xv), .second, .unset] [])) _
    refine XS.aloadN X0.here hx rfl (hb hby d5_0) rfl rfl ?_
    refine st101 _ ?_
    refine XS.ifYes X101.here hx rfl (pc0 := 4) (pc' := 25) rfl (hb hby d5_4) rfl ((if0 _ _).trans (teq (by decide : (0 : Int32) = (0 : Int32))).1) (by decide) (by decide) ?_
    refine XS.aloadN X101.here hx rfl (hb hby d5_25) rfl rfl ?_
    refine st102 _ ?_
    refine XS.aloadN X102.here hx rfl (hb hby d5_29) rfl rfl ?_
    refine st103 _ ?_
    show Steps p.tables e below (T103.setTop (mkF m 33 #[.val (.ref a1), .val (.double xv), .second, .unset] [(.ref ak), (.int u_)])) _
    refine X103.arraylength hx (by rw [e103]; exact Ar104.1) (State.isArrayOf_alike hZ.alike Ar104.2.1) (g := (mkF m 33 #[.val (.ref a1), .val (.double xv), .second, .unset] [(.ref ak), (.int u_)])) rfl rfl (hb hby d5_33) _ ?_
    rw [len_of S104 M104]
    show Steps p.tables e below (T103.setTop (mkF m 34 #[.val (.ref a1), .val (.double xv), .second, .unset] [(.int (16 : Int32)), (.int u_)])) _
    refine XS.icmpYes X103.here hx rfl (pc0 := 34) (pc' := 41) rfl (hb hby d5_34) rfl (feq (own_ne16 H35 : ¬ (u_ = (16 : Int32)))).2 (by decide) (by decide) ?_
    refine XS.aloadN X103.here hx rfl (hb hby d5_41) rfl rfl ?_
    refine XS.dup X103.here hx rfl (hb hby d5_42) rfl rfl ?_
    refine st105 _ ?_
    refine XS.dupX1 X105.here hx rfl (hb hby d5_46) rfl rfl rfl ?_
    refine XS.iconst X105.here hx rfl (hb hby d5_47) ?_
    refine XS.iadd X105.here hx rfl (hb hby d5_48) rfl ?_
    refine st106 _ ?_
    refine XS.istoreN X106.here hx rfl (hb hby d5_52) rfl (l' := #[.val (.ref a1), .val (.double xv), .second, .val (.int u_)]) rfl ?_
    refine XS.aloadN X106.here hx rfl (hb hby d5_53) rfl rfl ?_
    show Steps p.tables e below (T106.setTop (mkF m 54 #[.val (.ref a1), .val (.double xv), .second, .val (.int u_)] [(.ref a1)])) _
    refine st108 _ ?_
    refine XS.iloadN X108.here hx rfl (hb hby d5_57) rfl ?_
    refine XS.dloadN X108.here hx rfl (hb hby d5_58) rfl ?_
    refine st111 _ ?_
    refine XS.aloadN X111.here hx rfl (hb hby d5_60) rfl rfl ?_
    refine st113 _ ?_
    refine XS.iloadN X113.here hx rfl (hb hby d5_64) rfl ?_
    refine XS.iconst X113.here hx rfl (hb hby d5_65) ?_
    refine st117 _ ?_
    refine XS.aloadN X117.here hx rfl (hb hby d5_67) rfl rfl ?_
    show Steps p.tables e below (T117.setTop (mkF m 68 #[.val (.ref a1), .val (.double xv), .second, .val (.int u_)] [(.ref a1)])) _
    refine st119 _ ?_
    refine XS.iloadN X119.here hx rfl (hb hby d5_71) rfl ?_
    refine XS.iconst X119.here hx rfl (hb hby d5_72) ?_
    refine st123 _ ?_
    refine XS.aloadN X123.here hx rfl (hb hby d5_74) rfl rfl ?_
    refine st125 _ ?_
    refine XS.iloadN X125.here hx rfl (hb hby d5_78) rfl ?_
    refine XS.iconst X125.here hx rfl (hb hby d5_79) ?_
    refine st129 _ ?_
    refine XS.aloadN X129.here hx rfl (hb hby d5_81) rfl rfl ?_
    show Steps p.tables e below (T129.setTop (mkF m 82 #[.val (.ref a1), .val (.double xv), .second, .val (.int u_)] [(.ref a1)])) _
    refine st131 _ ?_
    refine XS.iloadN X131.here hx rfl (hb hby d5_85) rfl ?_
    refine XS.iconst X131.here hx rfl (hb hby d5_86) ?_
    refine st135 _ ?_
    refine XS.aloadN X135.here hx rfl (hb hby d5_88) rfl rfl ?_
    refine st137 _ ?_
    refine XS.iloadN X137.here hx rfl (hb hby d5_92) rfl ?_
    refine XS.iconst X137.here hx rfl (hb hby d5_93) ?_
    refine st145 _ ?_
    refine XS.aloadN X145.here hx rfl (hb hby d5_95) rfl rfl ?_
    show Steps p.tables e below (T145.setTop (mkF m 96 #[.val (.ref a1), .val (.double xv), .second, .val (.int u_)] [(.ref a1)])) _
    refine XS.iconst X145.here hx rfl (hb hby d5_96) ?_
    refine st148 _ ?_
    refine XS.iloadN X148.here hx rfl (hb hby d5_100) rfl ?_
    show Steps p.tables e below (T148.setTop (mkF m 101 #[.val (.ref a1), .val (.double xv), .second, .val (.int u_)] [(.int u_)])) _
    exact retI X148 hx Bd.returns (hb hby d5_101) hr
  · show Q5 Z a1 xv ak ro u_ rs al kl lL ar kr lR ac kc lC au ku lT ah kh lH kk kK val xi h0 n0 _ T148.heap _
    rw [e148]
    exact ⟨rfl, N148, (((((((((Keep.refl h0 [a1, ak, al, ar, ac, au, ah]).wr W106 (Or.inl (List.mem_of_getElem? (i := 0) rfl))).wr W111 (Or.inl (List.mem_of_getElem? (i := 1) rfl))).wr W117 (Or.inl (List.mem_of_getElem? (i := 2) rfl))).wr W123 (Or.inl (List.mem_of_getElem? (i := 3) rfl))).wr W129 (Or.inl (List.mem_of_getElem? (i := 4) rfl))).wr W135 (Or.inl (List.mem_of_getElem? (i := 5) rfl))).wr W145 (Or.inl (List.mem_of_getElem? (i := 6) rfl))).wr W148 (Or.inl (List.mem_of_getElem? (i := 0) rfl))), f149, f150, f151, f152, f153, f154, f155, f156, f157, Fw148, f158, f159, f160, f161, f162, f163⟩
abbrev own_e4 (k : Nat) (i : Instr) (l : Nat) : Prop := decode prog_108_method_11_code k = .ok (i, l)
theorem d4_0 : own_e4 0 (.iload_n 1) 1 := by decide +kernel
theorem d4_1 : own_e4 1 (.ifCond .ne 9) 3 := by decide +kernel
theorem d4_4 : own_e4 4 (.aload_n 0) 1 := by decide +kernel
theorem d4_5 : own_e4 5 (.dload_n 2) 1 := by decide +kernel
theorem d4_6 : own_e4 6 (.invokevirtual 68) 3 := by decide +kernel
theorem pd_3 : parseMethodDescriptor "(D)I" = some ⟨[.double], some .int⟩ := by decide +kernel
theorem d4_9 : own_e4 9 .ireturn 1 := by decide +kernel
theorem ef_4d0 (m : MethodId) (a1 : Addr) (p2 : Int32) (xv : UInt64) : entryFrame m #[(.ref a1), (.int p2), (.double xv)] 5 = mkF m 0 #[.val (.ref a1), .val (.int p2), .val (.double xv), .second, .unset] [] := by first | (simp [entryFrame, mkF, argsToLocals, Value.category]; done) | rfl
def Q4d0 (Z : State) (a1 : Addr) (p2 : Int32) (xv : UInt64) (ak : Addr) (ro : Int32) (u_ : Int32) (rs : Int32) (al : Addr) (kl : ClassId) (lL : List Int32) (ar : Addr) (kr : ClassId) (lR : List Int32) (ac : Addr) (kc : ClassId) (lC : List Int32) (au : Addr) (ku : ClassId) (lT : List Int32) (ah : Addr) (kh : ClassId) (lH : List Int32) (kk : ClassId) (kK : List Nat) (val : Nat → UInt64) (cc : Nat → Nat → Int32) (xi : Nat) (h0 : Heap) (n0 : Nat) (v : Option Value) (h : Heap) (L : List Loc) : Prop := ∃ (lL2 : List Int32) (lR2 : List Int32) (lC2 : List Int32) (lT2 : List Int32) (lH2 : List Int32) (kK2 : List Nat) (u2 : Int32) (r2 : Int32) (v2 : Int32), v = some (.int v2) ∧ Fr n0 L ∧ Keep h0 h [a1, ak, al, ar, ac, au, ah] ∧ Fld Z h a1 "com/example/prequential/prequential/measure/ScoreMultiset" "key" "[D" (.ref ak) ∧ Fld Z h a1 "com/example/prequential/prequential/measure/ScoreMultiset" "left" "[I" (.ref al) ∧ Fld Z h a1 "com/example/prequential/prequential/measure/ScoreMultiset" "right" "[I" (.ref ar) ∧ Fld Z h a1 "com/example/prequential/prequential/measure/ScoreMultiset" "count" "[I" (.ref ac) ∧ Fld Z h a1 "com/example/prequential/prequential/measure/ScoreMultiset" "total" "[I" (.ref au) ∧ Fld Z h a1 "com/example/prequential/prequential/measure/ScoreMultiset" "height" "[B" (.ref ah) ∧ Fld Z h a1 "com/example/prequential/prequential/measure/ScoreMultiset" "root" "I" (.int ro) ∧ Fld Z h a1 "com/example/prequential/prequential/measure/ScoreMultiset" "unused" "I" (.int u2) ∧ Fld Z h a1 "com/example/prequential/prequential/measure/ScoreMultiset" "freed" "I" (.int (0 : Int32)) ∧ Fld Z h a1 "com/example/prequential/prequential/measure/ScoreMultiset" "reshaped" "Z" (.int r2) ∧ Arv Z h al kl .int (16 : Int32) (own_v lL2) (.int (0 : Int32)) ∧ Arv Z h ar kr .int (16 : Int32) (own_v lR2) (.int (0 : Int32)) ∧ Arv Z h ac kc .int (16 : Int32) (own_v lC2) (.int (0 : Int32)) ∧ Arv Z h au ku .int (16 : Int32) (own_v lT2) (.int (0 : Int32)) ∧ Arv Z h ah kh .byte (16 : Int32) (own_v lH2) (.int (0 : Int32)) ∧ own_Kar Z h ak kk kK2 val ∧ own_rng lL2 ∧ own_rng lR2 ∧ lC2.length = 16 ∧ lT2.length = 16 ∧ lH2.length = 16 ∧ own_in v2 ∧ own_ins0 cc xi (lL, lR, lC, lT, lH, kK, u_, (0 : Int32), rs) p2 = ((lL2, lR2, lC2, lT2, lH2, kK2, u2, (0 : Int32), r2), v2)
set_option maxRecDepth 65536 in
set_option maxHeartbeats 40000000 in
theorem rm4d0 (l : Launch) (Z : State) (a0 : Array Value) (hw : ∀ d ∈ tables_1, d.before a0 Z = true) (ws : List Jvm.Cond) (a1 : Addr) (p2 : Int32) (xv : UInt64) (ak : Addr) (ro : Int32) (u_ : Int32) (rs : Int32) (al : Addr) (kl : ClassId) (lL : List Int32) (ar : Addr) (kr : ClassId) (lR : List Int32) (ac : Addr) (kc : ClassId) (lC : List Int32) (au : Addr) (ku : ClassId) (lT : List Int32) (ah : Addr) (kh : ClassId) (lH : List Int32) (kk : ClassId) (kK : List Nat) (val : Nat → UInt64) (cc : Nat → Nat → Int32) (xi : Nat) (h0 : Heap) (n0 : Nat) (Z0 : n0 ≤ h0.size) (H0 : Exa Z h0 a1 "com/example/prequential/prequential/measure/ScoreMultiset") (H1 : Fld Z h0 a1 "com/example/prequential/prequential/measure/ScoreMultiset" "key" "[D" (.ref ak)) (H2 : Fld Z h0 a1 "com/example/prequential/prequential/measure/ScoreMultiset" "left" "[I" (.ref al)) (H3 : Fld Z h0 a1 "com/example/prequential/prequential/measure/ScoreMultiset" "right" "[I" (.ref ar)) (H4 : Fld Z h0 a1 "com/example/prequential/prequential/measure/ScoreMultiset" "count" "[I" (.ref ac)) (H5 : Fld Z h0 a1 "com/example/prequential/prequential/measure/ScoreMultiset" "total" "[I" (.ref au)) (H6 : Fld Z h0 a1 "com/example/prequential/prequential/measure/ScoreMultiset" "height" "[B" (.ref ah)) (H7 : Fld Z h0 a1 "com/example/prequential/prequential/measure/ScoreMultiset" "root" "I" (.int ro)) (H8 : Fld Z h0 a1 "com/example/prequential/prequential/measure/ScoreMultiset" "unused" "I" (.int u_)) (H9 : Fld Z h0 a1 "com/example/prequential/prequential/measure/ScoreMultiset" "freed" "I" (.int (0 : Int32))) (H10 : Fld Z h0 a1 "com/example/prequential/prequential/measure/ScoreMultiset" "reshaped" "Z" (.int rs)) (H11 : Arv Z h0 al kl .int (16 : Int32) (own_v lL) (.int (0 : Int32))) (H12 : Arv Z h0 ar kr .int (16 : Int32) (own_v lR) (.int (0 : Int32))) (H13 : Arv Z h0 ac kc .int (16 : Int32) (own_v lC) (.int (0 : Int32))) (H14 : Arv Z h0 au ku .int (16 : Int32) (own_v lT) (.int (0 : Int32))) (H15 : Arv Z h0 ah kh .byte (16 : Int32) (own_v lH) (.int (0 : Int32))) (H16 : own_Kar Z h0 ak kk kK val) (H17 : n0 ≤ a1) (H18 : n0 ≤ ak) (H19 : n0 ≤ al) (H20 : n0 ≤ ar) (H21 : n0 ≤ ac) (H22 : n0 ≤ au) (H23 : n0 ≤ ah) (H24 : al ≠ ar) (H25 : al ≠ ac) (H26 : ar ≠ ac) (H27 : al ≠ au) (H28 : ar ≠ au) (H29 : ac ≠ au) (H30 : own_rng lL) (H31 : own_rng lR) (H32 : lC.length = 16) (H33 : lT.length = 16) (H34 : lH.length = 16) (H35 : own_in p2) (H36 : own_in u_) (H37 : own_way0 p2 = true) (H38 : own_cv cc val) (H39 : xi < 5) (H40 : xv = val xi) :
    own_MF l (⟨"com/example/prequential/prequential/measure/ScoreMultiset", "insert", "(ID)I"⟩ : MethodName) (Jvm.Cond.code (⟨"com/example/prequential/prequential/measure/ScoreMultiset", "insert", "(ID)I"⟩ : MethodName) prog_108_method_11_code 5 (some .int) :: ws) ({ frames := 1, cells := 0, slots := 0, locals := 15 } : Room) #[(.ref a1), (.int p2), (.double xv)] Z h0 (Q4d0 Z a1 p2 xv ak ro u_ rs al kl lL ar kr lR ac kc lC au ku lT ah kh lH kk kK val cc xi h0 n0) := by
  refine MetFree.of_bodySF (plainFor_of_name pn_com_example_prequential_prequential_measure_ScoreMultiset) hisR ?_
  intro p e s m args below meth c s₁ Bd hml0 hP hK
  obtain ⟨rfl, hZ, hh⟩ := hP
  have hx := Bd.exec
  have hby := Bd.bytes
  have hml : c.maxLocals = 5 := hml0
  have hown : s.vm.findClass "com/example/prequential/prequential/measure/ScoreMultiset" = some m.cls := findClass_of_methodNamed Bd.named
  have hnm := (name_of_methodNamed Bd.named Bd.method).1
  have X0 : Stand p l e ({ frames := 1, cells := 0, slots := 0, locals := 15 } : Room) s m #[(.ref a1), (.int p2), (.double xv)] below meth c s₁ [] 0 0 := Stand.of_body Bd
  have e0 : s₁.heap = h0 := by rw [← hh, Bd.state]; rfl
  have N0 := Fr.nil n0
  have pre0 : ∀ t, Steps p.tables e below (s₁.setTop (mkF m 0 #[.val (.ref a1), .val (.int p2), .val (.double xv), .second, .unset] [])) t → Steps p.tables e below (s₁.setTop (entryFrame m #[(.ref a1), (.int p2), (.double xv)] 5)) t := fun t k => castTop (ef_4d0 m a1 p2 xv) k
  obtain ⟨cq101, q101, q101'⟩ := H0.cell
  obtain ⟨_, _, ⟨T101, L101, k101, n101⟩, -, X101, ⟨Lc101, hQ101, l101, y101, z101⟩, st101⟩ := X0.privateBack hx (y := (⟨"com/example/prequential/prequential/measure/ScoreMultiset", "newNode", "(D)I"⟩ : MethodName)) hown (mvT hZ (own_w hw 42 rfl)) (mvT hZ (own_w hw 43 rfl)) (mvT hZ (own_selp (by decide) (own_w hw 2 rfl) (own_w hw 44 rfl) (own_w hw 43 rfl))) (Cond.privateMethod_at (mvP hZ (own_w hw 44 rfl) (args := #[]))) (mvT hZ (own_w hw 45 rfl)) (by decide) (backOf (W := 0) (rm5 l Z a0 hw [] a1 xv ak ro u_ rs al kl lL ar kr lR ac kc lC au ku lT ah kh lH kk kK val xi h0 n0 Z0 H0 H1 H2 H3 H4 H5 H6 H7 H8 H9 H10 H11 H12 H13 H14 H15 H16 H17 H18 H19 H20 H21 H22 H23 H24 H25 H26 H27 H28 H29 H30 H31 H32 H33 H34 H36 H40) hZ (own_w hw 45 rfl) (own_w hw 3 rfl) (by decide) (by decide)) (g := (mkF m 6 #[.val (.ref a1), .val (.int p2), .val (.double xv), .second, .unset] [(.double xv), (.ref a1)])) rfl (by rw [hml]; rfl) (Steps.refl _) (a := a1) (by rw [e0]; exact q101) q101' (argsL := [(.double xv)]) (rest := []) (lenOf pd_3 rfl) rfl (by show 2 * 0 + _ ≤ _; exact Nat.le_of_eq rfl) (hb hby d4_6) (fun _ _ => ⟨rfl, e0, (by decide : 0 + 0 ≤ _), (by decide : 0 + 0 ≤ _)⟩)
  dsimp only [Pt.U, Pt.locs, Pt.cells, Pt.slots] at X101 l101 y101 z101 st101 hQ101
  subst l101 y101 z101
  obtain ⟨rfl, Nq101, K101, R101_1, R101_2, R101_3, R101_4, R101_5, R101_6, R101_7, R101_8, R101_9, R101_10, R101_11, R101_12, R101_13, R101_14, R101_15, R101_16⟩ := hQ101
  have N101 := Fr.app N0 Nq101
  obtain ⟨fs, hr, hrun, hended, hW, hsame⟩ := X101.leave (v := some (.int u_)) (fun h => by rw [Bd.returns] at h; cases h) (BodyLoose.notSynchronized Bd)
  refine ⟨_, _, pre0 _ ?_, hrun, hended, _, _, rfl, ?_, ⟨_, rfl⟩, hW, hsame.mono (by decide) (by decide)⟩
  · skip
    show Steps p.tables e below (s₁.setTop (mkF m 0 #[.val (.ref a1), .val (.int p2), .val (.double xv), .second, .unset] [])) _
    refine XS.iloadN X0.here hx rfl (hb hby d4_0) rfl ?_
    refine XS.ifNo X0.here hx rfl (hb hby d4_1) rfl ((if0 _ _).trans (teq (own_way_0 H37 : p2 = (0 : Int32))).2) ?_
    refine XS.aloadN X0.here hx rfl (hb hby d4_4) rfl rfl ?_
    refine XS.dloadN X0.here hx rfl (hb hby d4_5) rfl ?_
    show Steps p.tables e below (s₁.setTop (mkF m 6 #[.val (.ref a1), .val (.int p2), .val (.double xv), .second, .unset] [(.double xv), (.ref a1)])) _
    refine st101.trans ?_
    show Steps p.tables e below (T101.setTop (mkF m 9 #[.val (.ref a1), .val (.int p2), .val (.double xv), .second, .unset] [(.int u_)])) _
    exact retI X101 hx Bd.returns (hb hby d4_9) hr
  · show Q4d0 Z a1 p2 xv ak ro u_ rs al kl lL ar kr lR ac kc lC au ku lT ah kh lH kk kK val cc xi h0 n0 _ T101.heap _
    exact ⟨(own_p lL u_ (0 : Int32)), (own_p lR u_ (0 : Int32)), (own_p lC u_ (1 : Int32)), (own_p lT u_ (1 : Int32)), (own_p lH u_ (1 : Int32)), (own_pk kK u_ xi), (u_ + (1 : Int32)), (1 : Int32), u_, rfl, N101, ((Keep.refl h0 [a1, ak, al, ar, ac, au, ah]).trans K101 (allS (P := (fun x => x ∈ [a1, ak, al, ar, ac, au, ah] ∨ h0.size ≤ x)) (Or.inl (List.mem_of_getElem? (i := 0) rfl)) (allS (P := (fun x => x ∈ [a1, ak, al, ar, ac, au, ah] ∨ h0.size ≤ x)) (Or.inl (List.mem_of_getElem? (i := 1) rfl)) (allS (P := (fun x => x ∈ [a1, ak, al, ar, ac, au, ah] ∨ h0.size ≤ x)) (Or.inl (List.mem_of_getElem? (i := 2) rfl)) (allS (P := (fun x => x ∈ [a1, ak, al, ar, ac, au, ah] ∨ h0.size ≤ x)) (Or.inl (List.mem_of_getElem? (i := 3) rfl)) (allS (P := (fun x => x ∈ [a1, ak, al, ar, ac, au, ah] ∨ h0.size ≤ x)) (Or.inl (List.mem_of_getElem? (i := 4) rfl)) (allS (P := (fun x => x ∈ [a1, ak, al, ar, ac, au, ah] ∨ h0.size ≤ x)) (Or.inl (List.mem_of_getElem? (i := 5) rfl)) (allS (P := (fun x => x ∈ [a1, ak, al, ar, ac, au, ah] ∨ h0.size ≤ x)) (Or.inl (List.mem_of_getElem? (i := 6) rfl)) all0)))))))), R101_1, R101_2, R101_3, R101_4, R101_5, R101_6, R101_7, R101_8, R101_9, R101_10, R101_11, R101_12, R101_13, R101_14, R101_15, R101_16, (own_rngp H30 (by decide)), (own_rngp H31 (by decide)), (own_16p H32), (own_16p H33), (own_16p H34), H36, (by simp only [own_ins0, own_new, if_true, if_false])⟩
theorem d4_10 : own_e4 10 (.dload_n 2) 1 := by decide +kernel
theorem d4_11 : own_e4 11 (.aload_n 0) 1 := by decide +kernel
theorem d4_12 : own_e4 12 (.getfield 9) 3 := by decide +kernel
theorem d4_15 : own_e4 15 (.iload_n 1) 1 := by decide +kernel
theorem d4_16 : own_e4 16 .daload 1 := by decide +kernel
theorem d4_17 : own_e4 17 (.dcmp .g) 1 := by decide +kernel
theorem d4_18 : own_e4 18 (.ifCond .ge 27) 3 := by decide +kernel
theorem d4_21 : own_e4 21 (.aload_n 0) 1 := by decide +kernel
theorem d4_22 : own_e4 22 (.aload_n 0) 1 := by decide +kernel
theorem d4_23 : own_e4 23 (.getfield 13) 3 := by decide +kernel
theorem d4_26 : own_e4 26 (.iload_n 1) 1 := by decide +kernel
theorem d4_27 : own_e4 27 .iaload 1 := by decide +kernel
theorem d4_28 : own_e4 28 (.dload_n 2) 1 := by decide +kernel
theorem d4_29 : own_e4 29 (.invokevirtual 44) 3 := by decide +kernel
theorem pd_4 : parseMethodDescriptor "(ID)I" = some ⟨[.int, .double], some .int⟩ := by decide +kernel
theorem d4_32 : own_e4 32 (.istore 4) 2 := by decide +kernel
theorem d4_34 : own_e4 34 (.aload_n 0) 1 := by decide +kernel
theorem d4_35 : own_e4 35 (.getfield 13) 3 := by decide +kernel
theorem d4_38 : own_e4 38 (.iload_n 1) 1 := by decide +kernel
theorem d4_39 : own_e4 39 (.iload 4) 2 := by decide +kernel
theorem d4_41 : own_e4 41 .iastore 1 := by decide +kernel
theorem d4_42 : own_e4 42 (.goto 48) 3 := by decide +kernel
theorem d4_90 : own_e4 90 (.aload_n 0) 1 := by decide +kernel
theorem d4_91 : own_e4 91 (.iload_n 1) 1 := by decide +kernel
theorem d4_92 : own_e4 92 (.iconst 1) 1 := by decide +kernel
theorem d4_93 : own_e4 93 (.invokevirtual 71) 3 := by decide +kernel
theorem d4_96 : own_e4 96 .ireturn 1 := by decide +kernel
theorem d4_45 : own_e4 45 (.dload_n 2) 1 := by decide +kernel
theorem d4_46 : own_e4 46 (.aload_n 0) 1 := by decide +kernel
theorem d4_47 : own_e4 47 (.getfield 9) 3 := by decide +kernel
theorem d4_50 : own_e4 50 (.iload_n 1) 1 := by decide +kernel
theorem d4_51 : own_e4 51 .daload 1 := by decide +kernel
theorem d4_52 : own_e4 52 (.dcmp .l) 1 := by decide +kernel
theorem d4_53 : own_e4 53 (.ifCond .le 27) 3 := by decide +kernel
theorem d4_56 : own_e4 56 (.aload_n 0) 1 := by decide +kernel
theorem d4_57 : own_e4 57 (.aload_n 0) 1 := by decide +kernel
theorem d4_58 : own_e4 58 (.getfield 17) 3 := by decide +kernel
theorem d4_61 : own_e4 61 (.iload_n 1) 1 := by decide +kernel
theorem d4_62 : own_e4 62 .iaload 1 := by decide +kernel
theorem d4_63 : own_e4 63 (.dload_n 2) 1 := by decide +kernel
theorem d4_64 : own_e4 64 (.invokevirtual 44) 3 := by decide +kernel
theorem d4_67 : own_e4 67 (.istore 4) 2 := by decide +kernel
theorem d4_69 : own_e4 69 (.aload_n 0) 1 := by decide +kernel
theorem d4_70 : own_e4 70 (.getfield 17) 3 := by decide +kernel
theorem d4_73 : own_e4 73 (.iload_n 1) 1 := by decide +kernel
theorem d4_74 : own_e4 74 (.iload 4) 2 := by decide +kernel
theorem d4_76 : own_e4 76 .iastore 1 := by decide +kernel
theorem d4_77 : own_e4 77 (.goto 13) 3 := by decide +kernel
theorem d4_80 : own_e4 80 (.aload_n 0) 1 := by decide +kernel
theorem d4_81 : own_e4 81 (.getfield 20) 3 := by decide +kernel
theorem d4_84 : own_e4 84 (.iload_n 1) 1 := by decide +kernel
theorem d4_85 : own_e4 85 .dup2 1 := by decide +kernel
theorem d4_86 : own_e4 86 .iaload 1 := by decide +kernel
theorem d4_87 : own_e4 87 (.iconst 1) 1 := by decide +kernel
theorem d4_88 : own_e4 88 .iadd 1 := by decide +kernel
theorem d4_89 : own_e4 89 .iastore 1 := by decide +kernel
theorem ef_4d1 (m : MethodId) (a1 : Addr) (p2 : Int32) (xv : UInt64) : entryFrame m #[(.ref a1), (.int p2), (.double xv)] 5 = mkF m 0 #[.val (.ref a1), .val (.int p2), .val (.double xv), .second, .unset] [] := by first | (simp [entryFrame, mkF, argsToLocals, Value.category]; done) | rfl
def Q4d1 (Z : State) (a1 : Addr) (p2 : Int32) (xv : UInt64) (ak : Addr) (ro : Int32) (u_ : Int32) (rs : Int32) (al : Addr) (kl : ClassId) (lL : List Int32) (ar : Addr) (kr : ClassId) (lR : List Int32) (ac : Addr) (kc : ClassId) (lC : List Int32) (au : Addr) (ku : ClassId) (lT : List Int32) (ah : Addr) (kh : ClassId) (lH : List Int32) (kk : ClassId) (kK : List Nat) (val : Nat → UInt64) (cc : Nat → Nat → Int32) (xi : Nat) (h0 : Heap) (n0 : Nat) (v : Option Value) (h : Heap) (L : List Loc) : Prop := ∃ (lL2 : List Int32) (lR2 : List Int32) (lC2 : List Int32) (lT2 : List Int32) (lH2 : List Int32) (kK2 : List Nat) (u2 : Int32) (r2 : Int32) (v2 : Int32), v = some (.int v2) ∧ Fr n0 L ∧ Keep h0 h [a1, ak, al, ar, ac, au, ah] ∧ Fld Z h a1 "com/example/prequential/prequential/measure/ScoreMultiset" "key" "[D" (.ref ak) ∧ Fld Z h a1 "com/example/prequential/prequential/measure/ScoreMultiset" "left" "[I" (.ref al) ∧ Fld Z h a1 "com/example/prequential/prequential/measure/ScoreMultiset" "right" "[I" (.ref ar) ∧ Fld Z h a1 "com/example/prequential/prequential/measure/ScoreMultiset" "count" "[I" (.ref ac) ∧ Fld Z h a1 "com/example/prequential/prequential/measure/ScoreMultiset" "total" "[I" (.ref au) ∧ Fld Z h a1 "com/example/prequential/prequential/measure/ScoreMultiset" "height" "[B" (.ref ah) ∧ Fld Z h a1 "com/example/prequential/prequential/measure/ScoreMultiset" "root" "I" (.int ro) ∧ Fld Z h a1 "com/example/prequential/prequential/measure/ScoreMultiset" "unused" "I" (.int u2) ∧ Fld Z h a1 "com/example/prequential/prequential/measure/ScoreMultiset" "freed" "I" (.int (0 : Int32)) ∧ Fld Z h a1 "com/example/prequential/prequential/measure/ScoreMultiset" "reshaped" "Z" (.int r2) ∧ Arv Z h al kl .int (16 : Int32) (own_v lL2) (.int (0 : Int32)) ∧ Arv Z h ar kr .int (16 : Int32) (own_v lR2) (.int (0 : Int32)) ∧ Arv Z h ac kc .int (16 : Int32) (own_v lC2) (.int (0 : Int32)) ∧ Arv Z h au ku .int (16 : Int32) (own_v lT2) (.int (0 : Int32)) ∧ Arv Z h ah kh .byte (16 : Int32) (own_v lH2) (.int (0 : Int32)) ∧ own_Kar Z h ak kk kK2 val ∧ own_rng lL2 ∧ own_rng lR2 ∧ lC2.length = 16 ∧ lT2.length = 16 ∧ lH2.length = 16 ∧ own_in v2 ∧ own_ins1 cc xi (lL, lR, lC, lT, lH, kK, u_, (0 : Int32), rs) p2 = ((lL2, lR2, lC2, lT2, lH2, kK2, u2, (0 : Int32), r2), v2)
set_option maxRecDepth 65536 in
set_option maxHeartbeats 40000000 in
theorem rm4d1 (l : Launch) (Z : State) (a0 : Array Value) (hw : ∀ d ∈ tables_1, d.before a0 Z = true) (ws : List Jvm.Cond) (a1 : Addr) (p2 : Int32) (xv : UInt64) (ak : Addr) (ro : Int32) (u_ : Int32) (rs : Int32) (al : Addr) (kl : ClassId) (lL : List Int32) (ar : Addr) (kr : ClassId) (lR : List Int32) (ac : Addr) (kc : ClassId) (lC : List Int32) (au : Addr) (ku : ClassId) (lT : List Int32) (ah : Addr) (kh : ClassId) (lH : List Int32) (kk : ClassId) (kK : List Nat) (val : Nat → UInt64) (cc : Nat → Nat → Int32) (xi : Nat) (h0 : Heap) (n0 : Nat) (Z0 : n0 ≤ h0.size) (H0 : Exa Z h0 a1 "com/example/prequential/prequential/measure/ScoreMultiset") (H1 : Fld Z h0 a1 "com/example/prequential/prequential/measure/ScoreMultiset" "key" "[D" (.ref ak)) (H2 : Fld Z h0 a1 "com/example/prequential/prequential/measure/ScoreMultiset" "left" "[I" (.ref al)) (H3 : Fld Z h0 a1 "com/example/prequential/prequential/measure/ScoreMultiset" "right" "[I" (.ref ar)) (H4 : Fld Z h0 a1 "com/example/prequential/prequential/measure/ScoreMultiset" "count" "[I" (.ref ac)) (H5 : Fld Z h0 a1 "com/example/prequential/prequential/measure/ScoreMultiset" "total" "[I" (.ref au)) (H6 : Fld Z h0 a1 "com/example/prequential/prequential/measure/ScoreMultiset" "height" "[B" (.ref ah)) (H7 : Fld Z h0 a1 "com/example/prequential/prequential/measure/ScoreMultiset" "root" "I" (.int ro)) (H8 : Fld Z h0 a1 "com/example/prequential/prequential/measure/ScoreMultiset" "unused" "I" (.int u_)) (H9 : Fld Z h0 a1 "com/example/prequential/prequential/measure/ScoreMultiset" "freed" "I" (.int (0 : Int32))) (H10 : Fld Z h0 a1 "com/example/prequential/prequential/measure/ScoreMultiset" "reshaped" "Z" (.int rs)) (H11 : Arv Z h0 al kl .int (16 : Int32) (own_v lL) (.int (0 : Int32))) (H12 : Arv Z h0 ar kr .int (16 : Int32) (own_v lR) (.int (0 : Int32))) (H13 : Arv Z h0 ac kc .int (16 : Int32) (own_v lC) (.int (0 : Int32))) (H14 : Arv Z h0 au ku .int (16 : Int32) (own_v lT) (.int (0 : Int32))) (H15 : Arv Z h0 ah kh .byte (16 : Int32) (own_v lH) (.int (0 : Int32))) (H16 : own_Kar Z h0 ak kk kK val) (H17 : n0 ≤ a1) (H18 : n0 ≤ ak) (H19 : n0 ≤ al) (H20 : n0 ≤ ar) (H21 : n0 ≤ ac) (H22 : n0 ≤ au) (H23 : n0 ≤ ah) (H24 : al ≠ ar) (H25 : al ≠ ac) (H26 : ar ≠ ac) (H27 : al ≠ au) (H28 : ar ≠ au) (H29 : ac ≠ au) (H30 : own_rng lL) (H31 : own_rng lR) (H32 : lC.length = 16) (H33 : lT.length = 16) (H34 : lH.length = 16) (H35 : own_in p2) (H36 : own_in u_) (H37 : own_way1 (cc xi) kK lL lR p2 = true) (H38 : own_cv cc val) (H39 : xi < 5) (H40 : xv = val xi) :
    own_MF l (⟨"com/example/prequential/prequential/measure/ScoreMultiset", "insert", "(ID)I"⟩ : MethodName) (Jvm.Cond.code (⟨"com/example/prequential/prequential/measure/ScoreMultiset", "insert", "(ID)I"⟩ : MethodName) prog_108_method_11_code 5 (some .int) :: ws) ({ frames := 5, cells := 0, slots := 0, locals := 75 } : Room) #[(.ref a1), (.int p2), (.double xv)] Z h0 (Q4d1 Z a1 p2 xv ak ro u_ rs al kl lL ar kr lR ac kc lC au ku lT ah kh lH kk kK val cc xi h0 n0) := by
  refine MetFree.of_bodySF (plainFor_of_name pn_com_example_prequential_prequential_measure_ScoreMultiset) hisR ?_
  intro p e s m args below meth c s₁ Bd hml0 hP hK
  obtain ⟨rfl, hZ, hh⟩ := hP
  have hx := Bd.exec
  have hby := Bd.bytes
  have hml : c.maxLocals = 5 := hml0
  have hown : s.vm.findClass "com/example/prequential/prequential/measure/ScoreMultiset" = some m.cls := findClass_of_methodNamed Bd.named
  have hnm := (name_of_methodNamed Bd.named Bd.method).1
  have X0 : Stand p l e ({ frames := 5, cells := 0, slots := 0, locals := 75 } : Room) s m #[(.ref a1), (.int p2), (.double xv)] below meth c s₁ [] 0 0 := Stand.of_body Bd
  have e0 : s₁.heap = h0 := by rw [← hh, Bd.state]; rfl
  have N0 := Fr.nil n0
  have pre0 : ∀ t, Steps p.tables e below (s₁.setTop (mkF m 0 #[.val (.ref a1), .val (.int p2), .val (.double xv), .second, .unset] [])) t → Steps p.tables e below (s₁.setTop (entryFrame m #[(.ref a1), (.int p2), (.double xv)] 5)) t := fun t k => castTop (ef_4d1 m a1 p2 xv) k
  have pre101 : ∀ t, Steps p.tables e below (s₁.setTop (mkF m 1 #[.val (.ref a1), .val (.int p2), .val (.double xv), .second, .unset] [(.int p2)])) t → Steps p.tables e below (s₁.setTop (entryFrame m #[(.ref a1), (.int p2), (.double xv)] 5)) t := fun t kt => by
    refine pre0 t ?_
    show Steps p.tables e below (s₁.setTop (mkF m 0 #[.val (.ref a1), .val (.int p2), .val (.double xv), .second, .unset] [])) _
    refine XS.iloadN X0.here hx rfl (hb hby d4_0) rfl ?_
    show Steps p.tables e below (s₁.setTop (mkF m 1 #[.val (.ref a1), .val (.int p2), .val (.double xv), .second, .unset] [(.int p2)])) _
    exact kt
  by_cases hc1_102 : p2 = (0 : Int32)
  · skip
    obtain ⟨cq103, q103, q103'⟩ := H0.cell
    obtain ⟨_, _, ⟨T103, L103, k103, n103⟩, -, X103, ⟨Lc103, hQ103, l103, y103, z103⟩, st103⟩ := X0.privateBack hx (y := (⟨"com/example/prequential/prequential/measure/ScoreMultiset", "newNode", "(D)I"⟩ : MethodName)) hown (mvT hZ (own_w hw 42 rfl)) (mvT hZ (own_w hw 43 rfl)) (mvT hZ (own_selp (by decide) (own_w hw 2 rfl) (own_w hw 44 rfl) (own_w hw 43 rfl))) (Cond.privateMethod_at (mvP hZ (own_w hw 44 rfl) (args := #[]))) (mvT hZ (own_w hw 45 rfl)) (by decide) (backOf (W := 0) (rm5 l Z a0 hw [] a1 xv ak ro u_ rs al kl lL ar kr lR ac kc lC au ku lT ah kh lH kk kK val xi h0 n0 Z0 H0 H1 H2 H3 H4 H5 H6 H7 H8 H9 H10 H11 H12 H13 H14 H15 H16 H17 H18 H19 H20 H21 H22 H23 H24 H25 H26 H27 H28 H29 H30 H31 H32 H33 H34 H36 H40) hZ (own_w hw 45 rfl) (own_w hw 3 rfl) (by decide) (by decide)) (g := (mkF m 6 #[.val (.ref a1), .val (.int p2), .val (.double xv), .second, .unset] [(.double xv), (.ref a1)])) rfl (by rw [hml]; rfl) (Steps.refl _) (a := a1) (by rw [e0]; exact q103) q103' (argsL := [(.double xv)]) (rest := []) (lenOf pd_3 rfl) rfl (by show 2 * 0 + _ ≤ _; exact Nat.le_of_eq rfl) (hb hby d4_6) (fun _ _ => ⟨rfl, e0, (by decide : 0 + 0 ≤ _), (by decide : 0 + 0 ≤ _)⟩)
    dsimp only [Pt.U, Pt.locs, Pt.cells, Pt.slots] at X103 l103 y103 z103 st103 hQ103
    subst l103 y103 z103
    obtain ⟨rfl, Nq103, K103, R103_1, R103_2, R103_3, R103_4, R103_5, R103_6, R103_7, R103_8, R103_9, R103_10, R103_11, R103_12, R103_13, R103_14, R103_15, R103_16⟩ := hQ103
    have N103 := Fr.app N0 Nq103
    obtain ⟨fs, hr, hrun, hended, hW, hsame⟩ := X103.leave (v := some (.int u_)) (fun h => by rw [Bd.returns] at h; cases h) (BodyLoose.notSynchronized Bd)
    refine ⟨_, _, pre101 _ ?_, hrun, hended, _, _, rfl, ?_, ⟨_, rfl⟩, hW, hsame.mono (by decide) (by decide)⟩
    · skip
      show Steps p.tables e below (s₁.setTop (mkF m 1 #[.val (.ref a1), .val (.int p2), .val (.double xv), .second, .unset] [(.int p2)])) _
      refine XS.ifNo X0.here hx rfl (hb hby d4_1) rfl ((if0 _ _).trans (teq (hc1_102 : p2 = (0 : Int32))).2) ?_
      refine XS.aloadN X0.here hx rfl (hb hby d4_4) rfl rfl ?_
      refine XS.dloadN X0.here hx rfl (hb hby d4_5) rfl ?_
      show Steps p.tables e below (s₁.setTop (mkF m 6 #[.val (.ref a1), .val (.int p2), .val (.double xv), .second, .unset] [(.double xv), (.ref a1)])) _
      refine st103.trans ?_
      show Steps p.tables e below (T103.setTop (mkF m 9 #[.val (.ref a1), .val (.int p2), .val (.double xv), .second, .unset] [(.int u_)])) _
      exact retI X103 hx Bd.returns (hb hby d4_9) hr
    · show Q4d1 Z a1 p2 xv ak ro u_ rs al kl lL ar kr lR ac kc lC au ku lT ah kh lH kk kK val cc xi h0 n0 _ T103.heap _
      exact ⟨(own_p lL u_ (0 : Int32)), (own_p lR u_ (0 : Int32)), (own_p lC u_ (1 : Int32)), (own_p lT u_ (1 : Int32)), (own_p lH u_ (1 : Int32)), (own_pk kK u_ xi), (u_ + (1 : Int32)), (1 : Int32), u_, rfl, N103, ((Keep.refl h0 [a1, ak, al, ar, ac, au, ah]).trans K103 (allS (P := (fun x => x ∈ [a1, ak, al, ar, ac, au, ah] ∨ h0.size ≤ x)) (Or.inl (List.mem_of_getElem? (i := 0) rfl)) (allS (P := (fun x => x ∈ [a1, ak, al, ar, ac, au, ah] ∨ h0.size ≤ x)) (Or.inl (List.mem_of_getElem? (i := 1) rfl)) (allS (P := (fun x => x ∈ [a1, ak, al, ar, ac, au, ah] ∨ h0.size ≤ x)) (Or.inl (List.mem_of_getElem? (i := 2) rfl)) (allS (P := (fun x => x ∈ [a1, ak, al, ar, ac, au, ah] ∨ h0.size ≤ x)) (Or.inl (List.mem_of_getElem? (i := 3) rfl)) (allS (P := (fun x => x ∈ [a1, ak, al, ar, ac, au, ah] ∨ h0.size ≤ x)) (Or.inl (List.mem_of_getElem? (i := 4) rfl)) (allS (P := (fun x => x ∈ [a1, ak, al, ar, ac, au, ah] ∨ h0.size ≤ x)) (Or.inl (List.mem_of_getElem? (i := 5) rfl)) (allS (P := (fun x => x ∈ [a1, ak, al, ar, ac, au, ah] ∨ h0.size ≤ x)) (Or.inl (List.mem_of_getElem? (i := 6) rfl)) all0)))))))), R103_1, R103_2, R103_3, R103_4, R103_5, R103_6, R103_7, R103_8, R103_9, R103_10, R103_11, R103_12, R103_13, R103_14, R103_15, R103_16, (own_rngp H30 (by decide)), (own_rngp H31 (by decide)), (own_16p H32), (own_16p H33), (own_16p H34), H36, (by simp only [own_ins1, own_insS, own_new, own_il, own_ir, own_fin, own_fw, eq_true hc1_102, if_true, if_false])⟩
  · skip
    obtain ⟨T104, X104, e104, st104⟩ := getF X0 hx hZ hown (host := "") (Or.inl (own_w hw 11 rfl)) Via.refl e0 H1 (g := (mkF m 12 #[.val (.ref a1), .val (.int p2), .val (.double xv), .second, .unset] [(.ref a1), (.double xv)])) rfl rfl (hb hby d4_12)
    have dq106 : cmpValue (FP.dcmp xv (val (own_gk kK p2))) .g = (cc xi (own_gk kK p2)) := (own_dc H38 H40 H39 (own_way_k H37 hc1_102))
    have pre107 : ∀ t, Steps p.tables e below (T104.setTop (mkF m 18 #[.val (.ref a1), .val (.int p2), .val (.double xv), .second, .unset] [(.int (cc xi (own_gk kK p2)))])) t → Steps p.tables e below (s₁.setTop (entryFrame m #[(.ref a1), (.int p2), (.double xv)] 5)) t := fun t kt => by
      refine pre101 t ?_
      show Steps p.tables e below (s₁.setTop (mkF m 1 #[.val (.ref a1), .val (.int p2), .val (.double xv), .second, .unset] [(.int p2)])) _
      refine XS.ifYes X0.here hx rfl (pc0 := 1) (pc' := 10) rfl (hb hby d4_1) rfl ((if0 _ _).trans (feq (hc1_102 : ¬ (p2 = (0 : Int32)))).2) (by decide) (by decide) ?_
      refine XS.dloadN X0.here hx rfl (hb hby d4_10) rfl ?_
      refine XS.aloadN X0.here hx rfl (hb hby d4_11) rfl rfl ?_
      refine st104 _ ?_
      refine XS.iloadN X104.here hx rfl (hb hby d4_15) rfl ?_
      show Steps p.tables e below (T104.setTop (mkF m 16 #[.val (.ref a1), .val (.int p2), .val (.double xv), .second, .unset] [(.int p2), (.ref ak), (.double xv)])) _
      refine own_da X104 hx hZ e104 H16 H35 (hb hby d4_16) ?_
      show Steps p.tables e below (T104.setTop (mkF m 17 #[.val (.ref a1), .val (.int p2), .val (.double xv), .second, .unset] [(.double (val (own_gk kK p2))), (.double xv)])) _
      refine XS.dcmpS X104.here hx rfl (hb hby d4_17) rfl dq106 ?_
      show Steps p.tables e below (T104.setTop (mkF m 18 #[.val (.ref a1), .val (.int p2), .val (.double xv), .second, .unset] [(.int (cc xi (own_gk kK p2)))])) _
      exact kt
    by_cases hc18_108 : (cc xi (own_gk kK p2)) < (0 : Int32)
    · skip
      obtain ⟨T109, X109, e109, st109⟩ := getF X104 hx hZ hown (host := "") (Or.inl (own_w hw 14 rfl)) Via.refl e104 H2 (g := (mkF m 23 #[.val (.ref a1), .val (.int p2), .val (.double xv), .second, .unset] [(.ref a1), (.ref a1)])) rfl rfl (hb hby d4_23)
      obtain ⟨cq111, q111, q111'⟩ := H0.cell
      obtain ⟨_, _, ⟨T111, L111, k111, n111⟩, -, X111, ⟨Lc111, hQ111, l111, y111, z111⟩, st111⟩ := X109.privateBack hx (y := (⟨"com/example/prequential/prequential/measure/ScoreMultiset", "insert", "(ID)I"⟩ : MethodName)) hown (mvT hZ (own_w hw 38 rfl)) (mvT hZ (own_w hw 39 rfl)) (mvT hZ (own_selp (by decide) (own_w hw 2 rfl) (own_w hw 40 rfl) (own_w hw 39 rfl))) (Cond.privateMethod_at (mvP hZ (own_w hw 40 rfl) (args := #[]))) (mvT hZ (own_w hw 41 rfl)) (by decide) (backOf (W := 0) (rm4d0 l Z a0 hw [] a1 (own_g lL p2) xv ak ro u_ rs al kl lL ar kr lR ac kc lC au ku lT ah kh lH kk kK val cc xi h0 n0 Z0 H0 H1 H2 H3 H4 H5 H6 H7 H8 H9 H10 H11 H12 H13 H14 H15 H16 H17 H18 H19 H20 H21 H22 H23 H24 H25 H26 H27 H28 H29 H30 H31 H32 H33 H34 (H30.2 _) H36 (own_way_l H37 hc1_102 hc18_108) H38 H39 H40) hZ (own_w hw 41 rfl) (own_w hw 3 rfl) (by decide) (by decide)) (g := (mkF m 29 #[.val (.ref a1), .val (.int p2), .val (.double xv), .second, .unset] [(.double xv), (.int (own_g lL p2)), (.ref a1)])) rfl (by rw [hml]; rfl) (Steps.refl _) (a := a1) (by rw [e109]; exact q111) q111' (argsL := [(.int (own_g lL p2)), (.double xv)]) (rest := []) (lenOf pd_4 rfl) rfl (by show 2 * 0 + _ ≤ _; exact Nat.le_of_eq rfl) (hb hby d4_29) (fun _ _ => ⟨rfl, e109, (by decide : 0 + 0 ≤ _), (by decide : 0 + 0 ≤ _)⟩)
      dsimp only [Pt.U, Pt.locs, Pt.cells, Pt.slots] at X111 l111 y111 z111 st111 hQ111
      subst l111 y111 z111
      obtain ⟨lL2111, lR2111, lC2111, lT2111, lH2111, kK2111, u2111, r2111, v2111, rfl, Nq111, K111, R111_1, R111_2, R111_3, R111_4, R111_5, R111_6, R111_7, R111_8, R111_9, R111_10, R111_11, R111_12, R111_13, R111_14, R111_15, R111_16, R111_17, R111_18, R111_19, R111_20, R111_21, R111_22, R111_23⟩ := hQ111
      have N111 := Fr.app N0 Nq111
      obtain ⟨T112, X112, e112, st112⟩ := getF X111 hx hZ hown (host := "") (Or.inl (own_w hw 14 rfl)) Via.refl rfl R111_2 (g := (mkF m 35 #[.val (.ref a1), .val (.int p2), .val (.double xv), .second, .val (.int v2111)] [(.ref a1)])) rfl rfl (hb hby d4_35)
      obtain ⟨cl113, Ar113, qc113, S113, M113, Hh113, G113⟩ := id R111_11
      have hin113 : ¬ (p2 < 0 ∨ cl113.slots.size ≤ (p2).toNatClampNeg) := inb_of S113 H35
      obtain ⟨T113, h113, X113, e113, W113, st113⟩ := stI X112 hx hZ e112 Ar113 (j := p2) hin113 (g := (mkF m 41 #[.val (.ref a1), .val (.int p2), .val (.double xv), .second, .val (.int v2111)] [(.int v2111), (.int p2), (.ref al)])) rfl rfl (hb hby d4_41)
      have V113 : Arv Z h113 al kl .int (16 : Int32) (own_v (own_p lL2111 p2 v2111)) (.int (0 : Int32)) := by rw [own_vp]; exact Arv.set Ar113 qc113 S113 M113 Hh113 G113 rfl W113 p2.toNatClampNeg (rfl) (own_vlt H35 R111_17.1)
      have N113 := Fr.snoc X113 N111 H19
      have f114 := ((H0.keep K111).wr W113)
      have ne115 : a1 ≠ al := Exa.neArv f114 V113 (own_w hw 2 rfl)
      have f116 := (R111_1.other W113 (Or.inl ne115))
      have f117 := (R111_2.other W113 (Or.inl ne115))
      have f118 := (R111_3.other W113 (Or.inl ne115))
      have f119 := (R111_4.other W113 (Or.inl ne115))
      have f120 := (R111_5.other W113 (Or.inl ne115))
      have f121 := (R111_6.other W113 (Or.inl ne115))
      have f122 := (R111_7.other W113 (Or.inl ne115))
      have f123 := (R111_8.other W113 (Or.inl ne115))
      have f124 := (R111_9.other W113 (Or.inl ne115))
      have f125 := (R111_10.other W113 (Or.inl ne115))
      have f126 := (R111_12.other W113 (Ne.symm H24))
      have f127 := (R111_13.other W113 (Ne.symm H25))
      have f128 := (R111_14.other W113 (Ne.symm H27))
      have ne129 : ah ≠ al := own_ne_arv H15 H11 (by decide)
      have f130 := (R111_15.other W113 ne129)
      have z132 : n0 ≤ h113.size := (Nat.le_trans (Nat.le_trans Z0 K111.1) (Nat.le_of_eq W113.size.symm))
      obtain ⟨cq131, q131, q131'⟩ := f114.cell
      obtain ⟨_, _, ⟨T131, L131, k131, n131⟩, -, X131, ⟨Lc131, hQ131, l131, y131, z131⟩, st131⟩ := X113.privateBack hx (y := (⟨"com/example/prequential/prequential/measure/ScoreMultiset", "settle", "(II)I"⟩ : MethodName)) hown (mvT hZ (own_w hw 46 rfl)) (mvT hZ (own_w hw 47 rfl)) (mvT hZ (own_selp (by decide) (own_w hw 2 rfl) (own_w hw 48 rfl) (own_w hw 47 rfl))) (Cond.privateMethod_at (mvP hZ (own_w hw 48 rfl) (args := #[]))) (mvT hZ (own_w hw 49 rfl)) (by decide) (backOf (W := 0) (rm6 l Z a0 hw [] a1 p2 (1 : Int32) ak ro u2111 (0 : Int32) r2111 al kl (own_p lL2111 p2 v2111) ar kr lR2111 ac kc lC2111 au ku lT2111 ah kh lH2111 h113 n0 z132 f114 f116 f117 f118 f119 f120 f121 f122 f123 f124 f125 V113 f126 f127 f128 f130 H19 H20 H22 H23 H17 H24 H25 H26 H27 H28 H29 H35 (own_rngp R111_17 R111_22) R111_18 R111_19 R111_20 R111_21) hZ (own_w hw 49 rfl) (own_w hw 3 rfl) (by decide) (by decide)) (g := (mkF m 93 #[.val (.ref a1), .val (.int p2), .val (.double xv), .second, .val (.int v2111)] [(.int (1 : Int32)), (.int p2), (.ref a1)])) rfl (by rw [hml]; rfl) (Steps.refl _) (a := a1) (by rw [e113]; exact q131) q131' (argsL := [(.int p2), (.int (1 : Int32))]) (rest := []) (lenOf pd_0 rfl) rfl (by show 2 * 0 + _ ≤ _; exact Nat.le_of_eq rfl) (hb hby d4_93) (fun _ _ => ⟨rfl, e113, (by decide : 0 + 0 ≤ _), (by decide : 0 + 0 ≤ _)⟩)
      dsimp only [Pt.U, Pt.locs, Pt.cells, Pt.slots] at X131 l131 y131 z131 st131 hQ131
      subst l131 y131 z131
      obtain ⟨rfl, Nq131, K131, R131_1, R131_2, R131_3, R131_4, R131_5, R131_6, R131_7, R131_8, R131_9, R131_10, R131_11, R131_12, R131_13, R131_14, R131_15, R131_16, R131_17, R131_18, R131_19⟩ := hQ131
      have N131 := Fr.app N113 Nq131
      have ne133 : ac ≠ ah := own_ne_arv H13 H15 (by decide)
      have ne134 : a1 ≠ ac := Exa.neArv f114 f127 (own_w hw 2 rfl)
      have f135 := (f127.keep K131 (ninS (Ne.symm ne134) (ninS (Ne.symm H25) (ninS (Ne.symm H26) (ninS H29 (ninS ne133 nin0))))))
      have ne136 : al ≠ ak := own_ne_kv H11 H16 (by decide)
      have ne137 : ah ≠ ak := own_ne_kv H15 H16 (by decide)
      have ne138 : au ≠ ak := own_ne_kv H14 H16 (by decide)
      have ne139 : ar ≠ ak := own_ne_kv H12 H16 (by decide)
      have ne140 : a1 ≠ ak := own_ne_kar (H0.keep K111) (own_w hw 2 rfl) R111_16
      have f141 := ((R111_16.other W113 (Ne.symm ne136)).keep K131 (ninS (Ne.symm ne140) (ninS (Ne.symm ne136) (ninS (Ne.symm ne139) (ninS (Ne.symm ne138) (ninS (Ne.symm ne137) nin0))))))
      obtain ⟨fs, hr, hrun, hended, hW, hsame⟩ := X131.leave (v := some (.int (own_set (own_p lL2111 p2 v2111) lR2111 lC2111 lT2111 lH2111 r2111 p2 (1 : Int32)).2)) (fun h => by rw [Bd.returns] at h; cases h) (BodyLoose.notSynchronized Bd)
      refine ⟨_, _, pre107 _ ?_, hrun, hended, _, _, rfl, ?_, ⟨_, rfl⟩, hW, hsame.mono (by decide) (by decide)⟩
      · skip
        show Steps p.tables e below (T104.setTop (mkF m 18 #[.val (.ref a1), .val (.int p2), .val (.double xv), .second, .unset] [(.int (cc xi (own_gk kK p2)))])) _
        refine XS.ifNo X104.here hx rfl (hb hby d4_18) rfl ((if0 _ _).trans (tlt (hc18_108 : (cc xi (own_gk kK p2)) < (0 : Int32))).2.1) ?_
        refine XS.aloadN X104.here hx rfl (hb hby d4_21) rfl rfl ?_
        refine XS.aloadN X104.here hx rfl (hb hby d4_22) rfl rfl ?_
        refine st109 _ ?_
        refine XS.iloadN X109.here hx rfl (hb hby d4_26) rfl ?_
        show Steps p.tables e below (T109.setTop (mkF m 27 #[.val (.ref a1), .val (.int p2), .val (.double xv), .second, .unset] [(.int p2), (.ref al), (.ref a1)])) _
        refine own_ia X109 hx hZ e109 H11 H35 (hb hby d4_27) ?_
        show Steps p.tables e below (T109.setTop (mkF m 28 #[.val (.ref a1), .val (.int p2), .val (.double xv), .second, .unset] [(.int (own_g lL p2)), (.ref a1)])) _
        refine XS.dloadN X109.here hx rfl (hb hby d4_28) rfl ?_
        show Steps p.tables e below (T109.setTop (mkF m 29 #[.val (.ref a1), .val (.int p2), .val (.double xv), .second, .unset] [(.double xv), (.int (own_g lL p2)), (.ref a1)])) _
        refine st111.trans ?_
        show Steps p.tables e below (T111.setTop (mkF m 32 #[.val (.ref a1), .val (.int p2), .val (.double xv), .second, .unset] [(.int v2111)])) _
        refine XS.istore X111.here hx rfl (hb hby d4_32) rfl (l' := #[.val (.ref a1), .val (.int p2), .val (.double xv), .second, .val (.int v2111)]) rfl ?_
        refine XS.aloadN X111.here hx rfl (hb hby d4_34) rfl rfl ?_
        refine st112 _ ?_
        refine XS.iloadN X112.here hx rfl (hb hby d4_38) rfl ?_
        refine XS.iload X112.here hx rfl (hb hby d4_39) rfl ?_
        refine st113 _ ?_
        refine XS.goto X113.here hx rfl (pc0 := 42) (pc' := 90) rfl (hb hby d4_42) (by decide) (by decide) ?_
        refine XS.aloadN X113.here hx rfl (hb hby d4_90) rfl rfl ?_
        refine XS.iloadN X113.here hx rfl (hb hby d4_91) rfl ?_
        refine XS.iconst X113.here hx rfl (hb hby d4_92) ?_
        show Steps p.tables e below (T113.setTop (mkF m 93 #[.val (.ref a1), .val (.int p2), .val (.double xv), .second, .val (.int v2111)] [(.int (1 : Int32)), (.int p2), (.ref a1)])) _
        refine st131.trans ?_
        show Steps p.tables e below (T131.setTop (mkF m 96 #[.val (.ref a1), .val (.int p2), .val (.double xv), .second, .val (.int v2111)] [(.int (own_set (own_p lL2111 p2 v2111) lR2111 lC2111 lT2111 lH2111 r2111 p2 (1 : Int32)).2)])) _
        exact retI X131 hx Bd.returns (hb hby d4_96) hr
      · show Q4d1 Z a1 p2 xv ak ro u_ rs al kl lL ar kr lR ac kc lC au ku lT ah kh lH kk kK val cc xi h0 n0 _ T131.heap _
        exact ⟨((own_set (own_p lL2111 p2 v2111) lR2111 lC2111 lT2111 lH2111 r2111 p2 (1 : Int32)).1.1.1), ((own_set (own_p lL2111 p2 v2111) lR2111 lC2111 lT2111 lH2111 r2111 p2 (1 : Int32)).1.1.2.1), lC2111, ((own_set (own_p lL2111 p2 v2111) lR2111 lC2111 lT2111 lH2111 r2111 p2 (1 : Int32)).1.1.2.2.1), ((own_set (own_p lL2111 p2 v2111) lR2111 lC2111 lT2111 lH2111 r2111 p2 (1 : Int32)).1.1.2.2.2), kK2111, u2111, ((own_set (own_p lL2111 p2 v2111) lR2111 lC2111 lT2111 lH2111 r2111 p2 (1 : Int32)).1.2), ((own_set (own_p lL2111 p2 v2111) lR2111 lC2111 lT2111 lH2111 r2111 p2 (1 : Int32)).2), rfl, N131, ((((Keep.refl h0 [a1, ak, al, ar, ac, au, ah]).trans K111 (allS (P := (fun x => x ∈ [a1, ak, al, ar, ac, au, ah] ∨ h0.size ≤ x)) (Or.inl (List.mem_of_getElem? (i := 0) rfl)) (allS (P := (fun x => x ∈ [a1, ak, al, ar, ac, au, ah] ∨ h0.size ≤ x)) (Or.inl (List.mem_of_getElem? (i := 1) rfl)) (allS (P := (fun x => x ∈ [a1, ak, al, ar, ac, au, ah] ∨ h0.size ≤ x)) (Or.inl (List.mem_of_getElem? (i := 2) rfl)) (allS (P := (fun x => x ∈ [a1, ak, al, ar, ac, au, ah] ∨ h0.size ≤ x)) (Or.inl (List.mem_of_getElem? (i := 3) rfl)) (allS (P := (fun x => x ∈ [a1, ak, al, ar, ac, au, ah] ∨ h0.size ≤ x)) (Or.inl (List.mem_of_getElem? (i := 4) rfl)) (allS (P := (fun x => x ∈ [a1, ak, al, ar, ac, au, ah] ∨ h0.size ≤ x)) (Or.inl (List.mem_of_getElem? (i := 5) rfl)) (allS (P := (fun x => x ∈ [a1, ak, al, ar, ac, au, ah] ∨ h0.size ≤ x)) (Or.inl (List.mem_of_getElem? (i := 6) rfl)) all0)))))))).wr W113 (Or.inl (List.mem_of_getElem? (i := 2) rfl))).trans K131 (allS (P := (fun x => x ∈ [a1, ak, al, ar, ac, au, ah] ∨ h0.size ≤ x)) (Or.inl (List.mem_of_getElem? (i := 0) rfl)) (allS (P := (fun x => x ∈ [a1, ak, al, ar, ac, au, ah] ∨ h0.size ≤ x)) (Or.inl (List.mem_of_getElem? (i := 2) rfl)) (allS (P := (fun x => x ∈ [a1, ak, al, ar, ac, au, ah] ∨ h0.size ≤ x)) (Or.inl (List.mem_of_getElem? (i := 3) rfl)) (allS (P := (fun x => x ∈ [a1, ak, al, ar, ac, au, ah] ∨ h0.size ≤ x)) (Or.inl (List.mem_of_getElem? (i := 5) rfl)) (allS (P := (fun x => x ∈ [a1, ak, al, ar, ac, au, ah] ∨ h0.size ≤ x)) (Or.inl (List.mem_of_getElem? (i := 6) rfl)) all0)))))), R131_1, R131_2, R131_3, R131_4, R131_5, R131_6, R131_7, R131_8, R131_9, R131_10, R131_11, R131_12, f135, R131_13, R131_14, f141, R131_15, R131_16, R111_19, R131_17, R131_18, R131_19, (by simp only [own_ins1, own_insS, own_new, own_il, own_ir, own_fin, own_fw, eq_false hc1_102, eq_true hc18_108, R111_23, if_true, if_false])⟩
    · skip
      obtain ⟨T142, X142, e142, st142⟩ := getF X104 hx hZ hown (host := "") (Or.inl (own_w hw 11 rfl)) Via.refl e104 H1 (g := (mkF m 47 #[.val (.ref a1), .val (.int p2), .val (.double xv), .second, .unset] [(.ref a1), (.double xv)])) rfl rfl (hb hby d4_47)
      have dq144 : cmpValue (FP.dcmp xv (val (own_gk kK p2))) .l = (cc xi (own_gk kK p2)) := (own_dc H38 H40 H39 (own_way_k H37 hc1_102))
      have pre145 : ∀ t, Steps p.tables e below (T142.setTop (mkF m 53 #[.val (.ref a1), .val (.int p2), .val (.double xv), .second, .unset] [(.int (cc xi (own_gk kK p2)))])) t → Steps p.tables e below (s₁.setTop (entryFrame m #[(.ref a1), (.int p2), (.double xv)] 5)) t := fun t kt => by
        refine pre107 t ?_
        show Steps p.tables e below (T104.setTop (mkF m 18 #[.val (.ref a1), .val (.int p2), .val (.double xv), .second, .unset] [(.int (cc xi (own_gk kK p2)))])) _
        refine XS.ifYes X104.here hx rfl (pc0 := 18) (pc' := 45) rfl (hb hby d4_18) rfl ((if0 _ _).trans (flt (hc18_108 : ¬ ((cc xi (own_gk kK p2)) < (0 : Int32)))).2.1) (by decide) (by decide) ?_
        refine XS.dloadN X104.here hx rfl (hb hby d4_45) rfl ?_
        refine XS.aloadN X104.here hx rfl (hb hby d4_46) rfl rfl ?_
        refine st142 _ ?_
        refine XS.iloadN X142.here hx rfl (hb hby d4_50) rfl ?_
        show Steps p.tables e below (T142.setTop (mkF m 51 #[.val (.ref a1), .val (.int p2), .val (.double xv), .second, .unset] [(.int p2), (.ref ak), (.double xv)])) _
        refine own_da X142 hx hZ e142 H16 H35 (hb hby d4_51) ?_
        show Steps p.tables e below (T142.setTop (mkF m 52 #[.val (.ref a1), .val (.int p2), .val (.double xv), .second, .unset] [(.double (val (own_gk kK p2))), (.double xv)])) _
        refine XS.dcmpS X142.here hx rfl (hb hby d4_52) rfl dq144 ?_
        show Steps p.tables e below (T142.setTop (mkF m 53 #[.val (.ref a1), .val (.int p2), .val (.double xv), .second, .unset] [(.int (cc xi (own_gk kK p2)))])) _
        exact kt
      by_cases hc53_146 : (0 : Int32) < (cc xi (own_gk kK p2))
      · skip
        obtain ⟨T147, X147, e147, st147⟩ := getF X142 hx hZ hown (host := "") (Or.inl (own_w hw 16 rfl)) Via.refl e142 H3 (g := (mkF m 58 #[.val (.ref a1), .val (.int p2), .val (.double xv), .second, .unset] [(.ref a1), (.ref a1)])) rfl rfl (hb hby d4_58)
        obtain ⟨cq149, q149, q149'⟩ := H0.cell
        obtain ⟨_, _, ⟨T149, L149, k149, n149⟩, -, X149, ⟨Lc149, hQ149, l149, y149, z149⟩, st149⟩ := X147.privateBack hx (y := (⟨"com/example/prequential/prequential/measure/ScoreMultiset", "insert", "(ID)I"⟩ : MethodName)) hown (mvT hZ (own_w hw 38 rfl)) (mvT hZ (own_w hw 39 rfl)) (mvT hZ (own_selp (by decide) (own_w hw 2 rfl) (own_w hw 40 rfl) (own_w hw 39 rfl))) (Cond.privateMethod_at (mvP hZ (own_w hw 40 rfl) (args := #[]))) (mvT hZ (own_w hw 41 rfl)) (by decide) (backOf (W := 0) (rm4d0 l Z a0 hw [] a1 (own_g lR p2) xv ak ro u_ rs al kl lL ar kr lR ac kc lC au ku lT ah kh lH kk kK val cc xi h0 n0 Z0 H0 H1 H2 H3 H4 H5 H6 H7 H8 H9 H10 H11 H12 H13 H14 H15 H16 H17 H18 H19 H20 H21 H22 H23 H24 H25 H26 H27 H28 H29 H30 H31 H32 H33 H34 (H31.2 _) H36 (own_way_r H37 hc1_102 hc18_108 hc53_146) H38 H39 H40) hZ (own_w hw 41 rfl) (own_w hw 3 rfl) (by decide) (by decide)) (g := (mkF m 64 #[.val (.ref a1), .val (.int p2), .val (.double xv), .second, .unset] [(.double xv), (.int (own_g lR p2)), (.ref a1)])) rfl (by rw [hml]; rfl) (Steps.refl _) (a := a1) (by rw [e147]; exact q149) q149' (argsL := [(.int (own_g lR p2)), (.double xv)]) (rest := []) (lenOf pd_4 rfl) rfl (by show 2 * 0 + _ ≤ _; exact Nat.le_of_eq rfl) (hb hby d4_64) (fun _ _ => ⟨rfl, e147, (by decide : 0 + 0 ≤ _), (by decide : 0 + 0 ≤ _)⟩)
        dsimp only [Pt.U, Pt.locs, Pt.cells, Pt.slots] at X149 l149 y149 z149 st149 hQ149
        subst l149 y149 z149
        obtain ⟨lL2149, lR2149, lC2149, lT2149, lH2149, kK2149, u2149, r2149, v2149, rfl, Nq149, K149, R149_1, R149_2, R149_3, R149_4, R149_5, R149_6, R149_7, R149_8, R149_9, R149_10, R149_11, R149_12, R149_13, R149_14, R149_15, R149_16, R149_17, R149_18, R149_19, R149_20, R149_21, R149_22, R149_23⟩ := hQ149
        have N149 := Fr.app N0 Nq149
        obtain ⟨T150, X150, e150, st150⟩ := getF X149 hx hZ hown (host := "") (Or.inl (own_w hw 16 rfl)) Via.refl rfl R149_3 (g := (mkF m 70 #[.val (.ref a1), .val (.int p2), .val (.double xv), .second, .val (.int v2149)] [(.ref a1)])) rfl rfl (hb hby d4_70)
        obtain ⟨cl151, Ar151, qc151, S151, M151, Hh151, G151⟩ := id R149_12
        have hin151 : ¬ (p2 < 0 ∨ cl151.slots.size ≤ (p2).toNatClampNeg) := inb_of S151 H35
        obtain ⟨T151, h151, X151, e151, W151, st151⟩ := stI X150 hx hZ e150 Ar151 (j := p2) hin151 (g := (mkF m 76 #[.val (.ref a1), .val (.int p2), .val (.double xv), .second, .val (.int v2149)] [(.int v2149), (.int p2), (.ref ar)])) rfl rfl (hb hby d4_76)
        have V151 : Arv Z h151 ar kr .int (16 : Int32) (own_v (own_p lR2149 p2 v2149)) (.int (0 : Int32)) := by rw [own_vp]; exact Arv.set Ar151 qc151 S151 M151 Hh151 G151 rfl W151 p2.toNatClampNeg (rfl) (own_vlt H35 R149_18.1)
        have N151 := Fr.snoc X151 N149 H20
        have f152 := ((H0.keep K149).wr W151)
        have ne153 : a1 ≠ ar := Exa.neArv f152 V151 (own_w hw 2 rfl)
        have f154 := (R149_1.other W151 (Or.inl ne153))
        have f155 := (R149_2.other W151 (Or.inl ne153))
        have f156 := (R149_3.other W151 (Or.inl ne153))
        have f157 := (R149_4.other W151 (Or.inl ne153))
        have f158 := (R149_5.other W151 (Or.inl ne153))
        have f159 := (R149_6.other W151 (Or.inl ne153))
        have f160 := (R149_7.other W151 (Or.inl ne153))
        have f161 := (R149_8.other W151 (Or.inl ne153))
        have f162 := (R149_9.other W151 (Or.inl ne153))
        have f163 := (R149_10.other W151 (Or.inl ne153))
        have f164 := (R149_11.other W151 H24)
        have f165 := (R149_13.other W151 (Ne.symm H26))
        have f166 := (R149_14.other W151 (Ne.symm H28))
        have ne167 : ah ≠ ar := own_ne_arv H15 H12 (by decide)
        have f168 := (R149_15.other W151 ne167)
        have z170 : n0 ≤ h151.size := (Nat.le_trans (Nat.le_trans Z0 K149.1) (Nat.le_of_eq W151.size.symm))
        obtain ⟨cq169, q169, q169'⟩ := f152.cell
        obtain ⟨_, _, ⟨T169, L169, k169, n169⟩, -, X169, ⟨Lc169, hQ169, l169, y169, z169⟩, st169⟩ := X151.privateBack hx (y := (⟨"com/example/prequential/prequential/measure/ScoreMultiset", "settle", "(II)I"⟩ : MethodName)) hown (mvT hZ (own_w hw 46 rfl)) (mvT hZ (own_w hw 47 rfl)) (mvT hZ (own_selp (by decide) (own_w hw 2 rfl) (own_w hw 48 rfl) (own_w hw 47 rfl))) (Cond.privateMethod_at (mvP hZ (own_w hw 48 rfl) (args := #[]))) (mvT hZ (own_w hw 49 rfl)) (by decide) (backOf (W := 0) (rm6 l Z a0 hw [] a1 p2 (1 : Int32) ak ro u2149 (0 : Int32) r2149 al kl lL2149 ar kr (own_p lR2149 p2 v2149) ac kc lC2149 au ku lT2149 ah kh lH2149 h151 n0 z170 f152 f154 f155 f156 f157 f158 f159 f160 f161 f162 f163 f164 V151 f165 f166 f168 H19 H20 H22 H23 H17 H24 H25 H26 H27 H28 H29 H35 R149_17 (own_rngp R149_18 R149_22) R149_19 R149_20 R149_21) hZ (own_w hw 49 rfl) (own_w hw 3 rfl) (by decide) (by decide)) (g := (mkF m 93 #[.val (.ref a1), .val (.int p2), .val (.double xv), .second, .val (.int v2149)] [(.int (1 : Int32)), (.int p2), (.ref a1)])) rfl (by rw [hml]; rfl) (Steps.refl _) (a := a1) (by rw [e151]; exact q169) q169' (argsL := [(.int p2), (.int (1 : Int32))]) (rest := []) (lenOf pd_0 rfl) rfl (by show 2 * 0 + _ ≤ _; exact Nat.le_of_eq rfl) (hb hby d4_93) (fun _ _ => ⟨rfl, e151, (by decide : 0 + 0 ≤ _), (by decide : 0 + 0 ≤ _)⟩)
        dsimp only [Pt.U, Pt.locs, Pt.cells, Pt.slots] at X169 l169 y169 z169 st169 hQ169
        subst l169 y169 z169
        obtain ⟨rfl, Nq169, K169, R169_1, R169_2, R169_3, R169_4, R169_5, R169_6, R169_7, R169_8, R169_9, R169_10, R169_11, R169_12, R169_13, R169_14, R169_15, R169_16, R169_17, R169_18, R169_19⟩ := hQ169
        have N169 := Fr.app N151 Nq169
        have ne171 : ac ≠ ah := own_ne_arv H13 H15 (by decide)
        have ne172 : a1 ≠ ac := Exa.neArv f152 f165 (own_w hw 2 rfl)
        have f173 := (f165.keep K169 (ninS (Ne.symm ne172) (ninS (Ne.symm H25) (ninS (Ne.symm H26) (ninS H29 (ninS ne171 nin0))))))
        have ne174 : ar ≠ ak := own_ne_kv H12 H16 (by decide)
        have ne175 : ah ≠ ak := own_ne_kv H15 H16 (by decide)
        have ne176 : au ≠ ak := own_ne_kv H14 H16 (by decide)
        have ne177 : al ≠ ak := own_ne_kv H11 H16 (by decide)
        have ne178 : a1 ≠ ak := own_ne_kar (H0.keep K149) (own_w hw 2 rfl) R149_16
        have f179 := ((R149_16.other W151 (Ne.symm ne174)).keep K169 (ninS (Ne.symm ne178) (ninS (Ne.symm ne177) (ninS (Ne.symm ne174) (ninS (Ne.symm ne176) (ninS (Ne.symm ne175) nin0))))))
        obtain ⟨fs, hr, hrun, hended, hW, hsame⟩ := X169.leave (v := some (.int (own_set lL2149 (own_p lR2149 p2 v2149) lC2149 lT2149 lH2149 r2149 p2 (1 : Int32)).2)) (fun h => by rw [Bd.returns] at h; cases h) (BodyLoose.notSynchronized Bd)
        refine ⟨_, _, pre145 _ ?_, hrun, hended, _, _, rfl, ?_, ⟨_, rfl⟩, hW, hsame.mono (by decide) (by decide)⟩
        · skip
          show Steps p.tables e below (T142.setTop (mkF m 53 #[.val (.ref a1), .val (.int p2), .val (.double xv), .second, .unset] [(.int (cc xi (own_gk kK p2)))])) _
          refine XS.ifNo X142.here hx rfl (hb hby d4_53) rfl ((if0 _ _).trans (tlt (hc53_146 : (0 : Int32) < (cc xi (own_gk kK p2)))).2.2.2) ?_
          refine XS.aloadN X142.here hx rfl (hb hby d4_56) rfl rfl ?_
          refine XS.aloadN X142.here hx rfl (hb hby d4_57) rfl rfl ?_
          refine st147 _ ?_
          refine XS.iloadN X147.here hx rfl (hb hby d4_61) rfl ?_
          show Steps p.tables e below (T147.setTop (mkF m 62 #[.val (.ref a1), .val (.int p2), .val (.double xv), .second, .unset] [(.int p2), (.ref ar), (.ref a1)])) _
          refine own_ia X147 hx hZ e147 H12 H35 (hb hby d4_62) ?_
          show Steps p.tables e below (T147.setTop (mkF m 63 #[.val (.ref a1), .val (.int p2), .val (.double xv), .second, .unset] [(.int (own_g lR p2)), (.ref a1)])) _
          refine XS.dloadN X147.here hx rfl (hb hby d4_63) rfl ?_
          show Steps p.tables e below (T147.setTop (mkF m 64 #[.val (.ref a1), .val (.int p2), .val (.double xv), .second, .unset] [(.double xv), (.int (own_g lR p2)), (.ref a1)])) _
          refine st149.trans ?_
          show Steps p.tables e below (T149.setTop (mkF m 67 #[.val (.ref a1), .val (.int p2), .val (.double xv), .second, .unset] [(.int v2149)])) _
          refine XS.istore X149.here hx rfl (hb hby d4_67) rfl (l' := #[.val (.ref a1), .val (.int p2), .val (.double xv), .second, .val (.int v2149)]) rfl ?_
          refine XS.aloadN X149.here hx rfl (hb hby d4_69) rfl rfl ?_
          refine st150 _ ?_
          refine XS.iloadN X150.here hx rfl (hb hby d4_73) rfl ?_
          refine XS.iload X150.here hx rfl (hb hby d4_74) rfl ?_
          refine st151 _ ?_
          refine XS.goto X151.here hx rfl (pc0 := 77) (pc' := 90) rfl (hb hby d4_77) (by decide) (by decide) ?_
          refine XS.aloadN X151.here hx rfl (hb hby d4_90) rfl rfl ?_
          refine XS.iloadN X151.here hx rfl (hb hby d4_91) rfl ?_
          refine XS.iconst X151.here hx rfl (hb hby d4_92) ?_
          show Steps p.tables e below (T151.setTop (mkF m 93 #[.val (.ref a1), .val (.int p2), .val (.double xv), .second, .val (.int v2149)] [(.int (1 : Int32)), (.int p2), (.ref a1)])) _
          refine st169.trans ?_
          show Steps p.tables e below (T169.setTop (mkF m 96 #[.val (.ref a1), .val (.int p2), .val (.double xv), .second, .val (.int v2149)] [(.int (own_set lL2149 (own_p lR2149 p2 v2149) lC2149 lT2149 lH2149 r2149 p2 (1 : Int32)).2)])) _
          exact retI X169 hx Bd.returns (hb hby d4_96) hr
        · show Q4d1 Z a1 p2 xv ak ro u_ rs al kl lL ar kr lR ac kc lC au ku lT ah kh lH kk kK val cc xi h0 n0 _ T169.heap _
          exact ⟨((own_set lL2149 (own_p lR2149 p2 v2149) lC2149 lT2149 lH2149 r2149 p2 (1 : Int32)).1.1.1), ((own_set lL2149 (own_p lR2149 p2 v2149) lC2149 lT2149 lH2149 r2149 p2 (1 : Int32)).1.1.2.1), lC2149, ((own_set lL2149 (own_p lR2149 p2 v2149) lC2149 lT2149 lH2149 r2149 p2 (1 : Int32)).1.1.2.2.1), ((own_set lL2149 (own_p lR2149 p2 v2149) lC2149 lT2149 lH2149 r2149 p2 (1 : Int32)).1.1.2.2.2), kK2149, u2149, ((own_set lL2149 (own_p lR2149 p2 v2149) lC2149 lT2149 lH2149 r2149 p2 (1 : Int32)).1.2), ((own_set lL2149 (own_p lR2149 p2 v2149) lC2149 lT2149 lH2149 r2149 p2 (1 : Int32)).2), rfl, N169, ((((Keep.refl h0 [a1, ak, al, ar, ac, au, ah]).trans K149 (allS (P := (fun x => x ∈ [a1, ak, al, ar, ac, au, ah] ∨ h0.size ≤ x)) (Or.inl (List.mem_of_getElem? (i := 0) rfl)) (allS (P := (fun x => x ∈ [a1, ak, al, ar, ac, au, ah] ∨ h0.size ≤ x)) (Or.inl (List.mem_of_getElem? (i := 1) rfl)) (allS (P := (fun x => x ∈ [a1, ak, al, ar, ac, au, ah] ∨ h0.size ≤ x)) (Or.inl (List.mem_of_getElem? (i := 2) rfl)) (allS (P := (fun x => x ∈ [a1, ak, al, ar, ac, au, ah] ∨ h0.size ≤ x)) (Or.inl (List.mem_of_getElem? (i := 3) rfl)) (allS (P := (fun x => x ∈ [a1, ak, al, ar, ac, au, ah] ∨ h0.size ≤ x)) (Or.inl (List.mem_of_getElem? (i := 4) rfl)) (allS (P := (fun x => x ∈ [a1, ak, al, ar, ac, au, ah] ∨ h0.size ≤ x)) (Or.inl (List.mem_of_getElem? (i := 5) rfl)) (allS (P := (fun x => x ∈ [a1, ak, al, ar, ac, au, ah] ∨ h0.size ≤ x)) (Or.inl (List.mem_of_getElem? (i := 6) rfl)) all0)))))))).wr W151 (Or.inl (List.mem_of_getElem? (i := 3) rfl))).trans K169 (allS (P := (fun x => x ∈ [a1, ak, al, ar, ac, au, ah] ∨ h0.size ≤ x)) (Or.inl (List.mem_of_getElem? (i := 0) rfl)) (allS (P := (fun x => x ∈ [a1, ak, al, ar, ac, au, ah] ∨ h0.size ≤ x)) (Or.inl (List.mem_of_getElem? (i := 2) rfl)) (allS (P := (fun x => x ∈ [a1, ak, al, ar, ac, au, ah] ∨ h0.size ≤ x)) (Or.inl (List.mem_of_getElem? (i := 3) rfl)) (allS (P := (fun x => x ∈ [a1, ak, al, ar, ac, au, ah] ∨ h0.size ≤ x)) (Or.inl (List.mem_of_getElem? (i := 5) rfl)) (allS (P := (fun x => x ∈ [a1, ak, al, ar, ac, au, ah] ∨ h0.size ≤ x)) (Or.inl (List.mem_of_getElem? (i := 6) rfl)) all0)))))), R169_1, R169_2, R169_3, R169_4, R169_5, R169_6, R169_7, R169_8, R169_9, R169_10, R169_11, R169_12, f173, R169_13, R169_14, f179, R169_15, R169_16, R149_19, R169_17, R169_18, R169_19, (by simp only [own_ins1, own_insS, own_new, own_il, own_ir, own_fin, own_fw, eq_false hc1_102, eq_false hc18_108, eq_true hc53_146, R149_23, if_true, if_false])⟩
      · skip
        obtain ⟨T180, X180, e180, st180⟩ := getF X142 hx hZ hown (host := "") (Or.inl (own_w hw 18 rfl)) Via.refl e142 H4 (g := (mkF m 81 #[.val (.ref a1), .val (.int p2), .val (.double xv), .second, .unset] [(.ref a1)])) rfl rfl (hb hby d4_81)
        obtain ⟨cl182, Ar182, qc182, S182, M182, Hh182, G182⟩ := id H13
        have hin182 : ¬ (p2 < 0 ∨ cl182.slots.size ≤ (p2).toNatClampNeg) := inb_of S182 H35
        obtain ⟨T182, h182, X182, e182, W182, st182⟩ := stI X180 hx hZ e180 Ar182 (j := p2) hin182 (g := (mkF m 89 #[.val (.ref a1), .val (.int p2), .val (.double xv), .second, .unset] [(.int ((own_g lC p2) + (1 : Int32))), (.int p2), (.ref ac)])) rfl rfl (hb hby d4_89)
        have V182 : Arv Z h182 ac kc .int (16 : Int32) (own_v (own_p lC p2 ((own_g lC p2) + (1 : Int32)))) (.int (0 : Int32)) := by rw [own_vp]; exact Arv.set Ar182 qc182 S182 M182 Hh182 G182 rfl W182 p2.toNatClampNeg (rfl) (own_vlt H35 H32)
        have N182 := Fr.snoc X182 N0 H21
        have f183 := (H0.wr W182)
        have ne184 : a1 ≠ ac := Exa.neArv f183 V182 (own_w hw 2 rfl)
        have f185 := (H1.other W182 (Or.inl ne184))
        have f186 := (H2.other W182 (Or.inl ne184))
        have f187 := (H3.other W182 (Or.inl ne184))
        have f188 := (H4.other W182 (Or.inl ne184))
        have f189 := (H5.other W182 (Or.inl ne184))
        have f190 := (H6.other W182 (Or.inl ne184))
        have f191 := (H7.other W182 (Or.inl ne184))
        have f192 := (H8.other W182 (Or.inl ne184))
        have f193 := (H9.other W182 (Or.inl ne184))
        have f194 := (H10.other W182 (Or.inl ne184))
        have f195 := (H11.other W182 H25)
        have f196 := (H12.other W182 H26)
        have f197 := (H14.other W182 (Ne.symm H29))
        have ne198 : ah ≠ ac := own_ne_arv H15 H13 (by decide)
        have f199 := (H15.other W182 ne198)
        have z201 : n0 ≤ h182.size := (Nat.le_trans Z0 (Nat.le_of_eq W182.size.symm))
        obtain ⟨cq200, q200, q200'⟩ := f183.cell
        obtain ⟨_, _, ⟨T200, L200, k200, n200⟩, -, X200, ⟨Lc200, hQ200, l200, y200, z200⟩, st200⟩ := X182.privateBack hx (y := (⟨"com/example/prequential/prequential/measure/ScoreMultiset", "settle", "(II)I"⟩ : MethodName)) hown (mvT hZ (own_w hw 46 rfl)) (mvT hZ (own_w hw 47 rfl)) (mvT hZ (own_selp (by decide) (own_w hw 2 rfl) (own_w hw 48 rfl) (own_w hw 47 rfl))) (Cond.privateMethod_at (mvP hZ (own_w hw 48 rfl) (args := #[]))) (mvT hZ (own_w hw 49 rfl)) (by decide) (backOf (W := 0) (rm6 l Z a0 hw [] a1 p2 (1 : Int32) ak ro u_ (0 : Int32) rs al kl lL ar kr lR ac kc (own_p lC p2 ((own_g lC p2) + (1 : Int32))) au ku lT ah kh lH h182 n0 z201 f183 f185 f186 f187 f188 f189 f190 f191 f192 f193 f194 f195 f196 V182 f197 f199 H19 H20 H22 H23 H17 H24 H25 H26 H27 H28 H29 H35 H30 H31 (own_16p H32) H33 H34) hZ (own_w hw 49 rfl) (own_w hw 3 rfl) (by decide) (by decide)) (g := (mkF m 93 #[.val (.ref a1), .val (.int p2), .val (.double xv), .second, .unset] [(.int (1 : Int32)), (.int p2), (.ref a1)])) rfl (by rw [hml]; rfl) (Steps.refl _) (a := a1) (by rw [e182]; exact q200) q200' (argsL := [(.int p2), (.int (1 : Int32))]) (rest := []) (lenOf pd_0 rfl) rfl (by show 2 * 0 + _ ≤ _; exact Nat.le_of_eq rfl) (hb hby d4_93) (fun _ _ => ⟨rfl, e182, (by decide : 0 + 0 ≤ _), (by decide : 0 + 0 ≤ _)⟩)
        dsimp only [Pt.U, Pt.locs, Pt.cells, Pt.slots] at X200 l200 y200 z200 st200 hQ200
        subst l200 y200 z200
        obtain ⟨rfl, Nq200, K200, R200_1, R200_2, R200_3, R200_4, R200_5, R200_6, R200_7, R200_8, R200_9, R200_10, R200_11, R200_12, R200_13, R200_14, R200_15, R200_16, R200_17, R200_18, R200_19⟩ := hQ200
        have N200 := Fr.app N182 Nq200
        have f202 := (V182.keep K200 (ninS (Ne.symm ne184) (ninS (Ne.symm H25) (ninS (Ne.symm H26) (ninS H29 (ninS (Ne.symm ne198) nin0))))))
        have ne203 : ac ≠ ak := own_ne_kv H13 H16 (by decide)
        have ne204 : ah ≠ ak := own_ne_kv H15 H16 (by decide)
        have ne205 : au ≠ ak := own_ne_kv H14 H16 (by decide)
        have ne206 : ar ≠ ak := own_ne_kv H12 H16 (by decide)
        have ne207 : al ≠ ak := own_ne_kv H11 H16 (by decide)
        have ne208 : a1 ≠ ak := own_ne_kar H0 (own_w hw 2 rfl) H16
        have f209 := ((H16.other W182 (Ne.symm ne203)).keep K200 (ninS (Ne.symm ne208) (ninS (Ne.symm ne207) (ninS (Ne.symm ne206) (ninS (Ne.symm ne205) (ninS (Ne.symm ne204) nin0))))))
        obtain ⟨fs, hr, hrun, hended, hW, hsame⟩ := X200.leave (v := some (.int (own_set lL lR (own_p lC p2 ((own_g lC p2) + (1 : Int32))) lT lH rs p2 (1 : Int32)).2)) (fun h => by rw [Bd.returns] at h; cases h) (BodyLoose.notSynchronized Bd)
        refine ⟨_, _, pre145 _ ?_, hrun, hended, _, _, rfl, ?_, ⟨_, rfl⟩, hW, hsame.mono (by decide) (by decide)⟩
        · skip
          show Steps p.tables e below (T142.setTop (mkF m 53 #[.val (.ref a1), .val (.int p2), .val (.double xv), .second, .unset] [(.int (cc xi (own_gk kK p2)))])) _
          refine XS.ifYes X142.here hx rfl (pc0 := 53) (pc' := 80) rfl (hb hby d4_53) rfl ((if0 _ _).trans (flt (hc53_146 : ¬ ((0 : Int32) < (cc xi (own_gk kK p2))))).2.2.2) (by decide) (by decide) ?_
          refine XS.aloadN X142.here hx rfl (hb hby d4_80) rfl rfl ?_
          refine st180 _ ?_
          refine XS.iloadN X180.here hx rfl (hb hby d4_84) rfl ?_
          show Steps p.tables e below (T180.setTop (mkF m 85 #[.val (.ref a1), .val (.int p2), .val (.double xv), .second, .unset] [(.int p2), (.ref ac)])) _
          refine XT.dup2 X180.here hx rfl (hb hby d4_85) rfl rfl rfl ?_
          show Steps p.tables e below (T180.setTop (mkF m 86 #[.val (.ref a1), .val (.int p2), .val (.double xv), .second, .unset] [(.int p2), (.ref ac), (.int p2), (.ref ac)])) _
          refine own_ia X180 hx hZ e180 H13 H35 (hb hby d4_86) ?_
          show Steps p.tables e below (T180.setTop (mkF m 87 #[.val (.ref a1), .val (.int p2), .val (.double xv), .second, .unset] [(.int (own_g lC p2)), (.int p2), (.ref ac)])) _
          refine XS.iconst X180.here hx rfl (hb hby d4_87) ?_
          refine XS.iadd X180.here hx rfl (hb hby d4_88) rfl ?_
          refine st182 _ ?_
          refine XS.aloadN X182.here hx rfl (hb hby d4_90) rfl rfl ?_
          refine XS.iloadN X182.here hx rfl (hb hby d4_91) rfl ?_
          refine XS.iconst X182.here hx rfl (hb hby d4_92) ?_
          show Steps p.tables e below (T182.setTop (mkF m 93 #[.val (.ref a1), .val (.int p2), .val (.double xv), .second, .unset] [(.int (1 : Int32)), (.int p2), (.ref a1)])) _
          refine st200.trans ?_
          show Steps p.tables e below (T200.setTop (mkF m 96 #[.val (.ref a1), .val (.int p2), .val (.double xv), .second, .unset] [(.int (own_set lL lR (own_p lC p2 ((own_g lC p2) + (1 : Int32))) lT lH rs p2 (1 : Int32)).2)])) _
          exact retI X200 hx Bd.returns (hb hby d4_96) hr
        · show Q4d1 Z a1 p2 xv ak ro u_ rs al kl lL ar kr lR ac kc lC au ku lT ah kh lH kk kK val cc xi h0 n0 _ T200.heap _
          exact ⟨((own_set lL lR (own_p lC p2 ((own_g lC p2) + (1 : Int32))) lT lH rs p2 (1 : Int32)).1.1.1), ((own_set lL lR (own_p lC p2 ((own_g lC p2) + (1 : Int32))) lT lH rs p2 (1 : Int32)).1.1.2.1), (own_p lC p2 ((own_g lC p2) + (1 : Int32))), ((own_set lL lR (own_p lC p2 ((own_g lC p2) + (1 : Int32))) lT lH rs p2 (1 : Int32)).1.1.2.2.1), ((own_set lL lR (own_p lC p2 ((own_g lC p2) + (1 : Int32))) lT lH rs p2 (1 : Int32)).1.1.2.2.2), kK, u_, ((own_set lL lR (own_p lC p2 ((own_g lC p2) + (1 : Int32))) lT lH rs p2 (1 : Int32)).1.2), ((own_set lL lR (own_p lC p2 ((own_g lC p2) + (1 : Int32))) lT lH rs p2 (1 : Int32)).2), rfl, N200, (((Keep.refl h0 [a1, ak, al, ar, ac, au, ah]).wr W182 (Or.inl (List.mem_of_getElem? (i := 4) rfl))).trans K200 (allS (P := (fun x => x ∈ [a1, ak, al, ar, ac, au, ah] ∨ h0.size ≤ x)) (Or.inl (List.mem_of_getElem? (i := 0) rfl)) (allS (P := (fun x => x ∈ [a1, ak, al, ar, ac, au, ah] ∨ h0.size ≤ x)) (Or.inl (List.mem_of_getElem? (i := 2) rfl)) (allS (P := (fun x => x ∈ [a1, ak, al, ar, ac, au, ah] ∨ h0.size ≤ x)) (Or.inl (List.mem_of_getElem? (i := 3) rfl)) (allS (P := (fun x => x ∈ [a1, ak, al, ar, ac, au, ah] ∨ h0.size ≤ x)) (Or.inl (List.mem_of_getElem? (i := 5) rfl)) (allS (P := (fun x => x ∈ [a1, ak, al, ar, ac, au, ah] ∨ h0.size ≤ x)) (Or.inl (List.mem_of_getElem? (i := 6) rfl)) all0)))))), R200_1, R200_2, R200_3, R200_4, R200_5, R200_6, R200_7, R200_8, R200_9, R200_10, R200_11, R200_12, f202, R200_13, R200_14, f209, R200_15, R200_16, (own_16p H32), R200_17, R200_18, R200_19, (by simp only [own_ins1, own_insS, own_new, own_il, own_ir, own_fin, own_fw, eq_false hc1_102, eq_false hc18_108, eq_false hc53_146, if_true, if_false])⟩
theorem ef_4d2 (m : MethodId) (a1 : Addr) (p2 : Int32) (xv : UInt64) : entryFrame m #[(.ref a1), (.int p2), (.double xv)] 5 = mkF m 0 #[.val (.ref a1), .val (.int p2), .val (.double xv), .second, .unset] [] := by first | (simp [entryFrame, mkF, argsToLocals, Value.category]; done) | rfl
def Q4d2 (Z : State) (a1 : Addr) (p2 : Int32) (xv : UInt64) (ak : Addr) (ro : Int32) (u_ : Int32) (rs : Int32) (al : Addr) (kl : ClassId) (lL : List Int32) (ar : Addr) (kr : ClassId) (lR : List Int32) (ac : Addr) (kc : ClassId) (lC : List Int32) (au : Addr) (ku : ClassId) (lT : List Int32) (ah : Addr) (kh : ClassId) (lH : List Int32) (kk : ClassId) (kK : List Nat) (val : Nat → UInt64) (cc : Nat → Nat → Int32) (xi : Nat) (h0 : Heap) (n0 : Nat) (v : Option Value) (h : Heap) (L : List Loc) : Prop := ∃ (lL2 : List Int32) (lR2 : List Int32) (lC2 : List Int32) (lT2 : List Int32) (lH2 : List Int32) (kK2 : List Nat) (u2 : Int32) (r2 : Int32) (v2 : Int32), v = some (.int v2) ∧ Fr n0 L ∧ Keep h0 h [a1, ak, al, ar, ac, au, ah] ∧ Fld Z h a1 "com/example/prequential/prequential/measure/ScoreMultiset" "key" "[D" (.ref ak) ∧ Fld Z h a1 "com/example/prequential/prequential/measure/ScoreMultiset" "left" "[I" (.ref al) ∧ Fld Z h a1 "com/example/prequential/prequential/measure/ScoreMultiset" "right" "[I" (.ref ar) ∧ Fld Z h a1 "com/example/prequential/prequential/measure/ScoreMultiset" "count" "[I" (.ref ac) ∧ Fld Z h a1 "com/example/prequential/prequential/measure/ScoreMultiset" "total" "[I" (.ref au) ∧ Fld Z h a1 "com/example/prequential/prequential/measure/ScoreMultiset" "height" "[B" (.ref ah) ∧ Fld Z h a1 "com/example/prequential/prequential/measure/ScoreMultiset" "root" "I" (.int ro) ∧ Fld Z h a1 "com/example/prequential/prequential/measure/ScoreMultiset" "unused" "I" (.int u2) ∧ Fld Z h a1 "com/example/prequential/prequential/measure/ScoreMultiset" "freed" "I" (.int (0 : Int32)) ∧ Fld Z h a1 "com/example/prequential/prequential/measure/ScoreMultiset" "reshaped" "Z" (.int r2) ∧ Arv Z h al kl .int (16 : Int32) (own_v lL2) (.int (0 : Int32)) ∧ Arv Z h ar kr .int (16 : Int32) (own_v lR2) (.int (0 : Int32)) ∧ Arv Z h ac kc .int (16 : Int32) (own_v lC2) (.int (0 : Int32)) ∧ Arv Z h au ku .int (16 : Int32) (own_v lT2) (.int (0 : Int32)) ∧ Arv Z h ah kh .byte (16 : Int32) (own_v lH2) (.int (0 : Int32)) ∧ own_Kar Z h ak kk kK2 val ∧ own_rng lL2 ∧ own_rng lR2 ∧ lC2.length = 16 ∧ lT2.length = 16 ∧ lH2.length = 16 ∧ own_in v2 ∧ own_ins2 cc xi (lL, lR, lC, lT, lH, kK, u_, (0 : Int32), rs) p2 = ((lL2, lR2, lC2, lT2, lH2, kK2, u2, (0 : Int32), r2), v2)
set_option maxRecDepth 65536 in
set_option maxHeartbeats 40000000 in
theorem rm4d2 (l : Launch) (Z : State) (a0 : Array Value) (hw : ∀ d ∈ tables_1, d.before a0 Z = true) (ws : List Jvm.Cond) (a1 : Addr) (p2 : Int32) (xv : UInt64) (ak : Addr) (ro : Int32) (u_ : Int32) (rs : Int32) (al : Addr) (kl : ClassId) (lL : List Int32) (ar : Addr) (kr : ClassId) (lR : List Int32) (ac : Addr) (kc : ClassId) (lC : List Int32) (au : Addr) (ku : ClassId) (lT : List Int32) (ah : Addr) (kh : ClassId) (lH : List Int32) (kk : ClassId) (kK : List Nat) (val : Nat → UInt64) (cc : Nat → Nat → Int32) (xi : Nat) (h0 : Heap) (n0 : Nat) (Z0 : n0 ≤ h0.size) (H0 : Exa Z h0 a1 "com/example/prequential/prequential/measure/ScoreMultiset") (H1 : Fld Z h0 a1 "com/example/prequential/prequential/measure/ScoreMultiset" "key" "[D" (.ref ak)) (H2 : Fld Z h0 a1 "com/example/prequential/prequential/measure/ScoreMultiset" "left" "[I" (.ref al)) (H3 : Fld Z h0 a1 "com/example/prequential/prequential/measure/ScoreMultiset" "right" "[I" (.ref ar)) (H4 : Fld Z h0 a1 "com/example/prequential/prequential/measure/ScoreMultiset" "count" "[I" (.ref ac)) (H5 : Fld Z h0 a1 "com/example/prequential/prequential/measure/ScoreMultiset" "total" "[I" (.ref au)) (H6 : Fld Z h0 a1 "com/example/prequential/prequential/measure/ScoreMultiset" "height" "[B" (.ref ah)) (H7 : Fld Z h0 a1 "com/example/prequential/prequential/measure/ScoreMultiset" "root" "I" (.int ro)) (H8 : Fld Z h0 a1 "com/example/prequential/prequential/measure/ScoreMultiset" "unused" "I" (.int u_)) (H9 : Fld Z h0 a1 "com/example/prequential/prequential/measure/ScoreMultiset" "freed" "I" (.int (0 : Int32))) (H10 : Fld Z h0 a1 "com/example/prequential/prequential/measure/ScoreMultiset" "reshaped" "Z" (.int rs)) (H11 : Arv Z h0 al kl .int (16 : Int32) (own_v lL) (.int (0 : Int32))) (H12 : Arv Z h0 ar kr .int (16 : Int32) (own_v lR) (.int (0 : Int32))) (H13 : Arv Z h0 ac kc .int (16 : Int32) (own_v lC) (.int (0 : Int32))) (H14 : Arv Z h0 au ku .int (16 : Int32) (own_v lT) (.int (0 : Int32))) (H15 : Arv Z h0 ah kh .byte (16 : Int32) (own_v lH) (.int (0 : Int32))) (H16 : own_Kar Z h0 ak kk kK val) (H17 : n0 ≤ a1) (H18 : n0 ≤ ak) (H19 : n0 ≤ al) (H20 : n0 ≤ ar) (H21 : n0 ≤ ac) (H22 : n0 ≤ au) (H23 : n0 ≤ ah) (H24 : al ≠ ar) (H25 : al ≠ ac) (H26 : ar ≠ ac) (H27 : al ≠ au) (H28 : ar ≠ au) (H29 : ac ≠ au) (H30 : own_rng lL) (H31 : own_rng lR) (H32 : lC.length = 16) (H33 : lT.length = 16) (H34 : lH.length = 16) (H35 : own_in p2) (H36 : own_in u_) (H37 : own_way2 (cc xi) kK lL lR p2 = true) (H38 : own_cv cc val) (H39 : xi < 5) (H40 : xv = val xi) :
    own_MF l (⟨"com/example/prequential/prequential/measure/ScoreMultiset", "insert", "(ID)I"⟩ : MethodName) (Jvm.Cond.code (⟨"com/example/prequential/prequential/measure/ScoreMultiset", "insert", "(ID)I"⟩ : MethodName) prog_108_method_11_code 5 (some .int) :: ws) ({ frames := 6, cells := 0, slots := 0, locals := 91 } : Room) #[(.ref a1), (.int p2), (.double xv)] Z h0 (Q4d2 Z a1 p2 xv ak ro u_ rs al kl lL ar kr lR ac kc lC au ku lT ah kh lH kk kK val cc xi h0 n0) := by
  refine MetFree.of_bodySF (plainFor_of_name pn_com_example_prequential_prequential_measure_ScoreMultiset) hisR ?_
  intro p e s m args below meth c s₁ Bd hml0 hP hK
  obtain ⟨rfl, hZ, hh⟩ := hP
  have hx := Bd.exec
  have hby := Bd.bytes
  have hml : c.maxLocals = 5 := hml0
  have hown : s.vm.findClass "com/example/prequential/prequential/measure/ScoreMultiset" = some m.cls := findClass_of_methodNamed Bd.named
  have hnm := (name_of_methodNamed Bd.named Bd.method).1
  have X0 : Stand p l e ({ frames := 6, cells := 0, slots := 0, locals := 91 } : Room) s m #[(.ref a1), (.int p2), (.double xv)] below meth c s₁ [] 0 0 := Stand.of_body Bd
  have e0 : s₁.heap = h0 := by rw [← hh, Bd.state]; rfl
  have N0 := Fr.nil n0
  have pre0 : ∀ t, Steps p.tables e below (s₁.setTop (mkF m 0 #[.val (.ref a1), .val (.int p2), .val (.double xv), .second, .unset] [])) t → Steps p.tables e below (s₁.setTop (entryFrame m #[(.ref a1), (.int p2), (.double xv)] 5)) t := fun t k => castTop (ef_4d2 m a1 p2 xv) k
  have pre101 : ∀ t, Steps p.tables e below (s₁.setTop (mkF m 1 #[.val (.ref a1), .val (.int p2), .val (.double xv), .second, .unset] [(.int p2)])) t → Steps p.tables e below (s₁.setTop (entryFrame m #[(.ref a1), (.int p2), (.double xv)] 5)) t := fun t kt => by
    refine pre0 t ?_
    show Steps p.tables e below (s₁.setTop (mkF m 0 #[.val (.ref a1), .val (.int p2), .val (.double xv), .second, .unset] [])) _
    refine XS.iloadN X0.here hx rfl (hb hby d4_0) rfl ?_
    show Steps p.tables e below (s₁.setTop (mkF m 1 #[.val (.ref a1), .val (.int p2), .val (.double xv), .second, .unset] [(.int p2)])) _
    exact kt
  by_cases hc1_102 : p2 = (0 : Int32)
  · skip
    obtain ⟨cq103, q103, q103'⟩ := H0.cell
    obtain ⟨_, _, ⟨T103, L103, k103, n103⟩, -, X103, ⟨Lc103, hQ103, l103, y103, z103⟩, st103⟩ := X0.privateBack hx (y := (⟨"com/example/prequential/prequential/measure/ScoreMultiset", "newNode", "(D)I"⟩ : MethodName)) hown (mvT hZ (own_w hw 42 rfl)) (mvT hZ (own_w hw 43 rfl)) (mvT hZ (own_selp (by decide) (own_w hw 2 rfl) (own_w hw 44 rfl) (own_w hw 43 rfl))) (Cond.privateMethod_at (mvP hZ (own_w hw 44 rfl) (args := #[]))) (mvT hZ (own_w hw 45 rfl)) (by decide) (backOf (W := 0) (rm5 l Z a0 hw [] a1 xv ak ro u_ rs al kl lL ar kr lR ac kc lC au ku lT ah kh lH kk kK val xi h0 n0 Z0 H0 H1 H2 H3 H4 H5 H6 H7 H8 H9 H10 H11 H12 H13 H14 H15 H16 H17 H18 H19 H20 H21 H22 H23 H24 H25 H26 H27 H28 H29 H30 H31 H32 H33 H34 H36 H40) hZ (own_w hw 45 rfl) (own_w hw 3 rfl) (by decide) (by decide)) (g := (mkF m 6 #[.val (.ref a1), .val (.int p2), .val (.double xv), .second, .unset] [(.double xv), (.ref a1)])) rfl (by rw [hml]; rfl) (Steps.refl _) (a := a1) (by rw [e0]; exact q103) q103' (argsL := [(.double xv)]) (rest := []) (lenOf pd_3 rfl) rfl (by show 2 * 0 + _ ≤ _; exact Nat.le_of_eq rfl) (hb hby d4_6) (fun _ _ => ⟨rfl, e0, (by decide : 0 + 0 ≤ _), (by decide : 0 + 0 ≤ _)⟩)
    dsimp only [Pt.U, Pt.locs, Pt.cells, Pt.slots] at X103 l103 y103 z103 st103 hQ103
    subst l103 y103 z103
    obtain ⟨rfl, Nq103, K103, R103_1, R103_2, R103_3, R103_4, R103_5, R103_6, R103_7, R103_8, R103_9, R103_10, R103_11, R103_12, R103_13, R103_14, R103_15, R103_16⟩ := hQ103
    have N103 := Fr.app N0 Nq103
    obtain ⟨fs, hr, hrun, hended, hW, hsame⟩ := X103.leave (v := some (.int u_)) (fun h => by rw [Bd.returns] at h; cases h) (BodyLoose.notSynchronized Bd)
    refine ⟨_, _, pre101 _ ?_, hrun, hended, _, _, rfl, ?_, ⟨_, rfl⟩, hW, hsame.mono (by decide) (by decide)⟩
    · skip
      show Steps p.tables e below (s₁.setTop (mkF m 1 #[.val (.ref a1), .val (.int p2), .val (.double xv), .second, .unset] [(.int p2)])) _
      refine XS.ifNo X0.here hx rfl (hb hby d4_1) rfl ((if0 _ _).trans (teq (hc1_102 : p2 = (0 : Int32))).2) ?_
      refine XS.aloadN X0.here hx rfl (hb hby d4_4) rfl rfl ?_
      refine XS.dloadN X0.here hx rfl (hb hby d4_5) rfl ?_
      show Steps p.tables e below (s₁.setTop (mkF m 6 #[.val (.ref a1), .val (.int p2), .val (.double xv), .second, .unset] [(.double xv), (.ref a1)])) _
      refine st103.trans ?_
      show Steps p.tables e below (T103.setTop (mkF m 9 #[.val (.ref a1), .val (.int p2), .val (.double xv), .second, .unset] [(.int u_)])) _
      exact retI X103 hx Bd.returns (hb hby d4_9) hr
    · show Q4d2 Z a1 p2 xv ak ro u_ rs al kl lL ar kr lR ac kc lC au ku lT ah kh lH kk kK val cc xi h0 n0 _ T103.heap _
      exact ⟨(own_p lL u_ (0 : Int32)), (own_p lR u_ (0 : Int32)), (own_p lC u_ (1 : Int32)), (own_p lT u_ (1 : Int32)), (own_p lH u_ (1 : Int32)), (own_pk kK u_ xi), (u_ + (1 : Int32)), (1 : Int32), u_, rfl, N103, ((Keep.refl h0 [a1, ak, al, ar, ac, au, ah]).trans K103 (allS (P := (fun x => x ∈ [a1, ak, al, ar, ac, au, ah] ∨ h0.size ≤ x)) (Or.inl (List.mem_of_getElem? (i := 0) rfl)) (allS (P := (fun x => x ∈ [a1, ak, al, ar, ac, au, ah] ∨ h0.size ≤ x)) (Or.inl (List.mem_of_getElem? (i := 1) rfl)) (allS (P := (fun x => x ∈ [a1, ak, al, ar, ac, au, ah] ∨ h0.size ≤ x)) (Or.inl (List.mem_of_getElem? (i := 2) rfl)) (allS (P := (fun x => x ∈ [a1, ak, al, ar, ac, au, ah] ∨ h0.size ≤ x)) (Or.inl (List.mem_of_getElem? (i := 3) rfl)) (allS (P := (fun x => x ∈ [a1, ak, al, ar, ac, au, ah] ∨ h0.size ≤ x)) (Or.inl (List.mem_of_getElem? (i := 4) rfl)) (allS (P := (fun x => x ∈ [a1, ak, al, ar, ac, au, ah] ∨ h0.size ≤ x)) (Or.inl (List.mem_of_getElem? (i := 5) rfl)) (allS (P := (fun x => x ∈ [a1, ak, al, ar, ac, au, ah] ∨ h0.size ≤ x)) (Or.inl (List.mem_of_getElem? (i := 6) rfl)) all0)))))))), R103_1, R103_2, R103_3, R103_4, R103_5, R103_6, R103_7, R103_8, R103_9, R103_10, R103_11, R103_12, R103_13, R103_14, R103_15, R103_16, (own_rngp H30 (by decide)), (own_rngp H31 (by decide)), (own_16p H32), (own_16p H33), (own_16p H34), H36, (by simp only [own_ins2, own_insS, own_new, own_il, own_ir, own_fin, own_fw, eq_true hc1_102, if_true, if_false])⟩
  · skip
    obtain ⟨T104, X104, e104, st104⟩ := getF X0 hx hZ hown (host := "") (Or.inl (own_w hw 11 rfl)) Via.refl e0 H1 (g := (mkF m 12 #[.val (.ref a1), .val (.int p2), .val (.double xv), .second, .unset] [(.ref a1), (.double xv)])) rfl rfl (hb hby d4_12)
    have dq106 : cmpValue (FP.dcmp xv (val (own_gk kK p2))) .g = (cc xi (own_gk kK p2)) := (own_dc H38 H40 H39 (own_way_k H37 hc1_102))
    have pre107 : ∀ t, Steps p.tables e below (T104.setTop (mkF m 18 #[.val (.ref a1), .val (.int p2), .val (.double xv), .second, .unset] [(.int (cc xi (own_gk kK p2)))])) t → Steps p.tables e below (s₁.setTop (entryFrame m #[(.ref a1), (.int p2), (.double xv)] 5)) t := fun t kt => by
      refine pre101 t ?_
      show Steps p.tables e below (s₁.setTop (mkF m 1 #[.val (.ref a1), .val (.int p2), .val (.double xv), .second, .unset] [(.int p2)])) _
      refine XS.ifYes X0.here hx rfl (pc0 := 1) (pc' := 10) rfl (hb hby d4_1) rfl ((if0 _ _).trans (feq (hc1_102 : ¬ (p2 = (0 : Int32)))).2) (by decide) (by decide) ?_
      refine XS.dloadN X0.here hx rfl (hb hby d4_10) rfl ?_
      refine XS.aloadN X0.here hx rfl (hb hby d4_11) rfl rfl ?_
      refine st104 _ ?_
      refine XS.iloadN X104.here hx rfl (hb hby d4_15) rfl ?_
      show Steps p.tables e below (T104.setTop (mkF m 16 #[.val (.ref a1), .val (.int p2), .val (.double xv), .second, .unset] [(.int p2), (.ref ak), (.double xv)])) _
      refine own_da X104 hx hZ e104 H16 H35 (hb hby d4_16) ?_
      show Steps p.tables e below (T104.setTop (mkF m 17 #[.val (.ref a1), .val (.int p2), .val (.double xv), .second, .unset] [(.double (val (own_gk kK p2))), (.double xv)])) _
      refine XS.dcmpS X104.here hx rfl (hb hby d4_17) rfl dq106 ?_
      show Steps p.tables e below (T104.setTop (mkF m 18 #[.val (.ref a1), .val (.int p2), .val (.double xv), .second, .unset] [(.int (cc xi (own_gk kK p2)))])) _
      exact kt
    by_cases hc18_108 : (cc xi (own_gk kK p2)) < (0 : Int32)
    · skip
      obtain ⟨T109, X109, e109, st109⟩ := getF X104 hx hZ hown (host := "") (Or.inl (own_w hw 14 rfl)) Via.refl e104 H2 (g := (mkF m 23 #[.val (.ref a1), .val (.int p2), .val (.double xv), .second, .unset] [(.ref a1), (.ref a1)])) rfl rfl (hb hby d4_23)
      obtain ⟨cq111, q111, q111'⟩ := H0.cell
      obtain ⟨_, _, ⟨T111, L111, k111, n111⟩, -, X111, ⟨Lc111, hQ111, l111, y111, z111⟩, st111⟩ := X109.privateBack hx (y := (⟨"com/example/prequential/prequential/measure/ScoreMultiset", "insert", "(ID)I"⟩ : MethodName)) hown (mvT hZ (own_w hw 38 rfl)) (mvT hZ (own_w hw 39 rfl)) (mvT hZ (own_selp (by decide) (own_w hw 2 rfl) (own_w hw 40 rfl) (own_w hw 39 rfl))) (Cond.privateMethod_at (mvP hZ (own_w hw 40 rfl) (args := #[]))) (mvT hZ (own_w hw 41 rfl)) (by decide) (backOf (W := 0) (rm4d1 l Z a0 hw [] a1 (own_g lL p2) xv ak ro u_ rs al kl lL ar kr lR ac kc lC au ku lT ah kh lH kk kK val cc xi h0 n0 Z0 H0 H1 H2 H3 H4 H5 H6 H7 H8 H9 H10 H11 H12 H13 H14 H15 H16 H17 H18 H19 H20 H21 H22 H23 H24 H25 H26 H27 H28 H29 H30 H31 H32 H33 H34 (H30.2 _) H36 (own_way_l H37 hc1_102 hc18_108) H38 H39 H40) hZ (own_w hw 41 rfl) (own_w hw 3 rfl) (by decide) (by decide)) (g := (mkF m 29 #[.val (.ref a1), .val (.int p2), .val (.double xv), .second, .unset] [(.double xv), (.int (own_g lL p2)), (.ref a1)])) rfl (by rw [hml]; rfl) (Steps.refl _) (a := a1) (by rw [e109]; exact q111) q111' (argsL := [(.int (own_g lL p2)), (.double xv)]) (rest := []) (lenOf pd_4 rfl) rfl (by show 2 * 0 + _ ≤ _; exact Nat.le_of_eq rfl) (hb hby d4_29) (fun _ _ => ⟨rfl, e109, (by decide : 0 + 0 ≤ _), (by decide : 0 + 0 ≤ _)⟩)
      dsimp only [Pt.U, Pt.locs, Pt.cells, Pt.slots] at X111 l111 y111 z111 st111 hQ111
      subst l111 y111 z111
      obtain ⟨lL2111, lR2111, lC2111, lT2111, lH2111, kK2111, u2111, r2111, v2111, rfl, Nq111, K111, R111_1, R111_2, R111_3, R111_4, R111_5, R111_6, R111_7, R111_8, R111_9, R111_10, R111_11, R111_12, R111_13, R111_14, R111_15, R111_16, R111_17, R111_18, R111_19, R111_20, R111_21, R111_22, R111_23⟩ := hQ111
      have N111 := Fr.app N0 Nq111
      obtain ⟨T112, X112, e112, st112⟩ := getF X111 hx hZ hown (host := "") (Or.inl (own_w hw 14 rfl)) Via.refl rfl R111_2 (g := (mkF m 35 #[.val (.ref a1), .val (.int p2), .val (.double xv), .second, .val (.int v2111)] [(.ref a1)])) rfl rfl (hb hby d4_35)
      obtain ⟨cl113, Ar113, qc113, S113, M113, Hh113, G113⟩ := id R111_11
      have hin113 : ¬ (p2 < 0 ∨ cl113.slots.size ≤ (p2).toNatClampNeg) := inb_of S113 H35
      obtain ⟨T113, h113, X113, e113, W113, st113⟩ := stI X112 hx hZ e112 Ar113 (j := p2) hin113 (g := (mkF m 41 #[.val (.ref a1), .val (.int p2), .val (.double xv), .second, .val (.int v2111)] [(.int v2111), (.int p2), (.ref al)])) rfl rfl (hb hby d4_41)
      have V113 : Arv Z h113 al kl .int (16 : Int32) (own_v (own_p lL2111 p2 v2111)) (.int (0 : Int32)) := by rw [own_vp]; exact Arv.set Ar113 qc113 S113 M113 Hh113 G113 rfl W113 p2.toNatClampNeg (rfl) (own_vlt H35 R111_17.1)
      have N113 := Fr.snoc X113 N111 H19
      have f114 := ((H0.keep K111).wr W113)
      have ne115 : a1 ≠ al := Exa.neArv f114 V113 (own_w hw 2 rfl)
      have f116 := (R111_1.other W113 (Or.inl ne115))
      have f117 := (R111_2.other W113 (Or.inl ne115))
      have f118 := (R111_3.other W113 (Or.inl ne115))
      have f119 := (R111_4.other W113 (Or.inl ne115))
      have f120 := (R111_5.other W113 (Or.inl ne115))
      have f121 := (R111_6.other W113 (Or.inl ne115))
      have f122 := (R111_7.other W113 (Or.inl ne115))
      have f123 := (R111_8.other W113 (Or.inl ne115))
      have f124 := (R111_9.other W113 (Or.inl ne115))
      have f125 := (R111_10.other W113 (Or.inl ne115))
      have f126 := (R111_12.other W113 (Ne.symm H24))
      have f127 := (R111_13.other W113 (Ne.symm H25))
      have f128 := (R111_14.other W113 (Ne.symm H27))
      have ne129 : ah ≠ al := own_ne_arv H15 H11 (by decide)
      have f130 := (R111_15.other W113 ne129)
      have z132 : n0 ≤ h113.size := (Nat.le_trans (Nat.le_trans Z0 K111.1) (Nat.le_of_eq W113.size.symm))
      obtain ⟨cq131, q131, q131'⟩ := f114.cell
      obtain ⟨_, _, ⟨T131, L131, k131, n131⟩, -, X131, ⟨Lc131, hQ131, l131, y131, z131⟩, st131⟩ := X113.privateBack hx (y := (⟨"com/example/prequential/prequential/measure/ScoreMultiset", "settle", "(II)I"⟩ : MethodName)) hown (mvT hZ (own_w hw 46 rfl)) (mvT hZ (own_w hw 47 rfl)) (mvT hZ (own_selp (by decide) (own_w hw 2 rfl) (own_w hw 48 rfl) (own_w hw 47 rfl))) (Cond.privateMethod_at (mvP hZ (own_w hw 48 rfl) (args := #[]))) (mvT hZ (own_w hw 49 rfl)) (by decide) (backOf (W := 0) (rm6 l Z a0 hw [] a1 p2 (1 : Int32) ak ro u2111 (0 : Int32) r2111 al kl (own_p lL2111 p2 v2111) ar kr lR2111 ac kc lC2111 au ku lT2111 ah kh lH2111 h113 n0 z132 f114 f116 f117 f118 f119 f120 f121 f122 f123 f124 f125 V113 f126 f127 f128 f130 H19 H20 H22 H23 H17 H24 H25 H26 H27 H28 H29 H35 (own_rngp R111_17 R111_22) R111_18 R111_19 R111_20 R111_21) hZ (own_w hw 49 rfl) (own_w hw 3 rfl) (by decide) (by decide)) (g := (mkF m 93 #[.val (.ref a1), .val (.int p2), .val (.double xv), .second, .val (.int v2111)] [(.int (1 : Int32)), (.int p2), (.ref a1)])) rfl (by rw [hml]; rfl) (Steps.refl _) (a := a1) (by rw [e113]; exact q131) q131' (argsL := [(.int p2), (.int (1 : Int32))]) (rest := []) (lenOf pd_0 rfl) rfl (by show 2 * 0 + _ ≤ _; exact Nat.le_of_eq rfl) (hb hby d4_93) (fun _ _ => ⟨rfl, e113, (by decide : 0 + 0 ≤ _), (by decide : 0 + 0 ≤ _)⟩)
      dsimp only [Pt.U, Pt.locs, Pt.cells, Pt.slots] at X131 l131 y131 z131 st131 hQ131
      subst l131 y131 z131
      obtain ⟨rfl, Nq131, K131, R131_1, R131_2, R131_3, R131_4, R131_5, R131_6, R131_7, R131_8, R131_9, R131_10, R131_11, R131_12, R131_13, R131_14, R131_15, R131_16, R131_17, R131_18, R131_19⟩ := hQ131
      have N131 := Fr.app N113 Nq131
      have ne133 : ac ≠ ah := own_ne_arv H13 H15 (by decide)
      have ne134 : a1 ≠ ac := Exa.neArv f114 f127 (own_w hw 2 rfl)
      have f135 := (f127.keep K131 (ninS (Ne.symm ne134) (ninS (Ne.symm H25) (ninS (Ne.symm H26) (ninS H29 (ninS ne133 nin0))))))
      have ne136 : al ≠ ak := own_ne_kv H11 H16 (by decide)
      have ne137 : ah ≠ ak := own_ne_kv H15 H16 (by decide)
      have ne138 : au ≠ ak := own_ne_kv H14 H16 (by decide)
      have ne139 : ar ≠ ak := own_ne_kv H12 H16 (by decide)
      have ne140 : a1 ≠ ak := own_ne_kar (H0.keep K111) (own_w hw 2 rfl) R111_16
      have f141 := ((R111_16.other W113 (Ne.symm ne136)).keep K131 (ninS (Ne.symm ne140) (ninS (Ne.symm ne136) (ninS (Ne.symm ne139) (ninS (Ne.symm ne138) (ninS (Ne.symm ne137) nin0))))))
      obtain ⟨fs, hr, hrun, hended, hW, hsame⟩ := X131.leave (v := some (.int (own_set (own_p lL2111 p2 v2111) lR2111 lC2111 lT2111 lH2111 r2111 p2 (1 : Int32)).2)) (fun h => by rw [Bd.returns] at h; cases h) (BodyLoose.notSynchronized Bd)
      refine ⟨_, _, pre107 _ ?_, hrun, hended, _, _, rfl, ?_, ⟨_, rfl⟩, hW, hsame.mono (by decide) (by decide)⟩
      · skip
        show Steps p.tables e below (T104.setTop (mkF m 18 #[.val (.ref a1), .val (.int p2), .val (.double xv), .second, .unset] [(.int (cc xi (own_gk kK p2)))])) _
        refine XS.ifNo X104.here hx rfl (hb hby d4_18) rfl ((if0 _ _).trans (tlt (hc18_108 : (cc xi (own_gk kK p2)) < (0 : Int32))).2.1) ?_
        refine XS.aloadN X104.here hx rfl (hb hby d4_21) rfl rfl ?_
        refine XS.aloadN X104.here hx rfl (hb hby d4_22) rfl rfl ?_
        refine st109 _ ?_
        refine XS.iloadN X109.here hx rfl (hb hby d4_26) rfl ?_
        show Steps p.tables e below (T109.setTop (mkF m 27 #[.val (.ref a1), .val (.int p2), .val (.double xv), .second, .unset] [(.int p2), (.ref al), (.ref a1)])) _
        refine own_ia X109 hx hZ e109 H11 H35 (hb hby d4_27) ?_
        show Steps p.tables e below (T109.setTop (mkF m 28 #[.val (.ref a1), .val (.int p2), .val (.double xv), .second, .unset] [(.int (own_g lL p2)), (.ref a1)])) _
        refine XS.dloadN X109.here hx rfl (hb hby d4_28) rfl ?_
        show Steps p.tables e below (T109.setTop (mkF m 29 #[.val (.ref a1), .val (.int p2), .val (.double xv), .second, .unset] [(.double xv), (.int (own_g lL p2)), (.ref a1)])) _
        refine st111.trans ?_
        show Steps p.tables e below (T111.setTop (mkF m 32 #[.val (.ref a1), .val (.int p2), .val (.double xv), .second, .unset] [(.int v2111)])) _
        refine XS.istore X111.here hx rfl (hb hby d4_32) rfl (l' := #[.val (.ref a1), .val (.int p2), .val (.double xv), .second, .val (.int v2111)]) rfl ?_
        refine XS.aloadN X111.here hx rfl (hb hby d4_34) rfl rfl ?_
        refine st112 _ ?_
        refine XS.iloadN X112.here hx rfl (hb hby d4_38) rfl ?_
        refine XS.iload X112.here hx rfl (hb hby d4_39) rfl ?_
        refine st113 _ ?_
        refine XS.goto X113.here hx rfl (pc0 := 42) (pc' := 90) rfl (hb hby d4_42) (by decide) (by decide) ?_
        refine XS.aloadN X113.here hx rfl (hb hby d4_90) rfl rfl ?_
        refine XS.iloadN X113.here hx rfl (hb hby d4_91) rfl ?_
        refine XS.iconst X113.here hx rfl (hb hby d4_92) ?_
        show Steps p.tables e below (T113.setTop (mkF m 93 #[.val (.ref a1), .val (.int p2), .val (.double xv), .second, .val (.int v2111)] [(.int (1 : Int32)), (.int p2), (.ref a1)])) _
        refine st131.trans ?_
        show Steps p.tables e below (T131.setTop (mkF m 96 #[.val (.ref a1), .val (.int p2), .val (.double xv), .second, .val (.int v2111)] [(.int (own_set (own_p lL2111 p2 v2111) lR2111 lC2111 lT2111 lH2111 r2111 p2 (1 : Int32)).2)])) _
        exact retI X131 hx Bd.returns (hb hby d4_96) hr
      · show Q4d2 Z a1 p2 xv ak ro u_ rs al kl lL ar kr lR ac kc lC au ku lT ah kh lH kk kK val cc xi h0 n0 _ T131.heap _
        exact ⟨((own_set (own_p lL2111 p2 v2111) lR2111 lC2111 lT2111 lH2111 r2111 p2 (1 : Int32)).1.1.1), ((own_set (own_p lL2111 p2 v2111) lR2111 lC2111 lT2111 lH2111 r2111 p2 (1 : Int32)).1.1.2.1), lC2111, ((own_set (own_p lL2111 p2 v2111) lR2111 lC2111 lT2111 lH2111 r2111 p2 (1 : Int32)).1.1.2.2.1), ((own_set (own_p lL2111 p2 v2111) lR2111 lC2111 lT2111 lH2111 r2111 p2 (1 : Int32)).1.1.2.2.2), kK2111, u2111, ((own_set (own_p lL2111 p2 v2111) lR2111 lC2111 lT2111 lH2111 r2111 p2 (1 : Int32)).1.2), ((own_set (own_p lL2111 p2 v2111) lR2111 lC2111 lT2111 lH2111 r2111 p2 (1 : Int32)).2), rfl, N131, ((((Keep.refl h0 [a1, ak, al, ar, ac, au, ah]).trans K111 (allS (P := (fun x => x ∈ [a1, ak, al, ar, ac, au, ah] ∨ h0.size ≤ x)) (Or.inl (List.mem_of_getElem? (i := 0) rfl)) (allS (P := (fun x => x ∈ [a1, ak, al, ar, ac, au, ah] ∨ h0.size ≤ x)) (Or.inl (List.mem_of_getElem? (i := 1) rfl)) (allS (P := (fun x => x ∈ [a1, ak, al, ar, ac, au, ah] ∨ h0.size ≤ x)) (Or.inl (List.mem_of_getElem? (i := 2) rfl)) (allS (P := (fun x => x ∈ [a1, ak, al, ar, ac, au, ah] ∨ h0.size ≤ x)) (Or.inl (List.mem_of_getElem? (i := 3) rfl)) (allS (P := (fun x => x ∈ [a1, ak, al, ar, ac, au, ah] ∨ h0.size ≤ x)) (Or.inl (List.mem_of_getElem? (i := 4) rfl)) (allS (P := (fun x => x ∈ [a1, ak, al, ar, ac, au, ah] ∨ h0.size ≤ x)) (Or.inl (List.mem_of_getElem? (i := 5) rfl)) (allS (P := (fun x => x ∈ [a1, ak, al, ar, ac, au, ah] ∨ h0.size ≤ x)) (Or.inl (List.mem_of_getElem? (i := 6) rfl)) all0)))))))).wr W113 (Or.inl (List.mem_of_getElem? (i := 2) rfl))).trans K131 (allS (P := (fun x => x ∈ [a1, ak, al, ar, ac, au, ah] ∨ h0.size ≤ x)) (Or.inl (List.mem_of_getElem? (i := 0) rfl)) (allS (P := (fun x => x ∈ [a1, ak, al, ar, ac, au, ah] ∨ h0.size ≤ x)) (Or.inl (List.mem_of_getElem? (i := 2) rfl)) (allS (P := (fun x => x ∈ [a1, ak, al, ar, ac, au, ah] ∨ h0.size ≤ x)) (Or.inl (List.mem_of_getElem? (i := 3) rfl)) (allS (P := (fun x => x ∈ [a1, ak, al, ar, ac, au, ah] ∨ h0.size ≤ x)) (Or.inl (List.mem_of_getElem? (i := 5) rfl)) (allS (P := (fun x => x ∈ [a1, ak, al, ar, ac, au, ah] ∨ h0.size ≤ x)) (Or.inl (List.mem_of_getElem? (i := 6) rfl)) all0)))))), R131_1, R131_2, R131_3, R131_4, R131_5, R131_6, R131_7, R131_8, R131_9, R131_10, R131_11, R131_12, f135, R131_13, R131_14, f141, R131_15, R131_16, R111_19, R131_17, R131_18, R131_19, (by simp only [own_ins2, own_insS, own_new, own_il, own_ir, own_fin, own_fw, eq_false hc1_102, eq_true hc18_108, R111_23, if_true, if_false])⟩
    · skip
      obtain ⟨T142, X142, e142, st142⟩ := getF X104 hx hZ hown (host := "") (Or.inl (own_w hw 11 rfl)) Via.refl e104 H1 (g := (mkF m 47 #[.val (.ref a1), .val (.int p2), .val (.double xv), .second, .unset] [(.ref a1), (.double xv)])) rfl rfl (hb hby d4_47)
      have dq144 : cmpValue (FP.dcmp xv (val (own_gk kK p2))) .l = (cc xi (own_gk kK p2)) := (own_dc H38 H40 H39 (own_way_k H37 hc1_102))
      have pre145 : ∀ t, Steps p.tables e below (T142.setTop (mkF m 53 #[.val (.ref a1), .val (.int p2), .val (.double xv), .second, .unset] [(.int (cc xi (own_gk kK p2)))])) t → Steps p.tables e below (s₁.setTop (entryFrame m #[(.ref a1), (.int p2), (.double xv)] 5)) t := fun t kt => by
        refine pre107 t ?_
        show Steps p.tables e below (T104.setTop (mkF m 18 #[.val (.ref a1), .val (.int p2), .val (.double xv), .second, .unset] [(.int (cc xi (own_gk kK p2)))])) _
        refine XS.ifYes X104.here hx rfl (pc0 := 18) (pc' := 45) rfl (hb hby d4_18) rfl ((if0 _ _).trans (flt (hc18_108 : ¬ ((cc xi (own_gk kK p2)) < (0 : Int32)))).2.1) (by decide) (by decide) ?_
        refine XS.dloadN X104.here hx rfl (hb hby d4_45) rfl ?_
        refine XS.aloadN X104.here hx rfl (hb hby d4_46) rfl rfl ?_
        refine st142 _ ?_
        refine XS.iloadN X142.here hx rfl (hb hby d4_50) rfl ?_
        show Steps p.tables e below (T142.setTop (mkF m 51 #[.val (.ref a1), .val (.int p2), .val (.double xv), .second, .unset] [(.int p2), (.ref ak), (.double xv)])) _
        refine own_da X142 hx hZ e142 H16 H35 (hb hby d4_51) ?_
        show Steps p.tables e below (T142.setTop (mkF m 52 #[.val (.ref a1), .val (.int p2), .val (.double xv), .second, .unset] [(.double (val (own_gk kK p2))), (.double xv)])) _
        refine XS.dcmpS X142.here hx rfl (hb hby d4_52) rfl dq144 ?_
        show Steps p.tables e below (T142.setTop (mkF m 53 #[.val (.ref a1), .val (.int p2), .val (.double xv), .second, .unset] [(.int (cc xi (own_gk kK p2)))])) _
        exact kt
      by_cases hc53_146 : (0 : Int32) < (cc xi (own_gk kK p2))
      · skip
        obtain ⟨T147, X147, e147, st147⟩ := getF X142 hx hZ hown (host := "") (Or.inl (own_w hw 16 rfl)) Via.refl e142 H3 (g := (mkF m 58 #[.val (.ref a1), .val (.int p2), .val (.double xv), .second, .unset] [(.ref a1), (.ref a1)])) rfl rfl (hb hby d4_58)
        obtain ⟨cq149, q149, q149'⟩ := H0.cell
        obtain ⟨_, _, ⟨T149, L149, k149, n149⟩, -, X149, ⟨Lc149, hQ149, l149, y149, z149⟩, st149⟩ := X147.privateBack hx (y := (⟨"com/example/prequential/prequential/measure/ScoreMultiset", "insert", "(ID)I"⟩ : MethodName)) hown (mvT hZ (own_w hw 38 rfl)) (mvT hZ (own_w hw 39 rfl)) (mvT hZ (own_selp (by decide) (own_w hw 2 rfl) (own_w hw 40 rfl) (own_w hw 39 rfl))) (Cond.privateMethod_at (mvP hZ (own_w hw 40 rfl) (args := #[]))) (mvT hZ (own_w hw 41 rfl)) (by decide) (backOf (W := 0) (rm4d1 l Z a0 hw [] a1 (own_g lR p2) xv ak ro u_ rs al kl lL ar kr lR ac kc lC au ku lT ah kh lH kk kK val cc xi h0 n0 Z0 H0 H1 H2 H3 H4 H5 H6 H7 H8 H9 H10 H11 H12 H13 H14 H15 H16 H17 H18 H19 H20 H21 H22 H23 H24 H25 H26 H27 H28 H29 H30 H31 H32 H33 H34 (H31.2 _) H36 (own_way_r H37 hc1_102 hc18_108 hc53_146) H38 H39 H40) hZ (own_w hw 41 rfl) (own_w hw 3 rfl) (by decide) (by decide)) (g := (mkF m 64 #[.val (.ref a1), .val (.int p2), .val (.double xv), .second, .unset] [(.double xv), (.int (own_g lR p2)), (.ref a1)])) rfl (by rw [hml]; rfl) (Steps.refl _) (a := a1) (by rw [e147]; exact q149) q149' (argsL := [(.int (own_g lR p2)), (.double xv)]) (rest := []) (lenOf pd_4 rfl) rfl (by show 2 * 0 + _ ≤ _; exact Nat.le_of_eq rfl) (hb hby d4_64) (fun _ _ => ⟨rfl, e147, (by decide : 0 + 0 ≤ _), (by decide : 0 + 0 ≤ _)⟩)
        dsimp only [Pt.U, Pt.locs, Pt.cells, Pt.slots] at X149 l149 y149 z149 st149 hQ149
        subst l149 y149 z149
        obtain ⟨lL2149, lR2149, lC2149, lT2149, lH2149, kK2149, u2149, r2149, v2149, rfl, Nq149, K149, R149_1, R149_2, R149_3, R149_4, R149_5, R149_6, R149_7, R149_8, R149_9, R149_10, R149_11, R149_12, R149_13, R149_14, R149_15, R149_16, R149_17, R149_18, R149_19, R149_20, R149_21, R149_22, R149_23⟩ := hQ149
        have N149 := Fr.app N0 Nq149
        obtain ⟨T150, X150, e150, st150⟩ := getF X149 hx hZ hown (host := "") (Or.inl (own_w hw 16 rfl)) Via.refl rfl R149_3 (g := (mkF m 70 #[.val (.ref a1), .val (.int p2), .val (.double xv), .second, .val (.int v2149)] [(.ref a1)])) rfl rfl (hb hby d4_70)
        obtain ⟨cl151, Ar151, qc151, S151, M151, Hh151, G151⟩ := id R149_12
        have hin151 : ¬ (p2 < 0 ∨ cl151.slots.size ≤ (p2).toNatClampNeg) := inb_of S151 H35
        obtain ⟨T151, h151, X151, e151, W151, st151⟩ := stI X150 hx hZ e150 Ar151 (j := p2) hin151 (g := (mkF m 76 #[.val (.ref a1), .val (.int p2), .val (.double xv), .second, .val (.int v2149)] [(.int v2149), (.int p2), (.ref ar)])) rfl rfl (hb hby d4_76)
        have V151 : Arv Z h151 ar kr .int (16 : Int32) (own_v (own_p lR2149 p2 v2149)) (.int (0 : Int32)) := by rw [own_vp]; exact Arv.set Ar151 qc151 S151 M151 Hh151 G151 rfl W151 p2.toNatClampNeg (rfl) (own_vlt H35 R149_18.1)
        have N151 := Fr.snoc X151 N149 H20
        have f152 := ((H0.keep K149).wr W151)
        have ne153 : a1 ≠ ar := Exa.neArv f152 V151 (own_w hw 2 rfl)
        have f154 := (R149_1.other W151 (Or.inl ne153))
        have f155 := (R149_2.other W151 (Or.inl ne153))
        have f156 := (R149_3.other W151 (Or.inl ne153))
        have f157 := (R149_4.other W151 (Or.inl ne153))
        have f158 := (R149_5.other W151 (Or.inl ne153))
        have f159 := (R149_6.other W151 (Or.inl ne153))
        have f160 := (R149_7.other W151 (Or.inl ne153))
        have f161 := (R149_8.other W151 (Or.inl ne153))
        have f162 := (R149_9.other W151 (Or.inl ne153))
        have f163 := (R149_10.other W151 (Or.inl ne153))
        have f164 := (R149_11.other W151 H24)
        have f165 := (R149_13.other W151 (Ne.symm H26))
        have f166 := (R149_14.other W151 (Ne.symm H28))
        have ne167 : ah ≠ ar := own_ne_arv H15 H12 (by decide)
        have f168 := (R149_15.other W151 ne167)
        have z170 : n0 ≤ h151.size := (Nat.le_trans (Nat.le_trans Z0 K149.1) (Nat.le_of_eq W151.size.symm))
        obtain ⟨cq169, q169, q169'⟩ := f152.cell
        obtain ⟨_, _, ⟨T169, L169, k169, n169⟩, -, X169, ⟨Lc169, hQ169, l169, y169, z169⟩, st169⟩ := X151.privateBack hx (y := (⟨"com/example/prequential/prequential/measure/ScoreMultiset", "settle", "(II)I"⟩ : MethodName)) hown (mvT hZ (own_w hw 46 rfl)) (mvT hZ (own_w hw 47 rfl)) (mvT hZ (own_selp (by decide) (own_w hw 2 rfl) (own_w hw 48 rfl) (own_w hw 47 rfl))) (Cond.privateMethod_at (mvP hZ (own_w hw 48 rfl) (args := #[]))) (mvT hZ (own_w hw 49 rfl)) (by decide) (backOf (W := 0) (rm6 l Z a0 hw [] a1 p2 (1 : Int32) ak ro u2149 (0 : Int32) r2149 al kl lL2149 ar kr (own_p lR2149 p2 v2149) ac kc lC2149 au ku lT2149 ah kh lH2149 h151 n0 z170 f152 f154 f155 f156 f157 f158 f159 f160 f161 f162 f163 f164 V151 f165 f166 f168 H19 H20 H22 H23 H17 H24 H25 H26 H27 H28 H29 H35 R149_17 (own_rngp R149_18 R149_22) R149_19 R149_20 R149_21) hZ (own_w hw 49 rfl) (own_w hw 3 rfl) (by decide) (by decide)) (g := (mkF m 93 #[.val (.ref a1), .val (.int p2), .val (.double xv), .second, .val (.int v2149)] [(.int (1 : Int32)), (.int p2), (.ref a1)])) rfl (by rw [hml]; rfl) (Steps.refl _) (a := a1) (by rw [e151]; exact q169) q169' (argsL := [(.int p2), (.int (1 : Int32))]) (rest := []) (lenOf pd_0 rfl) rfl (by show 2 * 0 + _ ≤ _; exact Nat.le_of_eq rfl) (hb hby d4_93) (fun _ _ => ⟨rfl, e151, (by decide : 0 + 0 ≤ _), (by decide : 0 + 0 ≤ _)⟩)
        dsimp only [Pt.U, Pt.locs, Pt.cells, Pt.slots] at X169 l169 y169 z169 st169 hQ169
        subst l169 y169 z169
        obtain ⟨rfl, Nq169, K169, R169_1, R169_2, R169_3, R169_4, R169_5, R169_6, R169_7, R169_8, R169_9, R169_10, R169_11, R169_12, R169_13, R169_14, R169_15, R169_16, R169_17, R169_18, R169_19⟩ := hQ169
        have N169 := Fr.app N151 Nq169
        have ne171 : ac ≠ ah := own_ne_arv H13 H15 (by decide)
        have ne172 : a1 ≠ ac := Exa.neArv f152 f165 (own_w hw 2 rfl)
        have f173 := (f165.keep K169 (ninS (Ne.symm ne172) (ninS (Ne.symm H25) (ninS (Ne.symm H26) (ninS H29 (ninS ne171 nin0))))))
        have ne174 : ar ≠ ak := own_ne_kv H12 H16 (by decide)
        have ne175 : ah ≠ ak := own_ne_kv H15 H16 (by decide)
        have ne176 : au ≠ ak := own_ne_kv H14 H16 (by decide)
        have ne177 : al ≠ ak := own_ne_kv H11 H16 (by decide)
        have ne178 : a1 ≠ ak := own_ne_kar (H0.keep K149) (own_w hw 2 rfl) R149_16
        have f179 := ((R149_16.other W151 (Ne.symm ne174)).keep K169 (ninS (Ne.symm ne178) (ninS (Ne.symm ne177) (ninS (Ne.symm ne174) (ninS (Ne.symm ne176) (ninS (Ne.symm ne175) nin0))))))
        obtain ⟨fs, hr, hrun, hended, hW, hsame⟩ := X169.leave (v := some (.int (own_set lL2149 (own_p lR2149 p2 v2149) lC2149 lT2149 lH2149 r2149 p2 (1 : Int32)).2)) (fun h => by rw [Bd.returns] at h; cases h) (BodyLoose.notSynchronized Bd)
        refine ⟨_, _, pre145 _ ?_, hrun, hended, _, _, rfl, ?_, ⟨_, rfl⟩, hW, hsame.mono (by decide) (by decide)⟩
        · skip
          show Steps p.tables e below (T142.setTop (mkF m 53 #[.val (.ref a1), .val (.int p2), .val (.double xv), .second, .unset] [(.int (cc xi (own_gk kK p2)))])) _
          refine XS.ifNo X142.here hx rfl (hb hby d4_53) rfl ((if0 _ _).trans (tlt (hc53_146 : (0 : Int32) < (cc xi (own_gk kK p2)))).2.2.2) ?_
          refine XS.aloadN X142.here hx rfl (hb hby d4_56) rfl rfl ?_
          refine XS.aloadN X142.here hx rfl (hb hby d4_57) rfl rfl ?_
          refine st147 _ ?_
          refine XS.iloadN X147.here hx rfl (hb hby d4_61) rfl ?_
          show Steps p.tables e below (T147.setTop (mkF m 62 #[.val (.ref a1), .val (.int p2), .val (.double xv), .second, .unset] [(.int p2), (.ref ar), (.ref a1)])) _
          refine own_ia X147 hx hZ e147 H12 H35 (hb hby d4_62) ?_
          show Steps p.tables e below (T147.setTop (mkF m 63 #[.val (.ref a1), .val (.int p2), .val (.double xv), .second, .unset] [(.int (own_g lR p2)), (.ref a1)])) _
          refine XS.dloadN X147.here hx rfl (hb hby d4_63) rfl ?_
          show Steps p.tables e below (T147.setTop (mkF m 64 #[.val (.ref a1), .val (.int p2), .val (.double xv), .second, .unset] [(.double xv), (.int (own_g lR p2)), (.ref a1)])) _
          refine st149.trans ?_
          show Steps p.tables e below (T149.setTop (mkF m 67 #[.val (.ref a1), .val (.int p2), .val (.double xv), .second, .unset] [(.int v2149)])) _
          refine XS.istore X149.here hx rfl (hb hby d4_67) rfl (l' := #[.val (.ref a1), .val (.int p2), .val (.double xv), .second, .val (.int v2149)]) rfl ?_
          refine XS.aloadN X149.here hx rfl (hb hby d4_69) rfl rfl ?_
          refine st150 _ ?_
          refine XS.iloadN X150.here hx rfl (hb hby d4_73) rfl ?_
          refine XS.iload X150.here hx rfl (hb hby d4_74) rfl ?_
          refine st151 _ ?_
          refine XS.goto X151.here hx rfl (pc0 := 77) (pc' := 90) rfl (hb hby d4_77) (by decide) (by decide) ?_
          refine XS.aloadN X151.here hx rfl (hb hby d4_90) rfl rfl ?_
          refine XS.iloadN X151.here hx rfl (hb hby d4_91) rfl ?_
          refine XS.iconst X151.here hx rfl (hb hby d4_92) ?_
          show Steps p.tables e below (T151.setTop (mkF m 93 #[.val (.ref a1), .val (.int p2), .val (.double xv), .second, .val (.int v2149)] [(.int (1 : Int32)), (.int p2), (.ref a1)])) _
          refine st169.trans ?_
          show Steps p.tables e below (T169.setTop (mkF m 96 #[.val (.ref a1), .val (.int p2), .val (.double xv), .second, .val (.int v2149)] [(.int (own_set lL2149 (own_p lR2149 p2 v2149) lC2149 lT2149 lH2149 r2149 p2 (1 : Int32)).2)])) _
          exact retI X169 hx Bd.returns (hb hby d4_96) hr
        · show Q4d2 Z a1 p2 xv ak ro u_ rs al kl lL ar kr lR ac kc lC au ku lT ah kh lH kk kK val cc xi h0 n0 _ T169.heap _
          exact ⟨((own_set lL2149 (own_p lR2149 p2 v2149) lC2149 lT2149 lH2149 r2149 p2 (1 : Int32)).1.1.1), ((own_set lL2149 (own_p lR2149 p2 v2149) lC2149 lT2149 lH2149 r2149 p2 (1 : Int32)).1.1.2.1), lC2149, ((own_set lL2149 (own_p lR2149 p2 v2149) lC2149 lT2149 lH2149 r2149 p2 (1 : Int32)).1.1.2.2.1), ((own_set lL2149 (own_p lR2149 p2 v2149) lC2149 lT2149 lH2149 r2149 p2 (1 : Int32)).1.1.2.2.2), kK2149, u2149, ((own_set lL2149 (own_p lR2149 p2 v2149) lC2149 lT2149 lH2149 r2149 p2 (1 : Int32)).1.2), ((own_set lL2149 (own_p lR2149 p2 v2149) lC2149 lT2149 lH2149 r2149 p2 (1 : Int32)).2), rfl, N169, ((((Keep.refl h0 [a1, ak, al, ar, ac, au, ah]).trans K149 (allS (P := (fun x => x ∈ [a1, ak, al, ar, ac, au, ah] ∨ h0.size ≤ x)) (Or.inl (List.mem_of_getElem? (i := 0) rfl)) (allS (P := (fun x => x ∈ [a1, ak, al, ar, ac, au, ah] ∨ h0.size ≤ x)) (Or.inl (List.mem_of_getElem? (i := 1) rfl)) (allS (P := (fun x => x ∈ [a1, ak, al, ar, ac, au, ah] ∨ h0.size ≤ x)) (Or.inl (List.mem_of_getElem? (i := 2) rfl)) (allS (P := (fun x => x ∈ [a1, ak, al, ar, ac, au, ah] ∨ h0.size ≤ x)) (Or.inl (List.mem_of_getElem? (i := 3) rfl)) (allS (P := (fun x => x ∈ [a1, ak, al, ar, ac, au, ah] ∨ h0.size ≤ x)) (Or.inl (List.mem_of_getElem? (i := 4) rfl)) (allS (P := (fun x => x ∈ [a1, ak, al, ar, ac, au, ah] ∨ h0.size ≤ x)) (Or.inl (List.mem_of_getElem? (i := 5) rfl)) (allS (P := (fun x => x ∈ [a1, ak, al, ar, ac, au, ah] ∨ h0.size ≤ x)) (Or.inl (List.mem_of_getElem? (i := 6) rfl)) all0)))))))).wr W151 (Or.inl (List.mem_of_getElem? (i := 3) rfl))).trans K169 (allS (P := (fun x => x ∈ [a1, ak, al, ar, ac, au, ah] ∨ h0.size ≤ x)) (Or.inl (List.mem_of_getElem? (i := 0) rfl)) (allS (P := (fun x => x ∈ [a1, ak, al, ar, ac, au, ah] ∨ h0.size ≤ x)) (Or.inl (List.mem_of_getElem? (i := 2) rfl)) (allS (P := (fun x => x ∈ [a1, ak, al, ar, ac, au, ah] ∨ h0.size ≤ x)) (Or.inl (List.mem_of_getElem? (i := 3) rfl)) (allS (P := (fun x => x ∈ [a1, ak, al, ar, ac, au, ah] ∨ h0.size ≤ x)) (Or.inl (List.mem_of_getElem? (i := 5) rfl)) (allS (P := (fun x => x ∈ [a1, ak, al, ar, ac, au, ah] ∨ h0.size ≤ x)) (Or.inl (List.mem_of_getElem? (i := 6) rfl)) all0)))))), R169_1, R169_2, R169_3, R169_4, R169_5, R169_6, R169_7, R169_8, R169_9, R169_10, R169_11, R169_12, f173, R169_13, R169_14, f179, R169_15, R169_16, R149_19, R169_17, R169_18, R169_19, (by simp only [own_ins2, own_insS, own_new, own_il, own_ir, own_fin, own_fw, eq_false hc1_102, eq_false hc18_108, eq_true hc53_146, R149_23, if_true, if_false])⟩
      · skip
        obtain ⟨T180, X180, e180, st180⟩ := getF X142 hx hZ hown (host := "") (Or.inl (own_w hw 18 rfl)) Via.refl e142 H4 (g := (mkF m 81 #[.val (.ref a1), .val (.int p2), .val (.double xv), .second, .unset] [(.ref a1)])) rfl rfl (hb hby d4_81)
        obtain ⟨cl182, Ar182, qc182, S182, M182, Hh182, G182⟩ := id H13
        have hin182 : ¬ (p2 < 0 ∨ cl182.slots.size ≤ (p2).toNatClampNeg) := inb_of S182 H35
        obtain ⟨T182, h182, X182, e182, W182, st182⟩ := stI X180 hx hZ e180 Ar182 (j := p2) hin182 (g := (mkF m 89 #[.val (.ref a1), .val (.int p2), .val (.double xv), .second, .unset] [(.int ((own_g lC p2) + (1 : Int32))), (.int p2), (.ref ac)])) rfl rfl (hb hby d4_89)
        have V182 : Arv Z h182 ac kc .int (16 : Int32) (own_v (own_p lC p2 ((own_g lC p2) + (1 : Int32)))) (.int (0 : Int32)) := by rw [own_vp]; exact Arv.set Ar182 qc182 S182 M182 Hh182 G182 rfl W182 p2.toNatClampNeg (rfl) (own_vlt H35 H32)
        have N182 := Fr.snoc X182 N0 H21
        have f183 := (H0.wr W182)
        have ne184 : a1 ≠ ac := Exa.neArv f183 V182 (own_w hw 2 rfl)
        have f185 := (H1.other W182 (Or.inl ne184))
        have f186 := (H2.other W182 (Or.inl ne184))
        have f187 := (H3.other W182 (Or.inl ne184))
        have f188 := (H4.other W182 (Or.inl ne184))
        have f189 := (H5.other W182 (Or.inl ne184))
        have f190 := (H6.other W182 (Or.inl ne184))
        have f191 := (H7.other W182 (Or.inl ne184))
        have f192 := (H8.other W182 (Or.inl ne184))
        have f193 := (H9.other W182 (Or.inl ne184))
        have f194 := (H10.other W182 (Or.inl ne184))
        have f195 := (H11.other W182 H25)
        have f196 := (H12.other W182 H26)
        have f197 := (H14.other W182 (Ne.symm H29))
        have ne198 : ah ≠ ac := own_ne_arv H15 H13 (by decide)
        have f199 := (H15.other W182 ne198)
        have z201 : n0 ≤ h182.size := (Nat.le_trans Z0 (Nat.le_of_eq W182.size.symm))
        obtain ⟨cq200, q200, q200'⟩ := f183.cell
        obtain ⟨_, _, ⟨T200, L200, k200, n200⟩, -, X200, ⟨Lc200, hQ200, l200, y200, z200⟩, st200⟩ := X182.privateBack hx (y := (⟨"com/example/prequential/prequential/measure/ScoreMultiset", "settle", "(II)I"⟩ : MethodName)) hown (mvT hZ (own_w hw 46 rfl)) (mvT hZ (own_w hw 47 rfl)) (mvT hZ (own_selp (by decide) (own_w hw 2 rfl) (own_w hw 48 rfl) (own_w hw 47 rfl))) (Cond.privateMethod_at (mvP hZ (own_w hw 48 rfl) (args := #[]))) (mvT hZ (own_w hw 49 rfl)) (by decide) (backOf (W := 0) (rm6 l Z a0 hw [] a1 p2 (1 : Int32) ak ro u_ (0 : Int32) rs al kl lL ar kr lR ac kc (own_p lC p2 ((own_g lC p2) + (1 : Int32))) au ku lT ah kh lH h182 n0 z201 f183 f185 f186 f187 f188 f189 f190 f191 f192 f193 f194 f195 f196 V182 f197 f199 H19 H20 H22 H23 H17 H24 H25 H26 H27 H28 H29 H35 H30 H31 (own_16p H32) H33 H34) hZ (own_w hw 49 rfl) (own_w hw 3 rfl) (by decide) (by decide)) (g := (mkF m 93 #[.val (.ref a1), .val (.int p2), .val (.double xv), .second, .unset] [(.int (1 : Int32)), (.int p2), (.ref a1)])) rfl (by rw [hml]; rfl) (Steps.refl _) (a := a1) (by rw [e182]; exact q200) q200' (argsL := [(.int p2), (.int (1 : Int32))]) (rest := []) (lenOf pd_0 rfl) rfl (by show 2 * 0 + _ ≤ _; exact Nat.le_of_eq rfl) (hb hby d4_93) (fun _ _ => ⟨rfl, e182, (by decide : 0 + 0 ≤ _), (by decide : 0 + 0 ≤ _)⟩)
        dsimp only [Pt.U, Pt.locs, Pt.cells, Pt.slots] at X200 l200 y200 z200 st200 hQ200
        subst l200 y200 z200
        obtain ⟨rfl, Nq200, K200, R200_1, R200_2, R200_3, R200_4, R200_5, R200_6, R200_7, R200_8, R200_9, R200_10, R200_11, R200_12, R200_13, R200_14, R200_15, R200_16, R200_17, R200_18, R200_19⟩ := hQ200
        have N200 := Fr.app N182 Nq200
        have f202 := (V182.keep K200 (ninS (Ne.symm ne184) (ninS (Ne.symm H25) (ninS (Ne.symm H26) (ninS H29 (ninS (Ne.symm ne198) nin0))))))
        have ne203 : ac ≠ ak := own_ne_kv H13 H16 (by decide)
        have ne204 : ah ≠ ak := own_ne_kv H15 H16 (by decide)
        have ne205 : au ≠ ak := own_ne_kv H14 H16 (by decide)
        have ne206 : ar ≠ ak := own_ne_kv H12 H16 (by decide)
        have ne207 : al ≠ ak := own_ne_kv H11 H16 (by decide)
        have ne208 : a1 ≠ ak := own_ne_kar H0 (own_w hw 2 rfl) H16
        have f209 := ((H16.other W182 (Ne.symm ne203)).keep K200 (ninS (Ne.symm ne208) (ninS (Ne.symm ne207) (ninS (Ne.symm ne206) (ninS (Ne.symm ne205) (ninS (Ne.symm ne204) nin0))))))
        obtain ⟨fs, hr, hrun, hended, hW, hsame⟩ := X200.leave (v := some (.int (own_set lL lR (own_p lC p2 ((own_g lC p2) + (1 : Int32))) lT lH rs p2 (1 : Int32)).2)) (fun h => by rw [Bd.returns] at h; cases h) (BodyLoose.notSynchronized Bd)
        refine ⟨_, _, pre145 _ ?_, hrun, hended, _, _, rfl, ?_, ⟨_, rfl⟩, hW, hsame.mono (by decide) (by decide)⟩
        · skip
          show Steps p.tables e below (T142.setTop (mkF m 53 #[.val (.ref a1), .val (.int p2), .val (.double xv), .second, .unset] [(.int (cc xi (own_gk kK p2)))])) _
          refine XS.ifYes X142.here hx rfl (pc0 := 53) (pc' := 80) rfl (hb hby d4_53) rfl ((if0 _ _).trans (flt (hc53_146 : ¬ ((0 : Int32) < (cc xi (own_gk kK p2))))).2.2.2) (by decide) (by decide) ?_
          refine XS.aloadN X142.here hx rfl (hb hby d4_80) rfl rfl ?_
          refine st180 _ ?_
          refine XS.iloadN X180.here hx rfl (hb hby d4_84) rfl ?_
          show Steps p.tables e below (T180.setTop (mkF m 85 #[.val (.ref a1), .val (.int p2), .val (.double xv), .second, .unset] [(.int p2), (.ref ac)])) _
          refine XT.dup2 X180.here hx rfl (hb hby d4_85) rfl rfl rfl ?_
          show Steps p.tables e below (T180.setTop (mkF m 86 #[.val (.ref a1), .val (.int p2), .val (.double xv), .second, .unset] [(.int p2), (.ref ac), (.int p2), (.ref ac)])) _
          refine own_ia X180 hx hZ e180 H13 H35 (hb hby d4_86) ?_
          show Steps p.tables e below (T180.setTop (mkF m 87 #[.val (.ref a1), .val (.int p2), .val (.double xv), .second, .unset] [(.int (own_g lC p2)), (.int p2), (.ref ac)])) _
          refine XS.iconst X180.here hx rfl (hb hby d4_87) ?_
          refine XS.iadd X180.here hx rfl (hb hby d4_88) rfl ?_
          refine st182 _ ?_
          refine XS.aloadN X182.here hx rfl (hb hby d4_90) rfl rfl ?_
          refine XS.iloadN X182.here hx rfl (hb hby d4_91) rfl ?_
          refine XS.iconst X182.here hx rfl (hb hby d4_92) ?_
          show Steps p.tables e below (T182.setTop (mkF m 93 #[.val (.ref a1), .val (.int p2), .val (.double xv), .second, .unset] [(.int (1 : Int32)), (.int p2), (.ref a1)])) _
          refine st200.trans ?_
          show Steps p.tables e below (T200.setTop (mkF m 96 #[.val (.ref a1), .val (.int p2), .val (.double xv), .second, .unset] [(.int (own_set lL lR (own_p lC p2 ((own_g lC p2) + (1 : Int32))) lT lH rs p2 (1 : Int32)).2)])) _
          exact retI X200 hx Bd.returns (hb hby d4_96) hr
        · show Q4d2 Z a1 p2 xv ak ro u_ rs al kl lL ar kr lR ac kc lC au ku lT ah kh lH kk kK val cc xi h0 n0 _ T200.heap _
          exact ⟨((own_set lL lR (own_p lC p2 ((own_g lC p2) + (1 : Int32))) lT lH rs p2 (1 : Int32)).1.1.1), ((own_set lL lR (own_p lC p2 ((own_g lC p2) + (1 : Int32))) lT lH rs p2 (1 : Int32)).1.1.2.1), (own_p lC p2 ((own_g lC p2) + (1 : Int32))), ((own_set lL lR (own_p lC p2 ((own_g lC p2) + (1 : Int32))) lT lH rs p2 (1 : Int32)).1.1.2.2.1), ((own_set lL lR (own_p lC p2 ((own_g lC p2) + (1 : Int32))) lT lH rs p2 (1 : Int32)).1.1.2.2.2), kK, u_, ((own_set lL lR (own_p lC p2 ((own_g lC p2) + (1 : Int32))) lT lH rs p2 (1 : Int32)).1.2), ((own_set lL lR (own_p lC p2 ((own_g lC p2) + (1 : Int32))) lT lH rs p2 (1 : Int32)).2), rfl, N200, (((Keep.refl h0 [a1, ak, al, ar, ac, au, ah]).wr W182 (Or.inl (List.mem_of_getElem? (i := 4) rfl))).trans K200 (allS (P := (fun x => x ∈ [a1, ak, al, ar, ac, au, ah] ∨ h0.size ≤ x)) (Or.inl (List.mem_of_getElem? (i := 0) rfl)) (allS (P := (fun x => x ∈ [a1, ak, al, ar, ac, au, ah] ∨ h0.size ≤ x)) (Or.inl (List.mem_of_getElem? (i := 2) rfl)) (allS (P := (fun x => x ∈ [a1, ak, al, ar, ac, au, ah] ∨ h0.size ≤ x)) (Or.inl (List.mem_of_getElem? (i := 3) rfl)) (allS (P := (fun x => x ∈ [a1, ak, al, ar, ac, au, ah] ∨ h0.size ≤ x)) (Or.inl (List.mem_of_getElem? (i := 5) rfl)) (allS (P := (fun x => x ∈ [a1, ak, al, ar, ac, au, ah] ∨ h0.size ≤ x)) (Or.inl (List.mem_of_getElem? (i := 6) rfl)) all0)))))), R200_1, R200_2, R200_3, R200_4, R200_5, R200_6, R200_7, R200_8, R200_9, R200_10, R200_11, R200_12, f202, R200_13, R200_14, f209, R200_15, R200_16, (own_16p H32), R200_17, R200_18, R200_19, (by simp only [own_ins2, own_insS, own_new, own_il, own_ir, own_fin, own_fw, eq_false hc1_102, eq_false hc18_108, eq_false hc53_146, if_true, if_false])⟩
theorem ef_4d3 (m : MethodId) (a1 : Addr) (p2 : Int32) (xv : UInt64) : entryFrame m #[(.ref a1), (.int p2), (.double xv)] 5 = mkF m 0 #[.val (.ref a1), .val (.int p2), .val (.double xv), .second, .unset] [] := by first | (simp [entryFrame, mkF, argsToLocals, Value.category]; done) | rfl
def Q4d3 (Z : State) (a1 : Addr) (p2 : Int32) (xv : UInt64) (ak : Addr) (ro : Int32) (u_ : Int32) (rs : Int32) (al : Addr) (kl : ClassId) (lL : List Int32) (ar : Addr) (kr : ClassId) (lR : List Int32) (ac : Addr) (kc : ClassId) (lC : List Int32) (au : Addr) (ku : ClassId) (lT : List Int32) (ah : Addr) (kh : ClassId) (lH : List Int32) (kk : ClassId) (kK : List Nat) (val : Nat → UInt64) (cc : Nat → Nat → Int32) (xi : Nat) (h0 : Heap) (n0 : Nat) (v : Option Value) (h : Heap) (L : List Loc) : Prop := ∃ (lL2 : List Int32) (lR2 : List Int32) (lC2 : List Int32) (lT2 : List Int32) (lH2 : List Int32) (kK2 : List Nat) (u2 : Int32) (r2 : Int32) (v2 : Int32), v = some (.int v2) ∧ Fr n0 L ∧ Keep h0 h [a1, ak, al, ar, ac, au, ah] ∧ Fld Z h a1 "com/example/prequential/prequential/measure/ScoreMultiset" "key" "[D" (.ref ak) ∧ Fld Z h a1 "com/example/prequential/prequential/measure/ScoreMultiset" "left" "[I" (.ref al) ∧ Fld Z h a1 "com/example/prequential/prequential/measure/ScoreMultiset" "right" "[I" (.ref ar) ∧ Fld Z h a1 "com/example/prequential/prequential/measure/ScoreMultiset" "count" "[I" (.ref ac) ∧ Fld Z h a1 "com/example/prequential/prequential/measure/ScoreMultiset" "total" "[I" (.ref au) ∧ Fld Z h a1 "com/example/prequential/prequential/measure/ScoreMultiset" "height" "[B" (.ref ah) ∧ Fld Z h a1 "com/example/prequential/prequential/measure/ScoreMultiset" "root" "I" (.int ro) ∧ Fld Z h a1 "com/example/prequential/prequential/measure/ScoreMultiset" "unused" "I" (.int u2) ∧ Fld Z h a1 "com/example/prequential/prequential/measure/ScoreMultiset" "freed" "I" (.int (0 : Int32)) ∧ Fld Z h a1 "com/example/prequential/prequential/measure/ScoreMultiset" "reshaped" "Z" (.int r2) ∧ Arv Z h al kl .int (16 : Int32) (own_v lL2) (.int (0 : Int32)) ∧ Arv Z h ar kr .int (16 : Int32) (own_v lR2) (.int (0 : Int32)) ∧ Arv Z h ac kc .int (16 : Int32) (own_v lC2) (.int (0 : Int32)) ∧ Arv Z h au ku .int (16 : Int32) (own_v lT2) (.int (0 : Int32)) ∧ Arv Z h ah kh .byte (16 : Int32) (own_v lH2) (.int (0 : Int32)) ∧ own_Kar Z h ak kk kK2 val ∧ own_rng lL2 ∧ own_rng lR2 ∧ lC2.length = 16 ∧ lT2.length = 16 ∧ lH2.length = 16 ∧ own_in v2 ∧ own_ins3 cc xi (lL, lR, lC, lT, lH, kK, u_, (0 : Int32), rs) p2 = ((lL2, lR2, lC2, lT2, lH2, kK2, u2, (0 : Int32), r2), v2)
set_option maxRecDepth 65536 in
set_option maxHeartbeats 40000000 in
theorem rm4d3 (l : Launch) (Z : State) (a0 : Array Value) (hw : ∀ d ∈ tables_1, d.before a0 Z = true) (ws : List Jvm.Cond) (a1 : Addr) (p2 : Int32) (xv : UInt64) (ak : Addr) (ro : Int32) (u_ : Int32) (rs : Int32) (al : Addr) (kl : ClassId) (lL : List Int32) (ar : Addr) (kr : ClassId) (lR : List Int32) (ac : Addr) (kc : ClassId) (lC : List Int32) (au : Addr) (ku : ClassId) (lT : List Int32) (ah : Addr) (kh : ClassId) (lH : List Int32) (kk : ClassId) (kK : List Nat) (val : Nat → UInt64) (cc : Nat → Nat → Int32) (xi : Nat) (h0 : Heap) (n0 : Nat) (Z0 : n0 ≤ h0.size) (H0 : Exa Z h0 a1 "com/example/prequential/prequential/measure/ScoreMultiset") (H1 : Fld Z h0 a1 "com/example/prequential/prequential/measure/ScoreMultiset" "key" "[D" (.ref ak)) (H2 : Fld Z h0 a1 "com/example/prequential/prequential/measure/ScoreMultiset" "left" "[I" (.ref al)) (H3 : Fld Z h0 a1 "com/example/prequential/prequential/measure/ScoreMultiset" "right" "[I" (.ref ar)) (H4 : Fld Z h0 a1 "com/example/prequential/prequential/measure/ScoreMultiset" "count" "[I" (.ref ac)) (H5 : Fld Z h0 a1 "com/example/prequential/prequential/measure/ScoreMultiset" "total" "[I" (.ref au)) (H6 : Fld Z h0 a1 "com/example/prequential/prequential/measure/ScoreMultiset" "height" "[B" (.ref ah)) (H7 : Fld Z h0 a1 "com/example/prequential/prequential/measure/ScoreMultiset" "root" "I" (.int ro)) (H8 : Fld Z h0 a1 "com/example/prequential/prequential/measure/ScoreMultiset" "unused" "I" (.int u_)) (H9 : Fld Z h0 a1 "com/example/prequential/prequential/measure/ScoreMultiset" "freed" "I" (.int (0 : Int32))) (H10 : Fld Z h0 a1 "com/example/prequential/prequential/measure/ScoreMultiset" "reshaped" "Z" (.int rs)) (H11 : Arv Z h0 al kl .int (16 : Int32) (own_v lL) (.int (0 : Int32))) (H12 : Arv Z h0 ar kr .int (16 : Int32) (own_v lR) (.int (0 : Int32))) (H13 : Arv Z h0 ac kc .int (16 : Int32) (own_v lC) (.int (0 : Int32))) (H14 : Arv Z h0 au ku .int (16 : Int32) (own_v lT) (.int (0 : Int32))) (H15 : Arv Z h0 ah kh .byte (16 : Int32) (own_v lH) (.int (0 : Int32))) (H16 : own_Kar Z h0 ak kk kK val) (H17 : n0 ≤ a1) (H18 : n0 ≤ ak) (H19 : n0 ≤ al) (H20 : n0 ≤ ar) (H21 : n0 ≤ ac) (H22 : n0 ≤ au) (H23 : n0 ≤ ah) (H24 : al ≠ ar) (H25 : al ≠ ac) (H26 : ar ≠ ac) (H27 : al ≠ au) (H28 : ar ≠ au) (H29 : ac ≠ au) (H30 : own_rng lL) (H31 : own_rng lR) (H32 : lC.length = 16) (H33 : lT.length = 16) (H34 : lH.length = 16) (H35 : own_in p2) (H36 : own_in u_) (H37 : own_way3 (cc xi) kK lL lR p2 = true) (H38 : own_cv cc val) (H39 : xi < 5) (H40 : xv = val xi) :
    own_MF l (⟨"com/example/prequential/prequential/measure/ScoreMultiset", "insert", "(ID)I"⟩ : MethodName) (Jvm.Cond.code (⟨"com/example/prequential/prequential/measure/ScoreMultiset", "insert", "(ID)I"⟩ : MethodName) prog_108_method_11_code 5 (some .int) :: ws) ({ frames := 7, cells := 0, slots := 0, locals := 107 } : Room) #[(.ref a1), (.int p2), (.double xv)] Z h0 (Q4d3 Z a1 p2 xv ak ro u_ rs al kl lL ar kr lR ac kc lC au ku lT ah kh lH kk kK val cc xi h0 n0) := by
  refine MetFree.of_bodySF (plainFor_of_name pn_com_example_prequential_prequential_measure_ScoreMultiset) hisR ?_
  intro p e s m args below meth c s₁ Bd hml0 hP hK
  obtain ⟨rfl, hZ, hh⟩ := hP
  have hx := Bd.exec
  have hby := Bd.bytes
  have hml : c.maxLocals = 5 := hml0
  have hown : s.vm.findClass "com/example/prequential/prequential/measure/ScoreMultiset" = some m.cls := findClass_of_methodNamed Bd.named
  have hnm := (name_of_methodNamed Bd.named Bd.method).1
  have X0 : Stand p l e ({ frames := 7, cells := 0, slots := 0, locals := 107 } : Room) s m #[(.ref a1), (.int p2), (.double xv)] below meth c s₁ [] 0 0 := Stand.of_body Bd
  have e0 : s₁.heap = h0 := by rw [← hh, Bd.state]; rfl
  have N0 := Fr.nil n0
  have pre0 : ∀ t, Steps p.tables e below (s₁.setTop (mkF m 0 #[.val (.ref a1), .val (.int p2), .val (.double xv), .second, .unset] [])) t → Steps p.tables e below (s₁.setTop (entryFrame m #[(.ref a1), (.int p2), (.double xv)] 5)) t := fun t k => castTop (ef_4d3 m a1 p2 xv) k
  have pre101 : ∀ t, Steps p.tables e below (s₁.setTop (mkF m 1 #[.val (.ref a1), .val (.int p2), .val (.double xv), .second, .unset] [(.int p2)])) t → Steps p.tables e below (s₁.setTop (entryFrame m #[(.ref a1), (.int p2), (.double xv)] 5)) t := fun t kt => by
    refine pre0 t ?_
    show Steps p.tables e below (s₁.setTop (mkF m 0 #[.val (.ref a1), .val (.int p2), .val (.double xv), .second, .unset] [])) _
    refine XS.iloadN X0.here hx rfl (hb hby d4_0) rfl ?_
    show Steps p.tables e below (s₁.setTop (mkF m 1 #[.val (.ref a1), .val (.int p2), .val (.double xv), .second, .unset] [(.int p2)])) _
    exact kt
  by_cases hc1_102 : p2 = (0 : Int32)
  · skip
    obtain ⟨cq103, q103, q103'⟩ := H0.cell
    obtain ⟨_, _, ⟨T103, L103, k103, n103⟩, -, X103, ⟨Lc103, hQ103, l103, y103, z103⟩, st103⟩ := X0.privateBack hx (y := (⟨"com/example/prequential/prequential/measure/ScoreMultiset", "newNode", "(D)I"⟩ : MethodName)) hown (mvT hZ (own_w hw 42 rfl)) (mvT hZ (own_w hw 43 rfl)) (mvT hZ (own_selp (by decide) (own_w hw 2 rfl) (own_w hw 44 rfl) (own_w hw 43 rfl))) (Cond.privateMethod_at (mvP hZ (own_w hw 44 rfl) (args := #[]))) (mvT hZ (own_w hw 45 rfl)) (by decide) (backOf (W := 0) (rm5 l Z a0 hw [] a1 xv ak ro u_ rs al kl lL ar kr lR ac kc lC au ku lT ah kh lH kk kK val xi h0 n0 Z0 H0 H1 H2 H3 H4 H5 H6 H7 H8 H9 H10 H11 H12 H13 H14 H15 H16 H17 H18 H19 H20 H21 H22 H23 H24 H25 H26 H27 H28 H29 H30 H31 H32 H33 H34 H36 H40) hZ (own_w hw 45 rfl) (own_w hw 3 rfl) (by decide) (by decide)) (g := (mkF m 6 #[.val (.ref a1), .val (.int p2), .val (.double xv), .second, .unset] [(.double xv), (.ref a1)])) rfl (by rw [hml]; rfl) (Steps.refl _) (a := a1) (by rw [e0]; exact q103) q103' (argsL := [(.double xv)]) (rest := []) (lenOf pd_3 rfl) rfl (by show 2 * 0 + _ ≤ _; exact Nat.le_of_eq rfl) (hb hby d4_6) (fun _ _ => ⟨rfl, e0, (by decide : 0 + 0 ≤ _), (by decide : 0 + 0 ≤ _)⟩)
    dsimp only [Pt.U, Pt.locs, Pt.cells, Pt.slots] at X103 l103 y103 z103 st103 hQ103
    subst l103 y103 z103
    obtain ⟨rfl, Nq103, K103, R103_1, R103_2, R103_3, R103_4, R103_5, R103_6, R103_7, R103_8, R103_9, R103_10, R103_11, R103_12, R103_13, R103_14, R103_15, R103_16⟩ := hQ103
    have N103 := Fr.app N0 Nq103
    obtain ⟨fs, hr, hrun, hended, hW, hsame⟩ := X103.leave (v := some (.int u_)) (fun h => by rw [Bd.returns] at h; cases h) (BodyLoose.notSynchronized Bd)
    refine ⟨_, _, pre101 _ ?_, hrun, hended, _, _, rfl, ?_, ⟨_, rfl⟩, hW, hsame.mono (by decide) (by decide)⟩
    · skip
      show Steps p.tables e below (s₁.setTop (mkF m 1 #[.val (.ref a1), .val (.int p2), .val (.double xv), .second, .unset] [(.int p2)])) _
      refine XS.ifNo X0.here hx rfl (hb hby d4_1) rfl ((if0 _ _).trans (teq (hc1_102 : p2 = (0 : Int32))).2) ?_
      refine XS.aloadN X0.here hx rfl (hb hby d4_4) rfl rfl ?_
      refine XS.dloadN X0.here hx rfl (hb hby d4_5) rfl ?_
      show Steps p.tables e below (s₁.setTop (mkF m 6 #[.val (.ref a1), .val (.int p2), .val (.double xv), .second, .unset] [(.double xv), (.ref a1)])) _
      refine st103.trans ?_
      show Steps p.tables e below (T103.setTop (mkF m 9 #[.val (.ref a1), .val (.int p2), .val (.double xv), .second, .unset] [(.int u_)])) _
      exact retI X103 hx Bd.returns (hb hby d4_9) hr
    · show Q4d3 Z a1 p2 xv ak ro u_ rs al kl lL ar kr lR ac kc lC au ku lT ah kh lH kk kK val cc xi h0 n0 _ T103.heap _
      exact ⟨(own_p lL u_ (0 : Int32)), (own_p lR u_ (0 : Int32)), (own_p lC u_ (1 : Int32)), (own_p lT u_ (1 : Int32)), (own_p lH u_ (1 : Int32)), (own_pk kK u_ xi), (u_ + (1 : Int32)), (1 : Int32), u_, rfl, N103, ((Keep.refl h0 [a1, ak, al, ar, ac, au, ah]).trans K103 (allS (P := (fun x => x ∈ [a1, ak, al, ar, ac, au, ah] ∨ h0.size ≤ x)) (Or.inl (List.mem_of_getElem? (i := 0) rfl)) (allS (P := (fun x => x ∈ [a1, ak, al, ar, ac, au, ah] ∨ h0.size ≤ x)) (Or.inl (List.mem_of_getElem? (i := 1) rfl)) (allS (P := (fun x => x ∈ [a1, ak, al, ar, ac, au, ah] ∨ h0.size ≤ x)) (Or.inl (List.mem_of_getElem? (i := 2) rfl)) (allS (P := (fun x => x ∈ [a1, ak, al, ar, ac, au, ah] ∨ h0.size ≤ x)) (Or.inl (List.mem_of_getElem? (i := 3) rfl)) (allS (P := (fun x => x ∈ [a1, ak, al, ar, ac, au, ah] ∨ h0.size ≤ x)) (Or.inl (List.mem_of_getElem? (i := 4) rfl)) (allS (P := (fun x => x ∈ [a1, ak, al, ar, ac, au, ah] ∨ h0.size ≤ x)) (Or.inl (List.mem_of_getElem? (i := 5) rfl)) (allS (P := (fun x => x ∈ [a1, ak, al, ar, ac, au, ah] ∨ h0.size ≤ x)) (Or.inl (List.mem_of_getElem? (i := 6) rfl)) all0)))))))), R103_1, R103_2, R103_3, R103_4, R103_5, R103_6, R103_7, R103_8, R103_9, R103_10, R103_11, R103_12, R103_13, R103_14, R103_15, R103_16, (own_rngp H30 (by decide)), (own_rngp H31 (by decide)), (own_16p H32), (own_16p H33), (own_16p H34), H36, (by simp only [own_ins3, own_insS, own_new, own_il, own_ir, own_fin, own_fw, eq_true hc1_102, if_true, if_false])⟩
  · skip
    obtain ⟨T104, X104, e104, st104⟩ := getF X0 hx hZ hown (host := "") (Or.inl (own_w hw 11 rfl)) Via.refl e0 H1 (g := (mkF m 12 #[.val (.ref a1), .val (.int p2), .val (.double xv), .second, .unset] [(.ref a1), (.double xv)])) rfl rfl (hb hby d4_12)
    have dq106 : cmpValue (FP.dcmp xv (val (own_gk kK p2))) .g = (cc xi (own_gk kK p2)) := (own_dc H38 H40 H39 (own_way_k H37 hc1_102))
    have pre107 : ∀ t, Steps p.tables e below (T104.setTop (mkF m 18 #[.val (.ref a1), .val (.int p2), .val (.double xv), .second, .unset] [(.int (cc xi (own_gk kK p2)))])) t → Steps p.tables e below (s₁.setTop (entryFrame m #[(.ref a1), (.int p2), (.double xv)] 5)) t := fun t kt => by
      refine pre101 t ?_
      show Steps p.tables e below (s₁.setTop (mkF m 1 #[.val (.ref a1), .val (.int p2), .val (.double xv), .second, .unset] [(.int p2)])) _
      refine XS.ifYes X0.here hx rfl (pc0 := 1) (pc' := 10) rfl (hb hby d4_1) rfl ((if0 _ _).trans (feq (hc1_102 : ¬ (p2 = (0 : Int32)))).2) (by decide) (by decide) ?_
      refine XS.dloadN X0.here hx rfl (hb hby d4_10) rfl ?_
      refine XS.aloadN X0.here hx rfl (hb hby d4_11) rfl rfl ?_
      refine st104 _ ?_
      refine XS.iloadN X104.here hx rfl (hb hby d4_15) rfl ?_
      show Steps p.tables e below (T104.setTop (mkF m 16 #[.val (.ref a1), .val (.int p2), .val (.double xv), .second, .unset] [(.int p2), (.ref ak), (.double xv)])) _
      refine own_da X104 hx hZ e104 H16 H35 (hb hby d4_16) ?_
      show Steps p.tables e below (T104.setTop (mkF m 17 #[.val (.ref a1), .val (.int p2), .val (.double xv), .second, .unset] [(.double (val (own_gk kK p2))), (.double xv)])) _
      refine XS.dcmpS X104.here hx rfl (hb hby d4_17) rfl dq106 ?_
      show Steps p.tables e below (T104.setTop (mkF m 18 #[.val (.ref a1), .val (.int p2), .val (.double xv), .second, .unset] [(.int (cc xi (own_gk kK p2)))])) _
      exact kt
    by_cases hc18_108 : (cc xi (own_gk kK p2)) < (0 : Int32)
    · skip
      obtain ⟨T109, X109, e109, st109⟩ := getF X104 hx hZ hown (host := "") (Or.inl (own_w hw 14 rfl)) Via.refl e104 H2 (g := (mkF m 23 #[.val (.ref a1), .val (.int p2), .val (.double xv), .second, .unset] [(.ref a1), (.ref a1)])) rfl rfl (hb hby d4_23)
      obtain ⟨cq111, q111, q111'⟩ := H0.cell
      obtain ⟨_, _, ⟨T111, L111, k111, n111⟩, -, X111, ⟨Lc111, hQ111, l111, y111, z111⟩, st111⟩ := X109.privateBack hx (y := (⟨"com/example/prequential/prequential/measure/ScoreMultiset", "insert", "(ID)I"⟩ : MethodName)) hown (mvT hZ (own_w hw 38 rfl)) (mvT hZ (own_w hw 39 rfl)) (mvT hZ (own_selp (by decide) (own_w hw 2 rfl) (own_w hw 40 rfl) (own_w hw 39 rfl))) (Cond.privateMethod_at (mvP hZ (own_w hw 40 rfl) (args := #[]))) (mvT hZ (own_w hw 41 rfl)) (by decide) (backOf (W := 0) (rm4d2 l Z a0 hw [] a1 (own_g lL p2) xv ak ro u_ rs al kl lL ar kr lR ac kc lC au ku lT ah kh lH kk kK val cc xi h0 n0 Z0 H0 H1 H2 H3 H4 H5 H6 H7 H8 H9 H10 H11 H12 H13 H14 H15 H16 H17 H18 H19 H20 H21 H22 H23 H24 H25 H26 H27 H28 H29 H30 H31 H32 H33 H34 (H30.2 _) H36 (own_way_l H37 hc1_102 hc18_108) H38 H39 H40) hZ (own_w hw 41 rfl) (own_w hw 3 rfl) (by decide) (by decide)) (g := (mkF m 29 #[.val (.ref a1), .val (.int p2), .val (.double xv), .second, .unset] [(.double xv), (.int (own_g lL p2)), (.ref a1)])) rfl (by rw [hml]; rfl) (Steps.refl _) (a := a1) (by rw [e109]; exact q111) q111' (argsL := [(.int (own_g lL p2)), (.double xv)]) (rest := []) (lenOf pd_4 rfl) rfl (by show 2 * 0 + _ ≤ _; exact Nat.le_of_eq rfl) (hb hby d4_29) (fun _ _ => ⟨rfl, e109, (by decide : 0 + 0 ≤ _), (by decide : 0 + 0 ≤ _)⟩)
      dsimp only [Pt.U, Pt.locs, Pt.cells, Pt.slots] at X111 l111 y111 z111 st111 hQ111
      subst l111 y111 z111
      obtain ⟨lL2111, lR2111, lC2111, lT2111, lH2111, kK2111, u2111, r2111, v2111, rfl, Nq111, K111, R111_1, R111_2, R111_3, R111_4, R111_5, R111_6, R111_7, R111_8, R111_9, R111_10, R111_11, R111_12, R111_13, R111_14, R111_15, R111_16, R111_17, R111_18, R111_19, R111_20, R111_21, R111_22, R111_23⟩ := hQ111
      have N111 := Fr.app N0 Nq111
      obtain ⟨T112, X112, e112, st112⟩ := getF X111 hx hZ hown (host := "") (Or.inl (own_w hw 14 rfl)) Via.refl rfl R111_2 (g := (mkF m 35 #[.val (.ref a1), .val (.int p2), .val (.double xv), .second, .val (.int v2111)] [(.ref a1)])) rfl rfl (hb hby d4_35)
      obtain ⟨cl113, Ar113, qc113, S113, M113, Hh113, G113⟩ := id R111_11
      have hin113 : ¬ (p2 < 0 ∨ cl113.slots.size ≤ (p2).toNatClampNeg) := inb_of S113 H35
      obtain ⟨T113, h113, X113, e113, W113, st113⟩ := stI X112 hx hZ e112 Ar113 (j := p2) hin113 (g := (mkF m 41 #[.val (.ref a1), .val (.int p2), .val (.double xv), .second, .val (.int v2111)] [(.int v2111), (.int p2), (.ref al)])) rfl rfl (hb hby d4_41)
      have V113 : Arv Z h113 al kl .int (16 : Int32) (own_v (own_p lL2111 p2 v2111)) (.int (0 : Int32)) := by rw [own_vp]; exact Arv.set Ar113 qc113 S113 M113 Hh113 G113 rfl W113 p2.toNatClampNeg (rfl) (own_vlt H35 R111_17.1)
      have N113 := Fr.snoc X113 N111 H19
      have f114 := ((H0.keep K111).wr W113)
      have ne115 : a1 ≠ al := Exa.neArv f114 V113 (own_w hw 2 rfl)
      have f116 := (R111_1.other W113 (Or.inl ne115))
      have f117 := (R111_2.other W113 (Or.inl ne115))
      have f118 := (R111_3.other W113 (Or.inl ne115))
      have f119 := (R111_4.other W113 (Or.inl ne115))
      have f120 := (R111_5.other W113 (Or.inl ne115))
      have f121 := (R111_6.other W113 (Or.inl ne115))
      have f122 := (R111_7.other W113 (Or.inl ne115))
      have f123 := (R111_8.other W113 (Or.inl ne115))
      have f124 := (R111_9.other W113 (Or.inl ne115))
      have f125 := (R111_10.other W113 (Or.inl ne115))
      have f126 := (R111_12.other W113 (Ne.symm H24))
      have f127 := (R111_13.other W113 (Ne.symm H25))
      have f128 := (R111_14.other W113 (Ne.symm H27))
      have ne129 : ah ≠ al := own_ne_arv H15 H11 (by decide)
      have f130 := (R111_15.other W113 ne129)
      have z132 : n0 ≤ h113.size := (Nat.le_trans (Nat.le_trans Z0 K111.1) (Nat.le_of_eq W113.size.symm))
      obtain ⟨cq131, q131, q131'⟩ := f114.cell
      obtain ⟨_, _, ⟨T131, L131, k131, n131⟩, -, X131, ⟨Lc131, hQ131, l131, y131, z131⟩, st131⟩ := X113.privateBack hx (y := (⟨"com/example/prequential/prequential/measure/ScoreMultiset", "settle", "(II)I"⟩ : MethodName)) hown (mvT hZ (own_w hw 46 rfl)) (mvT hZ (own_w hw 47 rfl)) (mvT hZ (own_selp (by decide) (own_w hw 2 rfl) (own_w hw 48 rfl) (own_w hw 47 rfl))) (Cond.privateMethod_at (mvP hZ (own_w hw 48 rfl) (args := #[]))) (mvT hZ (own_w hw 49 rfl)) (by decide) (backOf (W := 0) (rm6 l Z a0 hw [] a1 p2 (1 : Int32) ak ro u2111 (0 : Int32) r2111 al kl (own_p lL2111 p2 v2111) ar kr lR2111 ac kc lC2111 au ku lT2111 ah kh lH2111 h113 n0 z132 f114 f116 f117 f118 f119 f120 f121 f122 f123 f124 f125 V113 f126 f127 f128 f130 H19 H20 H22 H23 H17 H24 H25 H26 H27 H28 H29 H35 (own_rngp R111_17 R111_22) R111_18 R111_19 R111_20 R111_21) hZ (own_w hw 49 rfl) (own_w hw 3 rfl) (by decide) (by decide)) (g := (mkF m 93 #[.val (.ref a1), .val (.int p2), .val (.double xv), .second, .val (.int v2111)] [(.int (1 : Int32)), (.int p2), (.ref a1)])) rfl (by rw [hml]; rfl) (Steps.refl _) (a := a1) (by rw [e113]; exact q131) q131' (argsL := [(.int p2), (.int (1 : Int32))]) (rest := []) (lenOf pd_0 rfl) rfl (by show 2 * 0 + _ ≤ _; exact Nat.le_of_eq rfl) (hb hby d4_93) (fun _ _ => ⟨rfl, e113, (by decide : 0 + 0 ≤ _), (by decide : 0 + 0 ≤ _)⟩)
      dsimp only [Pt.U, Pt.locs, Pt.cells, Pt.slots] at X131 l131 y131 z131 st131 hQ131
      subst l131 y131 z131
      obtain ⟨rfl, Nq131, K131, R131_1, R131_2, R131_3, R131_4, R131_5, R131_6, R131_7, R131_8, R131_9, R131_10, R131_11, R131_12, R131_13, R131_14, R131_15, R131_16, R131_17, R131_18, R131_19⟩ := hQ131
      have N131 := Fr.app N113 Nq131
      have ne133 : ac ≠ ah := own_ne_arv H13 H15 (by decide)
      have ne134 : a1 ≠ ac := Exa.neArv f114 f127 (own_w hw 2 rfl)
      have f135 := (f127.keep K131 (ninS (Ne.symm ne134) (ninS (Ne.symm H25) (ninS (Ne.symm H26) (ninS H29 (ninS ne133 nin0))))))
      have ne136 : al ≠ ak := own_ne_kv H11 H16 (by decide)
      have ne137 : ah ≠ ak := own_ne_kv H15 H16 (by decide)
      have ne138 : au ≠ ak := own_ne_kv H14 H16 (by decide)
      have ne139 : ar ≠ ak := own_ne_kv H12 H16 (by decide)
      have ne140 : a1 ≠ ak := own_ne_kar (H0.keep K111) (own_w hw 2 rfl) R111_16
      have f141 := ((R111_16.other W113 (Ne.symm ne136)).keep K131 (ninS (Ne.symm ne140) (ninS (Ne.symm ne136) (ninS (Ne.symm ne139) (ninS (Ne.symm ne138) (ninS (Ne.symm ne137) nin0))))))
      obtain ⟨fs, hr, hrun, hended, hW, hsame⟩ := X131.leave (v := some (.int (own_set (own_p lL2111 p2 v2111) lR2111 lC2111 lT2111 lH2111 r2111 p2 (1 : Int32)).2)) (fun h => by rw [Bd.returns] at h; cases h) (BodyLoose.notSynchronized Bd)
      refine ⟨_, _, pre107 _ ?_, hrun, hended, _, _, rfl, ?_, ⟨_, rfl⟩, hW, hsame.mono (by decide) (by decide)⟩
      · skip
        show Steps p.tables e below (T104.setTop (mkF m 18 #[.val (.ref a1), .val (.int p2), .val (.double xv), .second, .unset] [(.int (cc xi (own_gk kK p2)))])) _
        refine XS.ifNo X104.here hx rfl (hb hby d4_18) rfl ((if0 _ _).trans (tlt (hc18_108 : (cc xi (own_gk kK p2)) < (0 : Int32))).2.1) ?_
        refine XS.aloadN X104.here hx rfl (hb hby d4_21) rfl rfl ?_
        refine XS.aloadN X104.here hx rfl (hb hby d4_22) rfl rfl ?_
        refine st109 _ ?_
        refine XS.iloadN X109.here hx rfl (hb hby d4_26) rfl ?_
        show Steps p.tables e below (T109.setTop (mkF m 27 #[.val (.ref a1), .val (.int p2), .val (.double xv), .second, .unset] [(.int p2), (.ref al), (.ref a1)])) _
        refine own_ia X109 hx hZ e109 H11 H35 (hb hby d4_27) ?_
        show Steps p.tables e below (T109.setTop (mkF m 28 #[.val (.ref a1), .val (.int p2), .val (.double xv), .second, .unset] [(.int (own_g lL p2)), (.ref a1)])) _
        refine XS.dloadN X109.here hx rfl (hb hby d4_28) rfl ?_
        show Steps p.tables e below (T109.setTop (mkF m 29 #[.val (.ref a1), .val (.int p2), .val (.double xv), .second, .unset] [(.double xv), (.int (own_g lL p2)), (.ref a1)])) _
        refine st111.trans ?_
        show Steps p.tables e below (T111.setTop (mkF m 32 #[.val (.ref a1), .val (.int p2), .val (.double xv), .second, .unset] [(.int v2111)])) _
        refine XS.istore X111.here hx rfl (hb hby d4_32) rfl (l' := #[.val (.ref a1), .val (.int p2), .val (.double xv), .second, .val (.int v2111)]) rfl ?_
        refine XS.aloadN X111.here hx rfl (hb hby d4_34) rfl rfl ?_
        refine st112 _ ?_
        refine XS.iloadN X112.here hx rfl (hb hby d4_38) rfl ?_
        refine XS.iload X112.here hx rfl (hb hby d4_39) rfl ?_
        refine st113 _ ?_
        refine XS.goto X113.here hx rfl (pc0 := 42) (pc' := 90) rfl (hb hby d4_42) (by decide) (by decide) ?_
        refine XS.aloadN X113.here hx rfl (hb hby d4_90) rfl rfl ?_
        refine XS.iloadN X113.here hx rfl (hb hby d4_91) rfl ?_
        refine XS.iconst X113.here hx rfl (hb hby d4_92) ?_
        show Steps p.tables e below (T113.setTop (mkF m 93 #[.val (.ref a1), .val (.int p2), .val (.double xv), .second, .val (.int v2111)] [(.int (1 : Int32)), (.int p2), (.ref a1)])) _
        refine st131.trans ?_
        show Steps p.tables e below (T131.setTop (mkF m 96 #[.val (.ref a1), .val (.int p2), .val (.double xv), .second, .val (.int v2111)] [(.int (own_set (own_p lL2111 p2 v2111) lR2111 lC2111 lT2111 lH2111 r2111 p2 (1 : Int32)).2)])) _
        exact retI X131 hx Bd.returns (hb hby d4_96) hr
      · show Q4d3 Z a1 p2 xv ak ro u_ rs al kl lL ar kr lR ac kc lC au ku lT ah kh lH kk kK val cc xi h0 n0 _ T131.heap _
        exact ⟨((own_set (own_p lL2111 p2 v2111) lR2111 lC2111 lT2111 lH2111 r2111 p2 (1 : Int32)).1.1.1), ((own_set (own_p lL2111 p2 v2111) lR2111 lC2111 lT2111 lH2111 r2111 p2 (1 : Int32)).1.1.2.1), lC2111, ((own_set (own_p lL2111 p2 v2111) lR2111 lC2111 lT2111 lH2111 r2111 p2 (1 : Int32)).1.1.2.2.1), ((own_set (own_p lL2111 p2 v2111) lR2111 lC2111 lT2111 lH2111 r2111 p2 (1 : Int32)).1.1.2.2.2), kK2111, u2111, ((own_set (own_p lL2111 p2 v2111) lR2111 lC2111 lT2111 lH2111 r2111 p2 (1 : Int32)).1.2), ((own_set (own_p lL2111 p2 v2111) lR2111 lC2111 lT2111 lH2111 r2111 p2 (1 : Int32)).2), rfl, N131, ((((Keep.refl h0 [a1, ak, al, ar, ac, au, ah]).trans K111 (allS (P := (fun x => x ∈ [a1, ak, al, ar, ac, au, ah] ∨ h0.size ≤ x)) (Or.inl (List.mem_of_getElem? (i := 0) rfl)) (allS (P := (fun x => x ∈ [a1, ak, al, ar, ac, au, ah] ∨ h0.size ≤ x)) (Or.inl (List.mem_of_getElem? (i := 1) rfl)) (allS (P := (fun x => x ∈ [a1, ak, al, ar, ac, au, ah] ∨ h0.size ≤ x)) (Or.inl (List.mem_of_getElem? (i := 2) rfl)) (allS (P := (fun x => x ∈ [a1, ak, al, ar, ac, au, ah] ∨ h0.size ≤ x)) (Or.inl (List.mem_of_getElem? (i := 3) rfl)) (allS (P := (fun x => x ∈ [a1, ak, al, ar, ac, au, ah] ∨ h0.size ≤ x)) (Or.inl (List.mem_of_getElem? (i := 4) rfl)) (allS (P := (fun x => x ∈ [a1, ak, al, ar, ac, au, ah] ∨ h0.size ≤ x)) (Or.inl (List.mem_of_getElem? (i := 5) rfl)) (allS (P := (fun x => x ∈ [a1, ak, al, ar, ac, au, ah] ∨ h0.size ≤ x)) (Or.inl (List.mem_of_getElem? (i := 6) rfl)) all0)))))))).wr W113 (Or.inl (List.mem_of_getElem? (i := 2) rfl))).trans K131 (allS (P := (fun x => x ∈ [a1, ak, al, ar, ac, au, ah] ∨ h0.size ≤ x)) (Or.inl (List.mem_of_getElem? (i := 0) rfl)) (allS (P := (fun x => x ∈ [a1, ak, al, ar, ac, au, ah] ∨ h0.size ≤ x)) (Or.inl (List.mem_of_getElem? (i := 2) rfl)) (allS (P := (fun x => x ∈ [a1, ak, al, ar, ac, au, ah] ∨ h0.size ≤ x)) (Or.inl (List.mem_of_getElem? (i := 3) rfl)) (allS (P := (fun x => x ∈ [a1, ak, al, ar, ac, au, ah] ∨ h0.size ≤ x)) (Or.inl (List.mem_of_getElem? (i := 5) rfl)) (allS (P := (fun x => x ∈ [a1, ak, al, ar, ac, au, ah] ∨ h0.size ≤ x)) (Or.inl (List.mem_of_getElem? (i := 6) rfl)) all0)))))), R131_1, R131_2, R131_3, R131_4, R131_5, R131_6, R131_7, R131_8, R131_9, R131_10, R131_11, R131_12, f135, R131_13, R131_14, f141, R131_15, R131_16, R111_19, R131_17, R131_18, R131_19, (by simp only [own_ins3, own_insS, own_new, own_il, own_ir, own_fin, own_fw, eq_false hc1_102, eq_true hc18_108, R111_23, if_true, if_false])⟩
    · skip
      obtain ⟨T142, X142, e142, st142⟩ := getF X104 hx hZ hown (host := "") (Or.inl (own_w hw 11 rfl)) Via.refl e104 H1 (g := (mkF m 47 #[.val (.ref a1), .val (.int p2), .val (.double xv), .second, .unset] [(.ref a1), (.double xv)])) rfl rfl (hb hby d4_47)
      have dq144 : cmpValue (FP.dcmp xv (val (own_gk kK p2))) .l = (cc xi (own_gk kK p2)) := (own_dc H38 H40 H39 (own_way_k H37 hc1_102))
      have pre145 : ∀ t, Steps p.tables e below (T142.setTop (mkF m 53 #[.val (.ref a1), .val (.int p2), .val (.double xv), .second, .unset] [(.int (cc xi (own_gk kK p2)))])) t → Steps p.tables e below (s₁.setTop (entryFrame m #[(.ref a1), (.int p2), (.double xv)] 5)) t := fun t kt => by
        refine pre107 t ?_
        show Steps p.tables e below (T104.setTop (mkF m 18 #[.val (.ref a1), .val (.int p2), .val (.double xv), .second, .unset] [(.int (cc xi (own_gk kK p2)))])) _
        refine XS.ifYes X104.here hx rfl (pc0 := 18) (pc' := 45) rfl (hb hby d4_18) rfl ((if0 _ _).trans (flt (hc18_108 : ¬ ((cc xi (own_gk kK p2)) < (0 : Int32)))).2.1) (by decide) (by decide) ?_
        refine XS.dloadN X104.here hx rfl (hb hby d4_45) rfl ?_
        refine XS.aloadN X104.here hx rfl (hb hby d4_46) rfl rfl ?_
        refine st142 _ ?_
        refine XS.iloadN X142.here hx rfl (hb hby d4_50) rfl ?_
        show Steps p.tables e below (T142.setTop (mkF m 51 #[.val (.ref a1), .val (.int p2), .val (.double xv), .second, .unset] [(.int p2), (.ref ak), (.double xv)])) _
        refine own_da X142 hx hZ e142 H16 H35 (hb hby d4_51) ?_
        show Steps p.tables e below (T142.setTop (mkF m 52 #[.val (.ref a1), .val (.int p2), .val (.double xv), .second, .unset] [(.double (val (own_gk kK p2))), (.double xv)])) _
        refine XS.dcmpS X142.here hx rfl (hb hby d4_52) rfl dq144 ?_
        show Steps p.tables e below (T142.setTop (mkF m 53 #[.val (.ref a1), .val (.int p2), .val (.double xv), .second, .unset] [(.int (cc xi (own_gk kK p2)))])) _
        exact kt
      by_cases hc53_146 : (0 : Int32) < (cc xi (own_gk kK p2))
      · skip
        obtain ⟨T147, X147, e147, st147⟩ := getF X142 hx hZ hown (host := "") (Or.inl (own_w hw 16 rfl)) Via.refl e142 H3 (g := (mkF m 58 #[.val (.ref a1), .val (.int p2), .val (.double xv), .second, .unset] [(.ref a1), (.ref a1)])) rfl rfl (hb hby d4_58)
        obtain ⟨cq149, q149, q149'⟩ := H0.cell
        obtain ⟨_, _, ⟨T149, L149, k149, n149⟩, -, X149, ⟨Lc149, hQ149, l149, y149, z149⟩, st149⟩ := X147.privateBack hx (y := (⟨"com/example/prequential/prequential/measure/ScoreMultiset", "insert", "(ID)I"⟩ : MethodName)) hown (mvT hZ (own_w hw 38 rfl)) (mvT hZ (own_w hw 39 rfl)) (mvT hZ (own_selp (by decide) (own_w hw 2 rfl) (own_w hw 40 rfl) (own_w hw 39 rfl))) (Cond.privateMethod_at (mvP hZ (own_w hw 40 rfl) (args := #[]))) (mvT hZ (own_w hw 41 rfl)) (by decide) (backOf (W := 0) (rm4d2 l Z a0 hw [] a1 (own_g lR p2) xv ak ro u_ rs al kl lL ar kr lR ac kc lC au ku lT ah kh lH kk kK val cc xi h0 n0 Z0 H0 H1 H2 H3 H4 H5 H6 H7 H8 H9 H10 H11 H12 H13 H14 H15 H16 H17 H18 H19 H20 H21 H22 H23 H24 H25 H26 H27 H28 H29 H30 H31 H32 H33 H34 (H31.2 _) H36 (own_way_r H37 hc1_102 hc18_108 hc53_146) H38 H39 H40) hZ (own_w hw 41 rfl) (own_w hw 3 rfl) (by decide) (by decide)) (g := (mkF m 64 #[.val (.ref a1), .val (.int p2), .val (.double xv), .second, .unset] [(.double xv), (.int (own_g lR p2)), (.ref a1)])) rfl (by rw [hml]; rfl) (Steps.refl _) (a := a1) (by rw [e147]; exact q149) q149' (argsL := [(.int (own_g lR p2)), (.double xv)]) (rest := []) (lenOf pd_4 rfl) rfl (by show 2 * 0 + _ ≤ _; exact Nat.le_of_eq rfl) (hb hby d4_64) (fun _ _ => ⟨rfl, e147, (by decide : 0 + 0 ≤ _), (by decide : 0 + 0 ≤ _)⟩)
        dsimp only [Pt.U, Pt.locs, Pt.cells, Pt.slots] at X149 l149 y149 z149 st149 hQ149
        subst l149 y149 z149
        obtain ⟨lL2149, lR2149, lC2149, lT2149, lH2149, kK2149, u2149, r2149, v2149, rfl, Nq149, K149, R149_1, R149_2, R149_3, R149_4, R149_5, R149_6, R149_7, R149_8, R149_9, R149_10, R149_11, R149_12, R149_13, R149_14, R149_15, R149_16, R149_17, R149_18, R149_19, R149_20, R149_21, R149_22, R149_23⟩ := hQ149
        have N149 := Fr.app N0 Nq149
        obtain ⟨T150, X150, e150, st150⟩ := getF X149 hx hZ hown (host := "") (Or.inl (own_w hw 16 rfl)) Via.refl rfl R149_3 (g := (mkF m 70 #[.val (.ref a1), .val (.int p2), .val (.double xv), .second, .val (.int v2149)] [(.ref a1)])) rfl rfl (hb hby d4_70)
        obtain ⟨cl151, Ar151, qc151, S151, M151, Hh151, G151⟩ := id R149_12
        have hin151 : ¬ (p2 < 0 ∨ cl151.slots.size ≤ (p2).toNatClampNeg) := inb_of S151 H35
        obtain ⟨T151, h151, X151, e151, W151, st151⟩ := stI X150 hx hZ e150 Ar151 (j := p2) hin151 (g := (mkF m 76 #[.val (.ref a1), .val (.int p2), .val (.double xv), .second, .val (.int v2149)] [(.int v2149), (.int p2), (.ref ar)])) rfl rfl (hb hby d4_76)
        have V151 : Arv Z h151 ar kr .int (16 : Int32) (own_v (own_p lR2149 p2 v2149)) (.int (0 : Int32)) := by rw [own_vp]; exact Arv.set Ar151 qc151 S151 M151 Hh151 G151 rfl W151 p2.toNatClampNeg (rfl) (own_vlt H35 R149_18.1)
        have N151 := Fr.snoc X151 N149 H20
        have f152 := ((H0.keep K149).wr W151)
        have ne153 : a1 ≠ ar := Exa.neArv f152 V151 (own_w hw 2 rfl)
        have f154 := (R149_1.other W151 (Or.inl ne153))
        have f155 := (R149_2.other W151 (Or.inl ne153))
        have f156 := (R149_3.other W151 (Or.inl ne153))
        have f157 := (R149_4.other W151 (Or.inl ne153))
        have f158 := (R149_5.other W151 (Or.inl ne153))
        have f159 := (R149_6.other W151 (Or.inl ne153))
        have f160 := (R149_7.other W151 (Or.inl ne153))
        have f161 := (R149_8.other W151 (Or.inl ne153))
        have f162 := (R149_9.other W151 (Or.inl ne153))
        have f163 := (R149_10.other W151 (Or.inl ne153))
        have f164 := (R149_11.other W151 H24)
        have f165 := (R149_13.other W151 (Ne.symm H26))
        have f166 := (R149_14.other W151 (Ne.symm H28))
        have ne167 : ah ≠ ar := own_ne_arv H15 H12 (by decide)
        have f168 := (R149_15.other W151 ne167)
        have z170 : n0 ≤ h151.size := (Nat.le_trans (Nat.le_trans Z0 K149.1) (Nat.le_of_eq W151.size.symm))
        obtain ⟨cq169, q169, q169'⟩ := f152.cell
        obtain ⟨_, _, ⟨T169, L169, k169, n169⟩, -, X169, ⟨Lc169, hQ169, l169, y169, z169⟩, st169⟩ := X151.privateBack hx (y := (⟨"com/example/prequential/prequential/measure/ScoreMultiset", "settle", "(II)I"⟩ : MethodName)) hown (mvT hZ (own_w hw 46 rfl)) (mvT hZ (own_w hw 47 rfl)) (mvT hZ (own_selp (by decide) (own_w hw 2 rfl) (own_w hw 48 rfl) (own_w hw 47 rfl))) (Cond.privateMethod_at (mvP hZ (own_w hw 48 rfl) (args := #[]))) (mvT hZ (own_w hw 49 rfl)) (by decide) (backOf (W := 0) (rm6 l Z a0 hw [] a1 p2 (1 : Int32) ak ro u2149 (0 : Int32) r2149 al kl lL2149 ar kr (own_p lR2149 p2 v2149) ac kc lC2149 au ku lT2149 ah kh lH2149 h151 n0 z170 f152 f154 f155 f156 f157 f158 f159 f160 f161 f162 f163 f164 V151 f165 f166 f168 H19 H20 H22 H23 H17 H24 H25 H26 H27 H28 H29 H35 R149_17 (own_rngp R149_18 R149_22) R149_19 R149_20 R149_21) hZ (own_w hw 49 rfl) (own_w hw 3 rfl) (by decide) (by decide)) (g := (mkF m 93 #[.val (.ref a1), .val (.int p2), .val (.double xv), .second, .val (.int v2149)] [(.int (1 : Int32)), (.int p2), (.ref a1)])) rfl (by rw [hml]; rfl) (Steps.refl _) (a := a1) (by rw [e151]; exact q169) q169' (argsL := [(.int p2), (.int (1 : Int32))]) (rest := []) (lenOf pd_0 rfl) rfl (by show 2 * 0 + _ ≤ _; exact Nat.le_of_eq rfl) (hb hby d4_93) (fun _ _ => ⟨rfl, e151, (by decide : 0 + 0 ≤ _), (by decide : 0 + 0 ≤ _)⟩)
        dsimp only [Pt.U, Pt.locs, Pt.cells, Pt.slots] at X169 l169 y169 z169 st169 hQ169
        subst l169 y169 z169
        obtain ⟨rfl, Nq169, K169, R169_1, R169_2, R169_3, R169_4, R169_5, R169_6, R169_7, R169_8, R169_9, R169_10, R169_11, R169_12, R169_13, R169_14, R169_15, R169_16, R169_17, R169_18, R169_19⟩ := hQ169
        have N169 := Fr.app N151 Nq169
        have ne171 : ac ≠ ah := own_ne_arv H13 H15 (by decide)
        have ne172 : a1 ≠ ac := Exa.neArv f152 f165 (own_w hw 2 rfl)
        have f173 := (f165.keep K169 (ninS (Ne.symm ne172) (ninS (Ne.symm H25) (ninS (Ne.symm H26) (ninS H29 (ninS ne171 nin0))))))
        have ne174 : ar ≠ ak := own_ne_kv H12 H16 (by decide)
        have ne175 : ah ≠ ak := own_ne_kv H15 H16 (by decide)
        have ne176 : au ≠ ak := own_ne_kv H14 H16 (by decide)
        have ne177 : al ≠ ak := own_ne_kv H11 H16 (by decide)
        have ne178 : a1 ≠ ak := own_ne_kar (H0.keep K149) (own_w hw 2 rfl) R149_16
        have f179 := ((R149_16.other W151 (Ne.symm ne174)).keep K169 (ninS (Ne.symm ne178) (ninS (Ne.symm ne177) (ninS (Ne.symm ne174) (ninS (Ne.symm ne176) (ninS (Ne.symm ne175) nin0))))))
        obtain ⟨fs, hr, hrun, hended, hW, hsame⟩ := X169.leave (v := some (.int (own_set lL2149 (own_p lR2149 p2 v2149) lC2149 lT2149 lH2149 r2149 p2 (1 : Int32)).2)) (fun h => by rw [Bd.returns] at h; cases h) (BodyLoose.notSynchronized Bd)
        refine ⟨_, _, pre145 _ ?_, hrun, hended, _, _, rfl, ?_, ⟨_, rfl⟩, hW, hsame.mono (by decide) (by decide)⟩
        · skip
          show Steps p.tables e below (T142.setTop (mkF m 53 #[.val (.ref a1), .val (.int p2), .val (.double xv), .second, .unset] [(.int (cc xi (own_gk kK p2)))])) _
          refine XS.ifNo X142.here hx rfl (hb hby d4_53) rfl ((if0 _ _).trans (tlt (hc53_146 : (0 : Int32) < (cc xi (own_gk kK p2)))).2.2.2) ?_
          refine XS.aloadN X142.here hx rfl (hb hby d4_56) rfl rfl ?_
          refine XS.aloadN X142.here hx rfl (hb hby d4_57) rfl rfl ?_
          refine st147 _ ?_
          refine XS.iloadN X147.here hx rfl (hb hby d4_61) rfl ?_
          show Steps p.tables e below (T147.setTop (mkF m 62 #[.val (.ref a1), .val (.int p2), .val (.double xv), .second, .unset] [(.int p2), (.ref ar), (.ref a1)])) _
          refine own_ia X147 hx hZ e147 H12 H35 (hb hby d4_62) ?_
          show Steps p.tables e below (T147.setTop (mkF m 63 #[.val (.ref a1), .val (.int p2), .val (.double xv), .second, .unset] [(.int (own_g lR p2)), (.ref a1)])) _
          refine XS.dloadN X147.here hx rfl (hb hby d4_63) rfl ?_
          show Steps p.tables e below (T147.setTop (mkF m 64 #[.val (.ref a1), .val (.int p2), .val (.double xv), .second, .unset] [(.double xv), (.int (own_g lR p2)), (.ref a1)])) _
          refine st149.trans ?_
          show Steps p.tables e below (T149.setTop (mkF m 67 #[.val (.ref a1), .val (.int p2), .val (.double xv), .second, .unset] [(.int v2149)])) _
          refine XS.istore X149.here hx rfl (hb hby d4_67) rfl (l' := #[.val (.ref a1), .val (.int p2), .val (.double xv), .second, .val (.int v2149)]) rfl ?_
          refine XS.aloadN X149.here hx rfl (hb hby d4_69) rfl rfl ?_
          refine st150 _ ?_
          refine XS.iloadN X150.here hx rfl (hb hby d4_73) rfl ?_
          refine XS.iload X150.here hx rfl (hb hby d4_74) rfl ?_
          refine st151 _ ?_
          refine XS.goto X151.here hx rfl (pc0 := 77) (pc' := 90) rfl (hb hby d4_77) (by decide) (by decide) ?_
          refine XS.aloadN X151.here hx rfl (hb hby d4_90) rfl rfl ?_
          refine XS.iloadN X151.here hx rfl (hb hby d4_91) rfl ?_
          refine XS.iconst X151.here hx rfl (hb hby d4_92) ?_
          show Steps p.tables e below (T151.setTop (mkF m 93 #[.val (.ref a1), .val (.int p2), .val (.double xv), .second, .val (.int v2149)] [(.int (1 : Int32)), (.int p2), (.ref a1)])) _
          refine st169.trans ?_
          show Steps p.tables e below (T169.setTop (mkF m 96 #[.val (.ref a1), .val (.int p2), .val (.double xv), .second, .val (.int v2149)] [(.int (own_set lL2149 (own_p lR2149 p2 v2149) lC2149 lT2149 lH2149 r2149 p2 (1 : Int32)).2)])) _
          exact retI X169 hx Bd.returns (hb hby d4_96) hr
        · show Q4d3 Z a1 p2 xv ak ro u_ rs al kl lL ar kr lR ac kc lC au ku lT ah kh lH kk kK val cc xi h0 n0 _ T169.heap _
          exact ⟨((own_set lL2149 (own_p lR2149 p2 v2149) lC2149 lT2149 lH2149 r2149 p2 (1 : Int32)).1.1.1), ((own_set lL2149 (own_p lR2149 p2 v2149) lC2149 lT2149 lH2149 r2149 p2 (1 : Int32)).1.1.2.1), lC2149, ((own_set lL2149 (own_p lR2149 p2 v2149) lC2149 lT2149 lH2149 r2149 p2 (1 : Int32)).1.1.2.2.1), ((own_set lL2149 (own_p lR2149 p2 v2149) lC2149 lT2149 lH2149 r2149 p2 (1 : Int32)).1.1.2.2.2), kK2149, u2149, ((own_set lL2149 (own_p lR2149 p2 v2149) lC2149 lT2149 lH2149 r2149 p2 (1 : Int32)).1.2), ((own_set lL2149 (own_p lR2149 p2 v2149) lC2149 lT2149 lH2149 r2149 p2 (1 : Int32)).2), rfl, N169, ((((Keep.refl h0 [a1, ak, al, ar, ac, au, ah]).trans K149 (allS (P := (fun x => x ∈ [a1, ak, al, ar, ac, au, ah] ∨ h0.size ≤ x)) (Or.inl (List.mem_of_getElem? (i := 0) rfl)) (allS (P := (fun x => x ∈ [a1, ak, al, ar, ac, au, ah] ∨ h0.size ≤ x)) (Or.inl (List.mem_of_getElem? (i := 1) rfl)) (allS (P := (fun x => x ∈ [a1, ak, al, ar, ac, au, ah] ∨ h0.size ≤ x)) (Or.inl (List.mem_of_getElem? (i := 2) rfl)) (allS (P := (fun x => x ∈ [a1, ak, al, ar, ac, au, ah] ∨ h0.size ≤ x)) (Or.inl (List.mem_of_getElem? (i := 3) rfl)) (allS (P := (fun x => x ∈ [a1, ak, al, ar, ac, au, ah] ∨ h0.size ≤ x)) (Or.inl (List.mem_of_getElem? (i := 4) rfl)) (allS (P := (fun x => x ∈ [a1, ak, al, ar, ac, au, ah] ∨ h0.size ≤ x)) (Or.inl (List.mem_of_getElem? (i := 5) rfl)) (allS (P := (fun x => x ∈ [a1, ak, al, ar, ac, au, ah] ∨ h0.size ≤ x)) (Or.inl (List.mem_of_getElem? (i := 6) rfl)) all0)))))))).wr W151 (Or.inl (List.mem_of_getElem? (i := 3) rfl))).trans K169 (allS (P := (fun x => x ∈ [a1, ak, al, ar, ac, au, ah] ∨ h0.size ≤ x)) (Or.inl (List.mem_of_getElem? (i := 0) rfl)) (allS (P := (fun x => x ∈ [a1, ak, al, ar, ac, au, ah] ∨ h0.size ≤ x)) (Or.inl (List.mem_of_getElem? (i := 2) rfl)) (allS (P := (fun x => x ∈ [a1, ak, al, ar, ac, au, ah] ∨ h0.size ≤ x)) (Or.inl (List.mem_of_getElem? (i := 3) rfl)) (allS (P := (fun x => x ∈ [a1, ak, al, ar, ac, au, ah] ∨ h0.size ≤ x)) (Or.inl (List.mem_of_getElem? (i := 5) rfl)) (allS (P := (fun x => x ∈ [a1, ak, al, ar, ac, au, ah] ∨ h0.size ≤ x)) (Or.inl (List.mem_of_getElem? (i := 6) rfl)) all0)))))), R169_1, R169_2, R169_3, R169_4, R169_5, R169_6, R169_7, R169_8, R169_9, R169_10, R169_11, R169_12, f173, R169_13, R169_14, f179, R169_15, R169_16, R149_19, R169_17, R169_18, R169_19, (by simp only [own_ins3, own_insS, own_new, own_il, own_ir, own_fin, own_fw, eq_false hc1_102, eq_false hc18_108, eq_true hc53_146, R149_23, if_true, if_false])⟩
      · skip
        obtain ⟨T180, X180, e180, st180⟩ := getF X142 hx hZ hown (host := "") (Or.inl (own_w hw 18 rfl)) Via.refl e142 H4 (g := (mkF m 81 #[.val (.ref a1), .val (.int p2), .val (.double xv), .second, .unset] [(.ref a1)])) rfl rfl (hb hby d4_81)
        obtain ⟨cl182, Ar182, qc182, S182, M182, Hh182, G182⟩ := id H13
        have hin182 : ¬ (p2 < 0 ∨ cl182.slots.size ≤ (p2).toNatClampNeg) := inb_of S182 H35
        obtain ⟨T182, h182, X182, e182, W182, st182⟩ := stI X180 hx hZ e180 Ar182 (j := p2) hin182 (g := (mkF m 89 #[.val (.ref a1), .val (.int p2), .val (.double xv), .second, .unset] [(.int ((own_g lC p2) + (1 : Int32))), (.int p2), (.ref ac)])) rfl rfl (hb hby d4_89)
        have V182 : Arv Z h182 ac kc .int (16 : Int32) (own_v (own_p lC p2 ((own_g lC p2) + (1 : Int32)))) (.int (0 : Int32)) := by rw [own_vp]; exact Arv.set Ar182 qc182 S182 M182 Hh182 G182 rfl W182 p2.toNatClampNeg (rfl) (own_vlt H35 H32)
        have N182 := Fr.snoc X182 N0 H21
        have f183 := (H0.wr W182)
        have ne184 : a1 ≠ ac := Exa.neArv f183 V182 (own_w hw 2 rfl)
        have f185 := (H1.other W182 (Or.inl ne184))
        have f186 := (H2.other W182 (Or.inl ne184))
        have f187 := (H3.other W182 (Or.inl ne184))
        have f188 := (H4.other W182 (Or.inl ne184))
        have f189 := (H5.other W182 (Or.inl ne184))
        have f190 := (H6.other W182 (Or.inl ne184))
        have f191 := (H7.other W182 (Or.inl ne184))
        have f192 := (H8.other W182 (Or.inl ne184))
        have f193 := (H9.other W182 (Or.inl ne184))
        have f194 := (H10.other W182 (Or.inl ne184))
        have f195 := (H11.other W182 H25)
        have f196 := (H12.other W182 H26)
        have f197 := (H14.other W182 (Ne.symm H29))
        have ne198 : ah ≠ ac := own_ne_arv H15 H13 (by decide)
        have f199 := (H15.other W182 ne198)
        have z201 : n0 ≤ h182.size := (Nat.le_trans Z0 (Nat.le_of_eq W182.size.symm))
        obtain ⟨cq200, q200, q200'⟩ := f183.cell
        obtain ⟨_, _, ⟨T200, L200, k200, n200⟩, -, X200, ⟨Lc200, hQ200, l200, y200, z200⟩, st200⟩ := X182.privateBack hx (y := (⟨"com/example/prequential/prequential/measure/ScoreMultiset", "settle", "(II)I"⟩ : MethodName)) hown (mvT hZ (own_w hw 46 rfl)) (mvT hZ (own_w hw 47 rfl)) (mvT hZ (own_selp (by decide) (own_w hw 2 rfl) (own_w hw 48 rfl) (own_w hw 47 rfl))) (Cond.privateMethod_at (mvP hZ (own_w hw 48 rfl) (args := #[]))) (mvT hZ (own_w hw 49 rfl)) (by decide) (backOf (W := 0) (rm6 l Z a0 hw [] a1 p2 (1 : Int32) ak ro u_ (0 : Int32) rs al kl lL ar kr lR ac kc (own_p lC p2 ((own_g lC p2) + (1 : Int32))) au ku lT ah kh lH h182 n0 z201 f183 f185 f186 f187 f188 f189 f190 f191 f192 f193 f194 f195 f196 V182 f197 f199 H19 H20 H22 H23 H17 H24 H25 H26 H27 H28 H29 H35 H30 H31 (own_16p H32) H33 H34) hZ (own_w hw 49 rfl) (own_w hw 3 rfl) (by decide) (by decide)) (g := (mkF m 93 #[.val (.ref a1), .val (.int p2), .val (.double xv), .second, .unset] [(.int (1 : Int32)), (.int p2), (.ref a1)])) rfl (by rw [hml]; rfl) (Steps.refl _) (a := a1) (by rw [e182]; exact q200) q200' (argsL := [(.int p2), (.int (1 : Int32))]) (rest := []) (lenOf pd_0 rfl) rfl (by show 2 * 0 + _ ≤ _; exact Nat.le_of_eq rfl) (hb hby d4_93) (fun _ _ => ⟨rfl, e182, (by decide : 0 + 0 ≤ _), (by decide : 0 + 0 ≤ _)⟩)
        dsimp only [Pt.U, Pt.locs, Pt.cells, Pt.slots] at X200 l200 y200 z200 st200 hQ200
        subst l200 y200 z200
        obtain ⟨rfl, Nq200, K200, R200_1, R200_2, R200_3, R200_4, R200_5, R200_6, R200_7, R200_8, R200_9, R200_10, R200_11, R200_12, R200_13, R200_14, R200_15, R200_16, R200_17, R200_18, R200_19⟩ := hQ200
        have N200 := Fr.app N182 Nq200
        have f202 := (V182.keep K200 (ninS (Ne.symm ne184) (ninS (Ne.symm H25) (ninS (Ne.symm H26) (ninS H29 (ninS (Ne.symm ne198) nin0))))))
        have ne203 : ac ≠ ak := own_ne_kv H13 H16 (by decide)
        have ne204 : ah ≠ ak := own_ne_kv H15 H16 (by decide)
        have ne205 : au ≠ ak := own_ne_kv H14 H16 (by decide)
        have ne206 : ar ≠ ak := own_ne_kv H12 H16 (by decide)
        have ne207 : al ≠ ak := own_ne_kv H11 H16 (by decide)
        have ne208 : a1 ≠ ak := own_ne_kar H0 (own_w hw 2 rfl) H16
        have f209 := ((H16.other W182 (Ne.symm ne203)).keep K200 (ninS (Ne.symm ne208) (ninS (Ne.symm ne207) (ninS (Ne.symm ne206) (ninS (Ne.symm ne205) (ninS (Ne.symm ne204) nin0))))))
        obtain ⟨fs, hr, hrun, hended, hW, hsame⟩ := X200.leave (v := some (.int (own_set lL lR (own_p lC p2 ((own_g lC p2) + (1 : Int32))) lT lH rs p2 (1 : Int32)).2)) (fun h => by rw [Bd.returns] at h; cases h) (BodyLoose.notSynchronized Bd)
        refine ⟨_, _, pre145 _ ?_, hrun, hended, _, _, rfl, ?_, ⟨_, rfl⟩, hW, hsame.mono (by decide) (by decide)⟩
        · skip
          show Steps p.tables e below (T142.setTop (mkF m 53 #[.val (.ref a1), .val (.int p2), .val (.double xv), .second, .unset] [(.int (cc xi (own_gk kK p2)))])) _
          refine XS.ifYes X142.here hx rfl (pc0 := 53) (pc' := 80) rfl (hb hby d4_53) rfl ((if0 _ _).trans (flt (hc53_146 : ¬ ((0 : Int32) < (cc xi (own_gk kK p2))))).2.2.2) (by decide) (by decide) ?_
          refine XS.aloadN X142.here hx rfl (hb hby d4_80) rfl rfl ?_
          refine st180 _ ?_
          refine XS.iloadN X180.here hx rfl (hb hby d4_84) rfl ?_
          show Steps p.tables e below (T180.setTop (mkF m 85 #[.val (.ref a1), .val (.int p2), .val (.double xv), .second, .unset] [(.int p2), (.ref ac)])) _
          refine XT.dup2 X180.here hx rfl (hb hby d4_85) rfl rfl rfl ?_
          show Steps p.tables e below (T180.setTop (mkF m 86 #[.val (.ref a1), .val (.int p2), .val (.double xv), .second, .unset] [(.int p2), (.ref ac), (.int p2), (.ref ac)])) _
          refine own_ia X180 hx hZ e180 H13 H35 (hb hby d4_86) ?_
          show Steps p.tables e below (T180.setTop (mkF m 87 #[.val (.ref a1), .val (.int p2), .val (.double xv), .second, .unset] [(.int (own_g lC p2)), (.int p2), (.ref ac)])) _
          refine XS.iconst X180.here hx rfl (hb hby d4_87) ?_
          refine XS.iadd X180.here hx rfl (hb hby d4_88) rfl ?_
          refine st182 _ ?_
          refine XS.aloadN X182.here hx rfl (hb hby d4_90) rfl rfl ?_
          refine XS.iloadN X182.here hx rfl (hb hby d4_91) rfl ?_
          refine XS.iconst X182.here hx rfl (hb hby d4_92) ?_
          show Steps p.tables e below (T182.setTop (mkF m 93 #[.val (.ref a1), .val (.int p2), .val (.double xv), .second, .unset] [(.int (1 : Int32)), (.int p2), (.ref a1)])) _
          refine st200.trans ?_
          show Steps p.tables e below (T200.setTop (mkF m 96 #[.val (.ref a1), .val (.int p2), .val (.double xv), .second, .unset] [(.int (own_set lL lR (own_p lC p2 ((own_g lC p2) + (1 : Int32))) lT lH rs p2 (1 : Int32)).2)])) _
          exact retI X200 hx Bd.returns (hb hby d4_96) hr
        · show Q4d3 Z a1 p2 xv ak ro u_ rs al kl lL ar kr lR ac kc lC au ku lT ah kh lH kk kK val cc xi h0 n0 _ T200.heap _
          exact ⟨((own_set lL lR (own_p lC p2 ((own_g lC p2) + (1 : Int32))) lT lH rs p2 (1 : Int32)).1.1.1), ((own_set lL lR (own_p lC p2 ((own_g lC p2) + (1 : Int32))) lT lH rs p2 (1 : Int32)).1.1.2.1), (own_p lC p2 ((own_g lC p2) + (1 : Int32))), ((own_set lL lR (own_p lC p2 ((own_g lC p2) + (1 : Int32))) lT lH rs p2 (1 : Int32)).1.1.2.2.1), ((own_set lL lR (own_p lC p2 ((own_g lC p2) + (1 : Int32))) lT lH rs p2 (1 : Int32)).1.1.2.2.2), kK, u_, ((own_set lL lR (own_p lC p2 ((own_g lC p2) + (1 : Int32))) lT lH rs p2 (1 : Int32)).1.2), ((own_set lL lR (own_p lC p2 ((own_g lC p2) + (1 : Int32))) lT lH rs p2 (1 : Int32)).2), rfl, N200, (((Keep.refl h0 [a1, ak, al, ar, ac, au, ah]).wr W182 (Or.inl (List.mem_of_getElem? (i := 4) rfl))).trans K200 (allS (P := (fun x => x ∈ [a1, ak, al, ar, ac, au, ah] ∨ h0.size ≤ x)) (Or.inl (List.mem_of_getElem? (i := 0) rfl)) (allS (P := (fun x => x ∈ [a1, ak, al, ar, ac, au, ah] ∨ h0.size ≤ x)) (Or.inl (List.mem_of_getElem? (i := 2) rfl)) (allS (P := (fun x => x ∈ [a1, ak, al, ar, ac, au, ah] ∨ h0.size ≤ x)) (Or.inl (List.mem_of_getElem? (i := 3) rfl)) (allS (P := (fun x => x ∈ [a1, ak, al, ar, ac, au, ah] ∨ h0.size ≤ x)) (Or.inl (List.mem_of_getElem? (i := 5) rfl)) (allS (P := (fun x => x ∈ [a1, ak, al, ar, ac, au, ah] ∨ h0.size ≤ x)) (Or.inl (List.mem_of_getElem? (i := 6) rfl)) all0)))))), R200_1, R200_2, R200_3, R200_4, R200_5, R200_6, R200_7, R200_8, R200_9, R200_10, R200_11, R200_12, f202, R200_13, R200_14, f209, R200_15, R200_16, (own_16p H32), R200_17, R200_18, R200_19, (by simp only [own_ins3, own_insS, own_new, own_il, own_ir, own_fin, own_fw, eq_false hc1_102, eq_false hc18_108, eq_false hc53_146, if_true, if_false])⟩
abbrev own_e3 (k : Nat) (i : Instr) (l : Nat) : Prop := decode prog_108_method_3_code k = .ok (i, l)
theorem d3_0 : own_e3 0 (.aload_n 0) 1 := by decide +kernel
theorem d3_1 : own_e3 1 (.iconst 0) 1 := by decide +kernel
theorem d3_2 : own_e3 2 (.putfield 40) 3 := by decide +kernel
theorem d3_5 : own_e3 5 (.aload_n 0) 1 := by decide +kernel
theorem d3_6 : own_e3 6 (.aload_n 0) 1 := by decide +kernel
theorem d3_7 : own_e3 7 (.aload_n 0) 1 := by decide +kernel
theorem d3_8 : own_e3 8 (.getfield 30) 3 := by decide +kernel
theorem d3_11 : own_e3 11 (.dload_n 1) 1 := by decide +kernel
theorem d3_12 : own_e3 12 (.invokevirtual 44) 3 := by decide +kernel
theorem d3_15 : own_e3 15 (.putfield 30) 3 := by decide +kernel
theorem d3_18 : own_e3 18 .return_ 1 := by decide +kernel
theorem ef_3 (m : MethodId) (a1 : Addr) (xv : UInt64) : entryFrame m #[(.ref a1), (.double xv)] 3 = mkF m 0 #[.val (.ref a1), .val (.double xv), .second] [] := by first | (simp [entryFrame, mkF, argsToLocals, Value.category]; done) | rfl
def Q3 (Z : State) (a1 : Addr) (xv : UInt64) (ak : Addr) (ro : Int32) (u_ : Int32) (rs : Int32) (al : Addr) (kl : ClassId) (lL : List Int32) (ar : Addr) (kr : ClassId) (lR : List Int32) (ac : Addr) (kc : ClassId) (lC : List Int32) (au : Addr) (ku : ClassId) (lT : List Int32) (ah : Addr) (kh : ClassId) (lH : List Int32) (kk : ClassId) (kK : List Nat) (val : Nat → UInt64) (cc : Nat → Nat → Int32) (xi : Nat) (h0 : Heap) (n0 : Nat) (v : Option Value) (h : Heap) (L : List Loc) : Prop := ∃ (lL2 : List Int32) (lR2 : List Int32) (lC2 : List Int32) (lT2 : List Int32) (lH2 : List Int32) (kK2 : List Nat) (u2 : Int32) (r2 : Int32) (v2 : Int32), v = none ∧ Fr n0 L ∧ Keep h0 h [a1, ak, al, ar, ac, au, ah] ∧ Fld Z h a1 "com/example/prequential/prequential/measure/ScoreMultiset" "key" "[D" (.ref ak) ∧ Fld Z h a1 "com/example/prequential/prequential/measure/ScoreMultiset" "left" "[I" (.ref al) ∧ Fld Z h a1 "com/example/prequential/prequential/measure/ScoreMultiset" "right" "[I" (.ref ar) ∧ Fld Z h a1 "com/example/prequential/prequential/measure/ScoreMultiset" "count" "[I" (.ref ac) ∧ Fld Z h a1 "com/example/prequential/prequential/measure/ScoreMultiset" "total" "[I" (.ref au) ∧ Fld Z h a1 "com/example/prequential/prequential/measure/ScoreMultiset" "height" "[B" (.ref ah) ∧ Fld Z h a1 "com/example/prequential/prequential/measure/ScoreMultiset" "root" "I" (.int v2) ∧ Fld Z h a1 "com/example/prequential/prequential/measure/ScoreMultiset" "unused" "I" (.int u2) ∧ Fld Z h a1 "com/example/prequential/prequential/measure/ScoreMultiset" "freed" "I" (.int (0 : Int32)) ∧ Fld Z h a1 "com/example/prequential/prequential/measure/ScoreMultiset" "reshaped" "Z" (.int r2) ∧ Arv Z h al kl .int (16 : Int32) (own_v lL2) (.int (0 : Int32)) ∧ Arv Z h ar kr .int (16 : Int32) (own_v lR2) (.int (0 : Int32)) ∧ Arv Z h ac kc .int (16 : Int32) (own_v lC2) (.int (0 : Int32)) ∧ Arv Z h au ku .int (16 : Int32) (own_v lT2) (.int (0 : Int32)) ∧ Arv Z h ah kh .byte (16 : Int32) (own_v lH2) (.int (0 : Int32)) ∧ own_Kar Z h ak kk kK2 val ∧ own_rng lL2 ∧ own_rng lR2 ∧ lC2.length = 16 ∧ lT2.length = 16 ∧ lH2.length = 16 ∧ own_in v2 ∧ own_ins3 cc xi (lL, lR, lC, lT, lH, kK, u_, (0 : Int32), (0 : Int32)) ro = ((lL2, lR2, lC2, lT2, lH2, kK2, u2, (0 : Int32), r2), v2)
set_option maxRecDepth 65536 in
set_option maxHeartbeats 40000000 in
theorem rm3 (l : Launch) (Z : State) (a0 : Array Value) (hw : ∀ d ∈ tables_1, d.before a0 Z = true) (ws : List Jvm.Cond) (a1 : Addr) (xv : UInt64) (ak : Addr) (ro : Int32) (u_ : Int32) (rs : Int32) (al : Addr) (kl : ClassId) (lL : List Int32) (ar : Addr) (kr : ClassId) (lR : List Int32) (ac : Addr) (kc : ClassId) (lC : List Int32) (au : Addr) (ku : ClassId) (lT : List Int32) (ah : Addr) (kh : ClassId) (lH : List Int32) (kk : ClassId) (kK : List Nat) (val : Nat → UInt64) (cc : Nat → Nat → Int32) (xi : Nat) (h0 : Heap) (n0 : Nat) (Z0 : n0 ≤ h0.size) (H0 : Exa Z h0 a1 "com/example/prequential/prequential/measure/ScoreMultiset") (H1 : Fld Z h0 a1 "com/example/prequential/prequential/measure/ScoreMultiset" "key" "[D" (.ref ak)) (H2 : Fld Z h0 a1 "com/example/prequential/prequential/measure/ScoreMultiset" "left" "[I" (.ref al)) (H3 : Fld Z h0 a1 "com/example/prequential/prequential/measure/ScoreMultiset" "right" "[I" (.ref ar)) (H4 : Fld Z h0 a1 "com/example/prequential/prequential/measure/ScoreMultiset" "count" "[I" (.ref ac)) (H5 : Fld Z h0 a1 "com/example/prequential/prequential/measure/ScoreMultiset" "total" "[I" (.ref au)) (H6 : Fld Z h0 a1 "com/example/prequential/prequential/measure/ScoreMultiset" "height" "[B" (.ref ah)) (H7 : Fld Z h0 a1 "com/example/prequential/prequential/measure/ScoreMultiset" "root" "I" (.int ro)) (H8 : Fld Z h0 a1 "com/example/prequential/prequential/measure/ScoreMultiset" "unused" "I" (.int u_)) (H9 : Fld Z h0 a1 "com/example/prequential/prequential/measure/ScoreMultiset" "freed" "I" (.int (0 : Int32))) (H10 : Fld Z h0 a1 "com/example/prequential/prequential/measure/ScoreMultiset" "reshaped" "Z" (.int rs)) (H11 : Arv Z h0 al kl .int (16 : Int32) (own_v lL) (.int (0 : Int32))) (H12 : Arv Z h0 ar kr .int (16 : Int32) (own_v lR) (.int (0 : Int32))) (H13 : Arv Z h0 ac kc .int (16 : Int32) (own_v lC) (.int (0 : Int32))) (H14 : Arv Z h0 au ku .int (16 : Int32) (own_v lT) (.int (0 : Int32))) (H15 : Arv Z h0 ah kh .byte (16 : Int32) (own_v lH) (.int (0 : Int32))) (H16 : own_Kar Z h0 ak kk kK val) (H17 : n0 ≤ a1) (H18 : n0 ≤ ak) (H19 : n0 ≤ al) (H20 : n0 ≤ ar) (H21 : n0 ≤ ac) (H22 : n0 ≤ au) (H23 : n0 ≤ ah) (H24 : al ≠ ar) (H25 : al ≠ ac) (H26 : ar ≠ ac) (H27 : al ≠ au) (H28 : ar ≠ au) (H29 : ac ≠ au) (H30 : own_rng lL) (H31 : own_rng lR) (H32 : lC.length = 16) (H33 : lT.length = 16) (H34 : lH.length = 16) (H35 : own_in ro) (H36 : own_in u_) (H37 : own_way3 (cc xi) kK lL lR ro = true) (H38 : own_cv cc val) (H39 : xi < 5) (H40 : xv = val xi) :
    own_MF l (⟨"com/example/prequential/prequential/measure/ScoreMultiset", "add", "(D)V"⟩ : MethodName) (Jvm.Cond.code (⟨"com/example/prequential/prequential/measure/ScoreMultiset", "add", "(D)V"⟩ : MethodName) prog_108_method_3_code 3 none :: ws) ({ frames := 8, cells := 0, slots := 0, locals := 124 } : Room) #[(.ref a1), (.double xv)] Z h0 (Q3 Z a1 xv ak ro u_ rs al kl lL ar kr lR ac kc lC au ku lT ah kh lH kk kK val cc xi h0 n0) := by
  refine MetFree.of_bodySF (plainFor_of_name pn_com_example_prequential_prequential_measure_ScoreMultiset) hisR ?_
  intro p e s m args below meth c s₁ Bd hml0 hP hK
  obtain ⟨rfl, hZ, hh⟩ := hP
  have hx := Bd.exec
  have hby := Bd.bytes
  have hml : c.maxLocals = 3 := hml0
  have hown : s.vm.findClass "com/example/prequential/prequential/measure/ScoreMultiset" = some m.cls := findClass_of_methodNamed Bd.named
  have hnm := (name_of_methodNamed Bd.named Bd.method).1
  have X0 : Stand p l e ({ frames := 8, cells := 0, slots := 0, locals := 124 } : Room) s m #[(.ref a1), (.double xv)] below meth c s₁ [] 0 0 := Stand.of_body Bd
  have e0 : s₁.heap = h0 := by rw [← hh, Bd.state]; rfl
  have N0 := Fr.nil n0
  have pre0 : ∀ t, Steps p.tables e below (s₁.setTop (mkF m 0 #[.val (.ref a1), .val (.double xv), .second] [])) t → Steps p.tables e below (s₁.setTop (entryFrame m #[(.ref a1), (.double xv)] 3)) t := fun t k => castTop (ef_3 m a1 xv) k
  obtain ⟨T101, h101, X101, e101, W101, st101⟩ := putFN X0 hx hZ hown (own_w hw 36 rfl) Via.refl e0 H10 H0 (Or.inl (own_w hw 37 rfl)) (own_w hw 2 rfl) (ty := .boolean) (v' := (.int (nar .boolean (0 : Int32)))) (by decide) rfl (fits_nar_bool _) (g := (mkF m 2 #[.val (.ref a1), .val (.double xv), .second] [(.int (0 : Int32)), (.ref a1)])) rfl rfl (hb hby d3_2)
  rw [show nar .boolean (0 : Int32) = (0 : Int32) from by decide] at W101
  have Fw101 := H10.same W101
  have N101 := Fr.snoc X101 N0 H17
  have f102 := (H7.other W101 (Or.inr (slot_ne (Or.inl (own_w hw 26 rfl)) (Or.inl (own_w hw 37 rfl)) (by decide) (t := .int) (t' := .boolean) (by decide) (by decide))))
  obtain ⟨T103, X103, e103, st103⟩ := getF X101 hx hZ hown (host := "") (Or.inl (own_w hw 25 rfl)) Via.refl e101 f102 (g := (mkF m 8 #[.val (.ref a1), .val (.double xv), .second] [(.ref a1), (.ref a1), (.ref a1)])) rfl rfl (hb hby d3_8)
  have f104 := (H0.wr W101)
  have f105 := (H1.other W101 (Or.inr (slot_ne (Or.inl (own_w hw 12 rfl)) (Or.inl (own_w hw 37 rfl)) (by decide) (t := (.array .double)) (t' := .boolean) (by decide) (by decide))))
  have f106 := (H2.other W101 (Or.inr (slot_ne (Or.inl (own_w hw 15 rfl)) (Or.inl (own_w hw 37 rfl)) (by decide) (t := (.array .int)) (t' := .boolean) (by decide) (by decide))))
  have f107 := (H3.other W101 (Or.inr (slot_ne (Or.inl (own_w hw 17 rfl)) (Or.inl (own_w hw 37 rfl)) (by decide) (t := (.array .int)) (t' := .boolean) (by decide) (by decide))))
  have f108 := (H4.other W101 (Or.inr (slot_ne (Or.inl (own_w hw 19 rfl)) (Or.inl (own_w hw 37 rfl)) (by decide) (t := (.array .int)) (t' := .boolean) (by decide) (by decide))))
  have f109 := (H5.other W101 (Or.inr (slot_ne (Or.inl (own_w hw 21 rfl)) (Or.inl (own_w hw 37 rfl)) (by decide) (t := (.array .int)) (t' := .boolean) (by decide) (by decide))))
  have f110 := (H6.other W101 (Or.inr (slot_ne (Or.inl (own_w hw 24 rfl)) (Or.inl (own_w hw 37 rfl)) (by decide) (t := (.array .byte)) (t' := .boolean) (by decide) (by decide))))
  have f111 := (H8.other W101 (Or.inr (slot_ne (Or.inl (own_w hw 28 rfl)) (Or.inl (own_w hw 37 rfl)) (by decide) (t := .int) (t' := .boolean) (by decide) (by decide))))
  have f112 := (H9.other W101 (Or.inr (slot_ne (Or.inl (own_w hw 30 rfl)) (Or.inl (own_w hw 37 rfl)) (by decide) (t := .int) (t' := .boolean) (by decide) (by decide))))
  have ne113 : a1 ≠ al := Exa.neArv H0 H11 (own_w hw 2 rfl)
  have f114 := (H11.other W101 (Ne.symm ne113))
  have ne115 : a1 ≠ ar := Exa.neArv H0 H12 (own_w hw 2 rfl)
  have f116 := (H12.other W101 (Ne.symm ne115))
  have ne117 : a1 ≠ ac := Exa.neArv H0 H13 (own_w hw 2 rfl)
  have f118 := (H13.other W101 (Ne.symm ne117))
  have ne119 : a1 ≠ au := Exa.neArv H0 H14 (own_w hw 2 rfl)
  have f120 := (H14.other W101 (Ne.symm ne119))
  have ne121 : a1 ≠ ah := Exa.neArv H0 H15 (own_w hw 2 rfl)
  have f122 := (H15.other W101 (Ne.symm ne121))
  have ne123 : a1 ≠ ak := own_ne_kar H0 (own_w hw 2 rfl) H16
  have f124 := (H16.other W101 (Ne.symm ne123))
  have z126 : n0 ≤ h101.size := (Nat.le_trans Z0 (Nat.le_of_eq W101.size.symm))
  obtain ⟨cq125, q125, q125'⟩ := f104.cell
  obtain ⟨_, _, ⟨T125, L125, k125, n125⟩, -, X125, ⟨Lc125, hQ125, l125, y125, z125⟩, st125⟩ := X103.privateBack hx (y := (⟨"com/example/prequential/prequential/measure/ScoreMultiset", "insert", "(ID)I"⟩ : MethodName)) hown (mvT hZ (own_w hw 38 rfl)) (mvT hZ (own_w hw 39 rfl)) (mvT hZ (own_selp (by decide) (own_w hw 2 rfl) (own_w hw 40 rfl) (own_w hw 39 rfl))) (Cond.privateMethod_at (mvP hZ (own_w hw 40 rfl) (args := #[]))) (mvT hZ (own_w hw 41 rfl)) (by decide) (backOf (W := 1) (rm4d3 l Z a0 hw [] a1 ro xv ak ro u_ (0 : Int32) al kl lL ar kr lR ac kc lC au ku lT ah kh lH kk kK val cc xi h101 n0 z126 f104 f105 f106 f107 f108 f109 f110 f102 f111 f112 Fw101 f114 f116 f118 f120 f122 f124 H17 H18 H19 H20 H21 H22 H23 H24 H25 H26 H27 H28 H29 H30 H31 H32 H33 H34 H35 H36 H37 H38 H39 H40) hZ (own_w hw 41 rfl) (own_w hw 3 rfl) (by decide) (by decide)) (g := (mkF m 12 #[.val (.ref a1), .val (.double xv), .second] [(.double xv), (.int ro), (.ref a1), (.ref a1)])) rfl (by rw [hml]; rfl) (Steps.refl _) (a := a1) (by rw [e103]; exact q125) q125' (argsL := [(.int ro), (.double xv)]) (rest := [(.ref a1)]) (lenOf pd_4 rfl) rfl (by show 2 * 0 + _ ≤ _; exact Nat.le_of_eq rfl) (hb hby d3_12) (fun _ _ => ⟨rfl, e103, (by decide : 0 + 0 ≤ _), (by decide : 0 + 0 ≤ _)⟩)
  dsimp only [Pt.U, Pt.locs, Pt.cells, Pt.slots] at X125 l125 y125 z125 st125 hQ125
  subst l125 y125 z125
  obtain ⟨lL2125, lR2125, lC2125, lT2125, lH2125, kK2125, u2125, r2125, v2125, rfl, Nq125, K125, R125_1, R125_2, R125_3, R125_4, R125_5, R125_6, R125_7, R125_8, R125_9, R125_10, R125_11, R125_12, R125_13, R125_14, R125_15, R125_16, R125_17, R125_18, R125_19, R125_20, R125_21, R125_22, R125_23⟩ := hQ125
  have N125 := Fr.app N101 Nq125
  have f127 := (f104.keep K125)
  obtain ⟨T128, h128, X128, e128, W128, st128⟩ := putF X125 hx hZ hown (host := "") (Or.inl (own_w hw 25 rfl)) Via.refl rfl R125_7 f127 (Or.inl (own_w hw 26 rfl)) (own_w hw 2 rfl) (ty := .int) (by decide) rfl rfl (g := (mkF m 15 #[.val (.ref a1), .val (.double xv), .second] [(.int v2125), (.ref a1)])) rfl rfl (hb hby d3_15)
  have Fw128 := R125_7.same W128
  have N128 := Fr.snoc X128 N125 H17
  have f129 := (R125_1.other W128 (Or.inr (slot_ne (Or.inl (own_w hw 12 rfl)) (Or.inl (own_w hw 26 rfl)) (by decide) (t := (.array .double)) (t' := .int) (by decide) (by decide))))
  have f130 := (R125_2.other W128 (Or.inr (slot_ne (Or.inl (own_w hw 15 rfl)) (Or.inl (own_w hw 26 rfl)) (by decide) (t := (.array .int)) (t' := .int) (by decide) (by decide))))
  have f131 := (R125_3.other W128 (Or.inr (slot_ne (Or.inl (own_w hw 17 rfl)) (Or.inl (own_w hw 26 rfl)) (by decide) (t := (.array .int)) (t' := .int) (by decide) (by decide))))
  have f132 := (R125_4.other W128 (Or.inr (slot_ne (Or.inl (own_w hw 19 rfl)) (Or.inl (own_w hw 26 rfl)) (by decide) (t := (.array .int)) (t' := .int) (by decide) (by decide))))
  have f133 := (R125_5.other W128 (Or.inr (slot_ne (Or.inl (own_w hw 21 rfl)) (Or.inl (own_w hw 26 rfl)) (by decide) (t := (.array .int)) (t' := .int) (by decide) (by decide))))
  have f134 := (R125_6.other W128 (Or.inr (slot_ne (Or.inl (own_w hw 24 rfl)) (Or.inl (own_w hw 26 rfl)) (by decide) (t := (.array .byte)) (t' := .int) (by decide) (by decide))))
  have f135 := (R125_8.other W128 (Or.inr (slot_ne (Or.inl (own_w hw 28 rfl)) (Or.inl (own_w hw 26 rfl)) (by decide) (t := .int) (t' := .int) (by decide) (by decide))))
  have f136 := (R125_9.other W128 (Or.inr (slot_ne (Or.inl (own_w hw 30 rfl)) (Or.inl (own_w hw 26 rfl)) (by decide) (t := .int) (t' := .int) (by decide) (by decide))))
  have f137 := (R125_10.other W128 (Or.inr (slot_ne (Or.inl (own_w hw 37 rfl)) (Or.inl (own_w hw 26 rfl)) (by decide) (t := .boolean) (t' := .int) (by decide) (by decide))))
  have f138 := (R125_11.other W128 (Ne.symm ne113))
  have f139 := (R125_12.other W128 (Ne.symm ne115))
  have f140 := (R125_13.other W128 (Ne.symm ne117))
  have f141 := (R125_14.other W128 (Ne.symm ne119))
  have f142 := (R125_15.other W128 (Ne.symm ne121))
  have f143 := (R125_16.other W128 (Ne.symm ne123))
  obtain ⟨fs, hr, hrun, hended, hW, hsame⟩ := X128.leave (v := none) (fun _ => rfl) (BodyLoose.notSynchronized Bd)
  refine ⟨_, _, pre0 _ ?_, hrun, hended, _, _, rfl, ?_, ⟨_, rfl⟩, hW, hsame.mono (by decide) (by decide)⟩
  · skip
    show Steps p.tables e below (s₁.setTop (mkF m 0 #[.val (.ref a1), .val (.double xv), .second] [])) _
    refine XS.aloadN X0.here hx rfl (hb hby d3_0) rfl rfl ?_
    refine XS.iconst X0.here hx rfl (hb hby d3_1) ?_
    refine st101 _ ?_
    refine XS.aloadN X101.here hx rfl (hb hby d3_5) rfl rfl ?_
    refine XS.aloadN X101.here hx rfl (hb hby d3_6) rfl rfl ?_
    refine XS.aloadN X101.here hx rfl (hb hby d3_7) rfl rfl ?_
    refine st103 _ ?_
    refine XS.dloadN X103.here hx rfl (hb hby d3_11) rfl ?_
    show Steps p.tables e below (T103.setTop (mkF m 12 #[.val (.ref a1), .val (.double xv), .second] [(.double xv), (.int ro), (.ref a1), (.ref a1)])) _
    refine st125.trans ?_
    show Steps p.tables e below (T125.setTop (mkF m 15 #[.val (.ref a1), .val (.double xv), .second] [(.int v2125), (.ref a1)])) _
    refine st128 _ ?_
    show Steps p.tables e below (T128.setTop (mkF m 18 #[.val (.ref a1), .val (.double xv), .second] [])) _
    exact X128.returnOut hx Bd.returns (hb hby d3_18) hr
  · show Q3 Z a1 xv ak ro u_ rs al kl lL ar kr lR ac kc lC au ku lT ah kh lH kk kK val cc xi h0 n0 _ T128.heap _
    rw [e128]
    exact ⟨lL2125, lR2125, lC2125, lT2125, lH2125, kK2125, u2125, r2125, v2125, rfl, N128, ((((Keep.refl h0 [a1, ak, al, ar, ac, au, ah]).wr W101 (Or.inl (List.mem_of_getElem? (i := 0) rfl))).trans K125 (allS (P := (fun x => x ∈ [a1, ak, al, ar, ac, au, ah] ∨ h0.size ≤ x)) (Or.inl (List.mem_of_getElem? (i := 0) rfl)) (allS (P := (fun x => x ∈ [a1, ak, al, ar, ac, au, ah] ∨ h0.size ≤ x)) (Or.inl (List.mem_of_getElem? (i := 1) rfl)) (allS (P := (fun x => x ∈ [a1, ak, al, ar, ac, au, ah] ∨ h0.size ≤ x)) (Or.inl (List.mem_of_getElem? (i := 2) rfl)) (allS (P := (fun x => x ∈ [a1, ak, al, ar, ac, au, ah] ∨ h0.size ≤ x)) (Or.inl (List.mem_of_getElem? (i := 3) rfl)) (allS (P := (fun x => x ∈ [a1, ak, al, ar, ac, au, ah] ∨ h0.size ≤ x)) (Or.inl (List.mem_of_getElem? (i := 4) rfl)) (allS (P := (fun x => x ∈ [a1, ak, al, ar, ac, au, ah] ∨ h0.size ≤ x)) (Or.inl (List.mem_of_getElem? (i := 5) rfl)) (allS (P := (fun x => x ∈ [a1, ak, al, ar, ac, au, ah] ∨ h0.size ≤ x)) (Or.inl (List.mem_of_getElem? (i := 6) rfl)) all0)))))))).wr W128 (Or.inl (List.mem_of_getElem? (i := 0) rfl))), f129, f130, f131, f132, f133, f134, Fw128, f135, f136, f137, f138, f139, f140, f141, f142, f143, R125_17, R125_18, R125_19, R125_20, R125_21, R125_22, R125_23⟩
abbrev own_e17 (k : Nat) (i : Instr) (l : Nat) : Prop := decode prog_108_method_21_code k = .ok (i, l)
theorem d17_0 : own_e17 0 (.aload_n 0) 1 := by decide +kernel
theorem d17_1 : own_e17 1 (.getfield 20) 3 := by decide +kernel
theorem d17_4 : own_e17 4 (.iload_n 1) 1 := by decide +kernel
theorem d17_5 : own_e17 5 (.iconst 0) 1 := by decide +kernel
theorem d17_6 : own_e17 6 .iastore 1 := by decide +kernel
theorem d17_7 : own_e17 7 (.aload_n 0) 1 := by decide +kernel
theorem d17_8 : own_e17 8 (.getfield 23) 3 := by decide +kernel
theorem d17_11 : own_e17 11 (.iload_n 1) 1 := by decide +kernel
theorem d17_12 : own_e17 12 (.iconst 0) 1 := by decide +kernel
theorem d17_13 : own_e17 13 .iastore 1 := by decide +kernel
theorem d17_14 : own_e17 14 (.aload_n 0) 1 := by decide +kernel
theorem d17_15 : own_e17 15 (.getfield 17) 3 := by decide +kernel
theorem d17_18 : own_e17 18 (.iload_n 1) 1 := by decide +kernel
theorem d17_19 : own_e17 19 (.iconst 0) 1 := by decide +kernel
theorem d17_20 : own_e17 20 .iastore 1 := by decide +kernel
theorem d17_21 : own_e17 21 (.aload_n 0) 1 := by decide +kernel
theorem d17_22 : own_e17 22 (.getfield 13) 3 := by decide +kernel
theorem d17_25 : own_e17 25 (.iload_n 1) 1 := by decide +kernel
theorem d17_26 : own_e17 26 (.aload_n 0) 1 := by decide +kernel
theorem d17_27 : own_e17 27 (.getfield 37) 3 := by decide +kernel
theorem d17_30 : own_e17 30 .iastore 1 := by decide +kernel
theorem d17_31 : own_e17 31 (.aload_n 0) 1 := by decide +kernel
theorem d17_32 : own_e17 32 (.iload_n 1) 1 := by decide +kernel
theorem d17_33 : own_e17 33 (.putfield 37) 3 := by decide +kernel
theorem d17_36 : own_e17 36 (.aload_n 0) 1 := by decide +kernel
theorem d17_37 : own_e17 37 (.iconst 1) 1 := by decide +kernel
theorem d17_38 : own_e17 38 (.putfield 40) 3 := by decide +kernel
theorem d17_41 : own_e17 41 .return_ 1 := by decide +kernel
theorem ef_17 (m : MethodId) (a1 : Addr) (p2 : Int32) : entryFrame m #[(.ref a1), (.int p2)] 2 = mkF m 0 #[.val (.ref a1), .val (.int p2)] [] := by first | (simp [entryFrame, mkF, argsToLocals, Value.category]; done) | rfl
def Q17 (Z : State) (a1 : Addr) (p2 : Int32) (ak : Addr) (ro : Int32) (u_ : Int32) (rs : Int32) (al : Addr) (kl : ClassId) (lL : List Int32) (ar : Addr) (kr : ClassId) (lR : List Int32) (ac : Addr) (kc : ClassId) (lC : List Int32) (au : Addr) (ku : ClassId) (lT : List Int32) (ah : Addr) (kh : ClassId) (lH : List Int32) (h0 : Heap) (n0 : Nat) (v : Option Value) (h : Heap) (L : List Loc) : Prop := v = none ∧ Fr n0 L ∧ Keep h0 h [a1, al, ar, ac, au] ∧ Fld Z h a1 "com/example/prequential/prequential/measure/ScoreMultiset" "key" "[D" (.ref ak) ∧ Fld Z h a1 "com/example/prequential/prequential/measure/ScoreMultiset" "left" "[I" (.ref al) ∧ Fld Z h a1 "com/example/prequential/prequential/measure/ScoreMultiset" "right" "[I" (.ref ar) ∧ Fld Z h a1 "com/example/prequential/prequential/measure/ScoreMultiset" "count" "[I" (.ref ac) ∧ Fld Z h a1 "com/example/prequential/prequential/measure/ScoreMultiset" "total" "[I" (.ref au) ∧ Fld Z h a1 "com/example/prequential/prequential/measure/ScoreMultiset" "height" "[B" (.ref ah) ∧ Fld Z h a1 "com/example/prequential/prequential/measure/ScoreMultiset" "root" "I" (.int ro) ∧ Fld Z h a1 "com/example/prequential/prequential/measure/ScoreMultiset" "unused" "I" (.int u_) ∧ Fld Z h a1 "com/example/prequential/prequential/measure/ScoreMultiset" "freed" "I" (.int p2) ∧ Fld Z h a1 "com/example/prequential/prequential/measure/ScoreMultiset" "reshaped" "Z" (.int (1 : Int32)) ∧ Arv Z h al kl .int (16 : Int32) (own_v (own_p lL p2 (0 : Int32))) (.int (0 : Int32)) ∧ Arv Z h ar kr .int (16 : Int32) (own_v (own_p lR p2 (0 : Int32))) (.int (0 : Int32)) ∧ Arv Z h ac kc .int (16 : Int32) (own_v (own_p lC p2 (0 : Int32))) (.int (0 : Int32)) ∧ Arv Z h au ku .int (16 : Int32) (own_v (own_p lT p2 (0 : Int32))) (.int (0 : Int32)) ∧ Arv Z h ah kh .byte (16 : Int32) (own_v lH) (.int (0 : Int32))
set_option maxRecDepth 65536 in
set_option maxHeartbeats 40000000 in
theorem rm17 (l : Launch) (Z : State) (a0 : Array Value) (hw : ∀ d ∈ tables_1, d.before a0 Z = true) (ws : List Jvm.Cond) (a1 : Addr) (p2 : Int32) (ak : Addr) (ro : Int32) (u_ : Int32) (rs : Int32) (al : Addr) (kl : ClassId) (lL : List Int32) (ar : Addr) (kr : ClassId) (lR : List Int32) (ac : Addr) (kc : ClassId) (lC : List Int32) (au : Addr) (ku : ClassId) (lT : List Int32) (ah : Addr) (kh : ClassId) (lH : List Int32) (h0 : Heap) (n0 : Nat) (Z0 : n0 ≤ h0.size) (H0 : Exa Z h0 a1 "com/example/prequential/prequential/measure/ScoreMultiset") (H1 : Fld Z h0 a1 "com/example/prequential/prequential/measure/ScoreMultiset" "key" "[D" (.ref ak)) (H2 : Fld Z h0 a1 "com/example/prequential/prequential/measure/ScoreMultiset" "left" "[I" (.ref al)) (H3 : Fld Z h0 a1 "com/example/prequential/prequential/measure/ScoreMultiset" "right" "[I" (.ref ar)) (H4 : Fld Z h0 a1 "com/example/prequential/prequential/measure/ScoreMultiset" "count" "[I" (.ref ac)) (H5 : Fld Z h0 a1 "com/example/prequential/prequential/measure/ScoreMultiset" "total" "[I" (.ref au)) (H6 : Fld Z h0 a1 "com/example/prequential/prequential/measure/ScoreMultiset" "height" "[B" (.ref ah)) (H7 : Fld Z h0 a1 "com/example/prequential/prequential/measure/ScoreMultiset" "root" "I" (.int ro)) (H8 : Fld Z h0 a1 "com/example/prequential/prequential/measure/ScoreMultiset" "unused" "I" (.int u_)) (H9 : Fld Z h0 a1 "com/example/prequential/prequential/measure/ScoreMultiset" "freed" "I" (.int (0 : Int32))) (H10 : Fld Z h0 a1 "com/example/prequential/prequential/measure/ScoreMultiset" "reshaped" "Z" (.int rs)) (H11 : Arv Z h0 al kl .int (16 : Int32) (own_v lL) (.int (0 : Int32))) (H12 : Arv Z h0 ar kr .int (16 : Int32) (own_v lR) (.int (0 : Int32))) (H13 : Arv Z h0 ac kc .int (16 : Int32) (own_v lC) (.int (0 : Int32))) (H14 : Arv Z h0 au ku .int (16 : Int32) (own_v lT) (.int (0 : Int32))) (H15 : Arv Z h0 ah kh .byte (16 : Int32) (own_v lH) (.int (0 : Int32))) (H16 : n0 ≤ a1) (H17 : n0 ≤ al) (H18 : n0 ≤ ar) (H19 : n0 ≤ ac) (H20 : n0 ≤ au) (H21 : al ≠ ar) (H22 : al ≠ ac) (H23 : ar ≠ ac) (H24 : al ≠ au) (H25 : ar ≠ au) (H26 : ac ≠ au) (H27 : own_in p2) (H28 : own_rng lL) (H29 : own_rng lR) (H30 : lC.length = 16) (H31 : lT.length = 16) (H32 : lH.length = 16) :
    own_MF l (⟨"com/example/prequential/prequential/measure/ScoreMultiset", "free", "(I)V"⟩ : MethodName) (Jvm.Cond.code (⟨"com/example/prequential/prequential/measure/ScoreMultiset", "free", "(I)V"⟩ : MethodName) prog_108_method_21_code 2 none :: ws) ({ frames := 0, cells := 0, slots := 0, locals := 0 } : Room) #[(.ref a1), (.int p2)] Z h0 (Q17 Z a1 p2 ak ro u_ rs al kl lL ar kr lR ac kc lC au ku lT ah kh lH h0 n0) := by
  refine MetFree.of_bodySF (plainFor_of_name pn_com_example_prequential_prequential_measure_ScoreMultiset) hisR ?_
  intro p e s m args below meth c s₁ Bd hml0 hP hK
  obtain ⟨rfl, hZ, hh⟩ := hP
  have hx := Bd.exec
  have hby := Bd.bytes
  have hml : c.maxLocals = 2 := hml0
  have hown : s.vm.findClass "com/example/prequential/prequential/measure/ScoreMultiset" = some m.cls := findClass_of_methodNamed Bd.named
  have hnm := (name_of_methodNamed Bd.named Bd.method).1
  have X0 : Stand p l e ({ frames := 0, cells := 0, slots := 0, locals := 0 } : Room) s m #[(.ref a1), (.int p2)] below meth c s₁ [] 0 0 := Stand.of_body Bd
  have e0 : s₁.heap = h0 := by rw [← hh, Bd.state]; rfl
  have N0 := Fr.nil n0
  have pre0 : ∀ t, Steps p.tables e below (s₁.setTop (mkF m 0 #[.val (.ref a1), .val (.int p2)] [])) t → Steps p.tables e below (s₁.setTop (entryFrame m #[(.ref a1), (.int p2)] 2)) t := fun t k => castTop (ef_17 m a1 p2) k
  obtain ⟨T101, X101, e101, st101⟩ := getF X0 hx hZ hown (host := "") (Or.inl (own_w hw 18 rfl)) Via.refl e0 H4 (g := (mkF m 1 #[.val (.ref a1), .val (.int p2)] [(.ref a1)])) rfl rfl (hb hby d17_1)
  obtain ⟨cl102, Ar102, qc102, S102, M102, Hh102, G102⟩ := id H13
  have hin102 : ¬ (p2 < 0 ∨ cl102.slots.size ≤ (p2).toNatClampNeg) := inb_of S102 H27
  obtain ⟨T102, h102, X102, e102, W102, st102⟩ := stI X101 hx hZ e101 Ar102 (j := p2) hin102 (g := (mkF m 6 #[.val (.ref a1), .val (.int p2)] [(.int (0 : Int32)), (.int p2), (.ref ac)])) rfl rfl (hb hby d17_6)
  have V102 : Arv Z h102 ac kc .int (16 : Int32) (own_v (own_p lC p2 (0 : Int32))) (.int (0 : Int32)) := by rw [own_vp]; exact Arv.set Ar102 qc102 S102 M102 Hh102 G102 rfl W102 p2.toNatClampNeg (rfl) (own_vlt H27 H30)
  have N102 := Fr.snoc X102 N0 H19
  have ne103 : a1 ≠ ac := Exa.neArv (H0.wr W102) V102 (own_w hw 2 rfl)
  have f104 := (H5.other W102 (Or.inl ne103))
  obtain ⟨T105, X105, e105, st105⟩ := getF X102 hx hZ hown (host := "") (Or.inl (own_w hw 20 rfl)) Via.refl e102 f104 (g := (mkF m 8 #[.val (.ref a1), .val (.int p2)] [(.ref a1)])) rfl rfl (hb hby d17_8)
  have f106 := (H14.other W102 (Ne.symm H26))
  obtain ⟨cl107, Ar107, qc107, S107, M107, Hh107, G107⟩ := id f106
  have hin107 : ¬ (p2 < 0 ∨ cl107.slots.size ≤ (p2).toNatClampNeg) := inb_of S107 H27
  obtain ⟨T107, h107, X107, e107, W107, st107⟩ := stI X105 hx hZ e105 Ar107 (j := p2) hin107 (g := (mkF m 13 #[.val (.ref a1), .val (.int p2)] [(.int (0 : Int32)), (.int p2), (.ref au)])) rfl rfl (hb hby d17_13)
  have V107 : Arv Z h107 au ku .int (16 : Int32) (own_v (own_p lT p2 (0 : Int32))) (.int (0 : Int32)) := by rw [own_vp]; exact Arv.set Ar107 qc107 S107 M107 Hh107 G107 rfl W107 p2.toNatClampNeg (rfl) (own_vlt H27 H31)
  have N107 := Fr.snoc X107 N102 H20
  have ne108 : a1 ≠ au := Exa.neArv ((H0.wr W102).wr W107) V107 (own_w hw 2 rfl)
  have f109 := ((H3.other W102 (Or.inl ne103)).other W107 (Or.inl ne108))
  obtain ⟨T110, X110, e110, st110⟩ := getF X107 hx hZ hown (host := "") (Or.inl (own_w hw 16 rfl)) Via.refl e107 f109 (g := (mkF m 15 #[.val (.ref a1), .val (.int p2)] [(.ref a1)])) rfl rfl (hb hby d17_15)
  have f111 := ((H12.other W102 H23).other W107 H25)
  obtain ⟨cl112, Ar112, qc112, S112, M112, Hh112, G112⟩ := id f111
  have hin112 : ¬ (p2 < 0 ∨ cl112.slots.size ≤ (p2).toNatClampNeg) := inb_of S112 H27
  obtain ⟨T112, h112, X112, e112, W112, st112⟩ := stI X110 hx hZ e110 Ar112 (j := p2) hin112 (g := (mkF m 20 #[.val (.ref a1), .val (.int p2)] [(.int (0 : Int32)), (.int p2), (.ref ar)])) rfl rfl (hb hby d17_20)
  have V112 : Arv Z h112 ar kr .int (16 : Int32) (own_v (own_p lR p2 (0 : Int32))) (.int (0 : Int32)) := by rw [own_vp]; exact Arv.set Ar112 qc112 S112 M112 Hh112 G112 rfl W112 p2.toNatClampNeg (rfl) (own_vlt H27 H29.1)
  have N112 := Fr.snoc X112 N107 H18
  have ne113 : a1 ≠ ar := Exa.neArv (((H0.wr W102).wr W107).wr W112) V112 (own_w hw 2 rfl)
  have f114 := (((H2.other W102 (Or.inl ne103)).other W107 (Or.inl ne108)).other W112 (Or.inl ne113))
  obtain ⟨T115, X115, e115, st115⟩ := getF X112 hx hZ hown (host := "") (Or.inl (own_w hw 14 rfl)) Via.refl e112 f114 (g := (mkF m 22 #[.val (.ref a1), .val (.int p2)] [(.ref a1)])) rfl rfl (hb hby d17_22)
  have f116 := (((H9.other W102 (Or.inl ne103)).other W107 (Or.inl ne108)).other W112 (Or.inl ne113))
  obtain ⟨T117, X117, e117, st117⟩ := getF X115 hx hZ hown (host := "") (Or.inl (own_w hw 29 rfl)) Via.refl e115 f116 (g := (mkF m 27 #[.val (.ref a1), .val (.int p2)] [(.ref a1), (.int p2), (.ref al)])) rfl rfl (hb hby d17_27)
  have f118 := (((H11.other W102 H22).other W107 H24).other W112 H21)
  obtain ⟨cl119, Ar119, qc119, S119, M119, Hh119, G119⟩ := id f118
  have hin119 : ¬ (p2 < 0 ∨ cl119.slots.size ≤ (p2).toNatClampNeg) := inb_of S119 H27
  obtain ⟨T119, h119, X119, e119, W119, st119⟩ := stI X117 hx hZ e117 Ar119 (j := p2) hin119 (g := (mkF m 30 #[.val (.ref a1), .val (.int p2)] [(.int (0 : Int32)), (.int p2), (.ref al)])) rfl rfl (hb hby d17_30)
  have V119 : Arv Z h119 al kl .int (16 : Int32) (own_v (own_p lL p2 (0 : Int32))) (.int (0 : Int32)) := by rw [own_vp]; exact Arv.set Ar119 qc119 S119 M119 Hh119 G119 rfl W119 p2.toNatClampNeg (rfl) (own_vlt H27 H28.1)
  have N119 := Fr.snoc X119 N112 H17
  have ne120 : a1 ≠ al := Exa.neArv ((((H0.wr W102).wr W107).wr W112).wr W119) V119 (own_w hw 2 rfl)
  have f121 := (f116.other W119 (Or.inl ne120))
  have f122 := ((((H0.wr W102).wr W107).wr W112).wr W119)
  obtain ⟨T123, h123, X123, e123, W123, st123⟩ := putF X119 hx hZ hown (host := "") (Or.inl (own_w hw 29 rfl)) Via.refl e119 f121 f122 (Or.inl (own_w hw 30 rfl)) (own_w hw 2 rfl) (ty := .int) (by decide) rfl rfl (g := (mkF m 33 #[.val (.ref a1), .val (.int p2)] [(.int p2), (.ref a1)])) rfl rfl (hb hby d17_33)
  have Fw123 := f121.same W123
  have N123 := Fr.snoc X123 N119 H16
  have f124 := (((((H10.other W102 (Or.inl ne103)).other W107 (Or.inl ne108)).other W112 (Or.inl ne113)).other W119 (Or.inl ne120)).other W123 (Or.inr (slot_ne (Or.inl (own_w hw 37 rfl)) (Or.inl (own_w hw 30 rfl)) (by decide) (t := .boolean) (t' := .int) (by decide) (by decide))))
  have f125 := (f122.wr W123)
  obtain ⟨T126, h126, X126, e126, W126, st126⟩ := putFN X123 hx hZ hown (own_w hw 36 rfl) Via.refl e123 f124 f125 (Or.inl (own_w hw 37 rfl)) (own_w hw 2 rfl) (ty := .boolean) (v' := (.int (nar .boolean (1 : Int32)))) (by decide) rfl (fits_nar_bool _) (g := (mkF m 38 #[.val (.ref a1), .val (.int p2)] [(.int (1 : Int32)), (.ref a1)])) rfl rfl (hb hby d17_38)
  rw [show nar .boolean (1 : Int32) = (1 : Int32) from by decide] at W126
  have Fw126 := f124.same W126
  have N126 := Fr.snoc X126 N123 H16
  have f127 := ((((((H1.other W102 (Or.inl ne103)).other W107 (Or.inl ne108)).other W112 (Or.inl ne113)).other W119 (Or.inl ne120)).other W123 (Or.inr (slot_ne (Or.inl (own_w hw 12 rfl)) (Or.inl (own_w hw 30 rfl)) (by decide) (t := (.array .double)) (t' := .int) (by decide) (by decide)))).other W126 (Or.inr (slot_ne (Or.inl (own_w hw 12 rfl)) (Or.inl (own_w hw 37 rfl)) (by decide) (t := (.array .double)) (t' := .boolean) (by decide) (by decide))))
  have f128 := (((f114.other W119 (Or.inl ne120)).other W123 (Or.inr (slot_ne (Or.inl (own_w hw 15 rfl)) (Or.inl (own_w hw 30 rfl)) (by decide) (t := (.array .int)) (t' := .int) (by decide) (by decide)))).other W126 (Or.inr (slot_ne (Or.inl (own_w hw 15 rfl)) (Or.inl (own_w hw 37 rfl)) (by decide) (t := (.array .int)) (t' := .boolean) (by decide) (by decide))))
  have f129 := ((((f109.other W112 (Or.inl ne113)).other W119 (Or.inl ne120)).other W123 (Or.inr (slot_ne (Or.inl (own_w hw 17 rfl)) (Or.inl (own_w hw 30 rfl)) (by decide) (t := (.array .int)) (t' := .int) (by decide) (by decide)))).other W126 (Or.inr (slot_ne (Or.inl (own_w hw 17 rfl)) (Or.inl (own_w hw 37 rfl)) (by decide) (t := (.array .int)) (t' := .boolean) (by decide) (by decide))))
  have f130 := ((((((H4.other W102 (Or.inl ne103)).other W107 (Or.inl ne108)).other W112 (Or.inl ne113)).other W119 (Or.inl ne120)).other W123 (Or.inr (slot_ne (Or.inl (own_w hw 19 rfl)) (Or.inl (own_w hw 30 rfl)) (by decide) (t := (.array .int)) (t' := .int) (by decide) (by decide)))).other W126 (Or.inr (slot_ne (Or.inl (own_w hw 19 rfl)) (Or.inl (own_w hw 37 rfl)) (by decide) (t := (.array .int)) (t' := .boolean) (by decide) (by decide))))
  have f131 := (((((f104.other W107 (Or.inl ne108)).other W112 (Or.inl ne113)).other W119 (Or.inl ne120)).other W123 (Or.inr (slot_ne (Or.inl (own_w hw 21 rfl)) (Or.inl (own_w hw 30 rfl)) (by decide) (t := (.array .int)) (t' := .int) (by decide) (by decide)))).other W126 (Or.inr (slot_ne (Or.inl (own_w hw 21 rfl)) (Or.inl (own_w hw 37 rfl)) (by decide) (t := (.array .int)) (t' := .boolean) (by decide) (by decide))))
  have f132 := ((((((H6.other W102 (Or.inl ne103)).other W107 (Or.inl ne108)).other W112 (Or.inl ne113)).other W119 (Or.inl ne120)).other W123 (Or.inr (slot_ne (Or.inl (own_w hw 24 rfl)) (Or.inl (own_w hw 30 rfl)) (by decide) (t := (.array .byte)) (t' := .int) (by decide) (by decide)))).other W126 (Or.inr (slot_ne (Or.inl (own_w hw 24 rfl)) (Or.inl (own_w hw 37 rfl)) (by decide) (t := (.array .byte)) (t' := .boolean) (by decide) (by decide))))
  have f133 := ((((((H7.other W102 (Or.inl ne103)).other W107 (Or.inl ne108)).other W112 (Or.inl ne113)).other W119 (Or.inl ne120)).other W123 (Or.inr (slot_ne (Or.inl (own_w hw 26 rfl)) (Or.inl (own_w hw 30 rfl)) (by decide) (t := .int) (t' := .int) (by decide) (by decide)))).other W126 (Or.inr (slot_ne (Or.inl (own_w hw 26 rfl)) (Or.inl (own_w hw 37 rfl)) (by decide) (t := .int) (t' := .boolean) (by decide) (by decide))))
  have f134 := ((((((H8.other W102 (Or.inl ne103)).other W107 (Or.inl ne108)).other W112 (Or.inl ne113)).other W119 (Or.inl ne120)).other W123 (Or.inr (slot_ne (Or.inl (own_w hw 28 rfl)) (Or.inl (own_w hw 30 rfl)) (by decide) (t := .int) (t' := .int) (by decide) (by decide)))).other W126 (Or.inr (slot_ne (Or.inl (own_w hw 28 rfl)) (Or.inl (own_w hw 37 rfl)) (by decide) (t := .int) (t' := .boolean) (by decide) (by decide))))
  have f135 := (Fw123.other W126 (Or.inr (slot_ne (Or.inl (own_w hw 30 rfl)) (Or.inl (own_w hw 37 rfl)) (by decide) (t := .int) (t' := .boolean) (by decide) (by decide))))
  have f136 := ((V119.other W123 (Ne.symm ne120)).other W126 (Ne.symm ne120))
  have f137 := (((V112.other W119 (Ne.symm H21)).other W123 (Ne.symm ne113)).other W126 (Ne.symm ne113))
  have f138 := (((((V102.other W107 H26).other W112 (Ne.symm H23)).other W119 (Ne.symm H22)).other W123 (Ne.symm ne103)).other W126 (Ne.symm ne103))
  have f139 := ((((V107.other W112 (Ne.symm H25)).other W119 (Ne.symm H24)).other W123 (Ne.symm ne108)).other W126 (Ne.symm ne108))
  have ne140 : ah ≠ ac := own_ne_arv H15 H13 (by decide)
  have ne141 : ah ≠ au := own_ne_arv H15 H14 (by decide)
  have ne142 : ah ≠ ar := own_ne_arv H15 H12 (by decide)
  have ne143 : ah ≠ al := own_ne_arv H15 H11 (by decide)
  have ne144 : a1 ≠ ah := Exa.neArv H0 H15 (own_w hw 2 rfl)
  have f145 := ((((((H15.other W102 ne140).other W107 ne141).other W112 ne142).other W119 ne143).other W123 (Ne.symm ne144)).other W126 (Ne.symm ne144))
  obtain ⟨fs, hr, hrun, hended, hW, hsame⟩ := X126.leave (v := none) (fun _ => rfl) (BodyLoose.notSynchronized Bd)
  refine ⟨_, _, pre0 _ ?_, hrun, hended, _, _, rfl, ?_, ⟨_, rfl⟩, hW, hsame.mono (by decide) (by decide)⟩
  · skip
    show Steps p.tables e below (s₁.setTop (mkF m 0 #[.val (.ref a1), .val (.int p2)] [])) _
    refine XS.aloadN X0.here hx rfl (hb hby d17_0) rfl rfl ?_
    refine st101 _ ?_
    refine XS.iloadN X101.here hx rfl (hb hby d17_4) rfl ?_
    refine XS.iconst X101.here hx rfl (hb hby d17_5) ?_
    refine st102 _ ?_
    refine XS.aloadN X102.here hx rfl (hb hby d17_7) rfl rfl ?_
    refine st105 _ ?_
    refine XS.iloadN X105.here hx rfl (hb hby d17_11) rfl ?_
    refine XS.iconst X105.here hx rfl (hb hby d17_12) ?_
    refine st107 _ ?_
    show Steps p.tables e below (T107.setTop (mkF m 14 #[.val (.ref a1), .val (.int p2)] [])) _
    refine XS.aloadN X107.here hx rfl (hb hby d17_14) rfl rfl ?_
    refine st110 _ ?_
    refine XS.iloadN X110.here hx rfl (hb hby d17_18) rfl ?_
    refine XS.iconst X110.here hx rfl (hb hby d17_19) ?_
    refine st112 _ ?_
    refine XS.aloadN X112.here hx rfl (hb hby d17_21) rfl rfl ?_
    refine st115 _ ?_
    refine XS.iloadN X115.here hx rfl (hb hby d17_25) rfl ?_
    refine XS.aloadN X115.here hx rfl (hb hby d17_26) rfl rfl ?_
    refine st117 _ ?_
    show Steps p.tables e below (T117.setTop (mkF m 30 #[.val (.ref a1), .val (.int p2)] [(.int (0 : Int32)), (.int p2), (.ref al)])) _
    refine st119 _ ?_
    refine XS.aloadN X119.here hx rfl (hb hby d17_31) rfl rfl ?_
    refine XS.iloadN X119.here hx rfl (hb hby d17_32) rfl ?_
    refine st123 _ ?_
    refine XS.aloadN X123.here hx rfl (hb hby d17_36) rfl rfl ?_
    refine XS.iconst X123.here hx rfl (hb hby d17_37) ?_
    refine st126 _ ?_
    show Steps p.tables e below (T126.setTop (mkF m 41 #[.val (.ref a1), .val (.int p2)] [])) _
    exact X126.returnOut hx Bd.returns (hb hby d17_41) hr
  · show Q17 Z a1 p2 ak ro u_ rs al kl lL ar kr lR ac kc lC au ku lT ah kh lH h0 n0 _ T126.heap _
    rw [e126]
    exact ⟨rfl, N126, (((((((Keep.refl h0 [a1, al, ar, ac, au]).wr W102 (Or.inl (List.mem_of_getElem? (i := 3) rfl))).wr W107 (Or.inl (List.mem_of_getElem? (i := 4) rfl))).wr W112 (Or.inl (List.mem_of_getElem? (i := 2) rfl))).wr W119 (Or.inl (List.mem_of_getElem? (i := 1) rfl))).wr W123 (Or.inl (List.mem_of_getElem? (i := 0) rfl))).wr W126 (Or.inl (List.mem_of_getElem? (i := 0) rfl))), f127, f128, f129, f130, f131, f132, f133, f134, f135, Fw126, f136, f137, f138, f139, f145⟩
abbrev own_e18 (k : Nat) (i : Instr) (l : Nat) : Prop := decode prog_108_method_14_code k = .ok (i, l)
theorem d18_0 : own_e18 0 (.aload_n 0) 1 := by decide +kernel
theorem d18_1 : own_e18 1 (.getfield 13) 3 := by decide +kernel
theorem d18_4 : own_e18 4 (.iload_n 1) 1 := by decide +kernel
theorem d18_5 : own_e18 5 .iaload 1 := by decide +kernel
theorem d18_6 : own_e18 6 (.ifCond .ne 17) 3 := by decide +kernel
theorem d18_9 : own_e18 9 (.aload_n 0) 1 := by decide +kernel
theorem d18_10 : own_e18 10 (.getfield 17) 3 := by decide +kernel
theorem d18_13 : own_e18 13 (.iload_n 1) 1 := by decide +kernel
theorem d18_14 : own_e18 14 .iaload 1 := by decide +kernel
theorem d18_15 : own_e18 15 (.istore_n 3) 1 := by decide +kernel
theorem d18_16 : own_e18 16 (.aload_n 0) 1 := by decide +kernel
theorem d18_17 : own_e18 17 (.iload_n 1) 1 := by decide +kernel
theorem d18_18 : own_e18 18 (.invokevirtual 88) 3 := by decide +kernel
theorem d18_21 : own_e18 21 (.iload_n 3) 1 := by decide +kernel
theorem d18_22 : own_e18 22 .ireturn 1 := by decide +kernel
theorem ef_18d1 (m : MethodId) (a1 : Addr) (p2 : Int32) (p3 : Int32) : entryFrame m #[(.ref a1), (.int p2), (.int p3)] 4 = mkF m 0 #[.val (.ref a1), .val (.int p2), .val (.int p3), .unset] [] := by first | (simp [entryFrame, mkF, argsToLocals, Value.category]; done) | rfl
def Q18d1 (Z : State) (a1 : Addr) (p2 : Int32) (p3 : Int32) (ak : Addr) (ro : Int32) (u_ : Int32) (rs : Int32) (al : Addr) (kl : ClassId) (lL : List Int32) (ar : Addr) (kr : ClassId) (lR : List Int32) (ac : Addr) (kc : ClassId) (lC : List Int32) (au : Addr) (ku : ClassId) (lT : List Int32) (ah : Addr) (kh : ClassId) (lH : List Int32) (kk : ClassId) (kK : List Nat) (val : Nat → UInt64) (h0 : Heap) (n0 : Nat) (v : Option Value) (h : Heap) (L : List Loc) : Prop := ∃ (lL2 : List Int32) (lR2 : List Int32) (lC2 : List Int32) (lT2 : List Int32) (lH2 : List Int32) (kK2 : List Nat) (u2 : Int32) (f2 : Int32) (r2 : Int32) (v2 : Int32), v = some (.int v2) ∧ Fr n0 L ∧ Keep h0 h [a1, ak, al, ar, ac, au, ah] ∧ Fld Z h a1 "com/example/prequential/prequential/measure/ScoreMultiset" "key" "[D" (.ref ak) ∧ Fld Z h a1 "com/example/prequential/prequential/measure/ScoreMultiset" "left" "[I" (.ref al) ∧ Fld Z h a1 "com/example/prequential/prequential/measure/ScoreMultiset" "right" "[I" (.ref ar) ∧ Fld Z h a1 "com/example/prequential/prequential/measure/ScoreMultiset" "count" "[I" (.ref ac) ∧ Fld Z h a1 "com/example/prequential/prequential/measure/ScoreMultiset" "total" "[I" (.ref au) ∧ Fld Z h a1 "com/example/prequential/prequential/measure/ScoreMultiset" "height" "[B" (.ref ah) ∧ Fld Z h a1 "com/example/prequential/prequential/measure/ScoreMultiset" "root" "I" (.int ro) ∧ Fld Z h a1 "com/example/prequential/prequential/measure/ScoreMultiset" "unused" "I" (.int u2) ∧ Fld Z h a1 "com/example/prequential/prequential/measure/ScoreMultiset" "freed" "I" (.int f2) ∧ Fld Z h a1 "com/example/prequential/prequential/measure/ScoreMultiset" "reshaped" "Z" (.int r2) ∧ Arv Z h al kl .int (16 : Int32) (own_v lL2) (.int (0 : Int32)) ∧ Arv Z h ar kr .int (16 : Int32) (own_v lR2) (.int (0 : Int32)) ∧ Arv Z h ac kc .int (16 : Int32) (own_v lC2) (.int (0 : Int32)) ∧ Arv Z h au ku .int (16 : Int32) (own_v lT2) (.int (0 : Int32)) ∧ Arv Z h ah kh .byte (16 : Int32) (own_v lH2) (.int (0 : Int32)) ∧ own_Kar Z h ak kk kK2 val ∧ own_rng lL2 ∧ own_rng lR2 ∧ lC2.length = 16 ∧ lT2.length = 16 ∧ lH2.length = 16 ∧ own_in v2 ∧ own_ul1 (lL, lR, lC, lT, lH, kK, u_, (0 : Int32), rs) p2 p3 = ((lL2, lR2, lC2, lT2, lH2, kK2, u2, f2, r2), v2)
set_option maxRecDepth 65536 in
set_option maxHeartbeats 40000000 in
theorem rm18d1 (l : Launch) (Z : State) (a0 : Array Value) (hw : ∀ d ∈ tables_1, d.before a0 Z = true) (ws : List Jvm.Cond) (a1 : Addr) (p2 : Int32) (p3 : Int32) (ak : Addr) (ro : Int32) (u_ : Int32) (rs : Int32) (al : Addr) (kl : ClassId) (lL : List Int32) (ar : Addr) (kr : ClassId) (lR : List Int32) (ac : Addr) (kc : ClassId) (lC : List Int32) (au : Addr) (ku : ClassId) (lT : List Int32) (ah : Addr) (kh : ClassId) (lH : List Int32) (kk : ClassId) (kK : List Nat) (val : Nat → UInt64) (h0 : Heap) (n0 : Nat) (Z0 : n0 ≤ h0.size) (H0 : Exa Z h0 a1 "com/example/prequential/prequential/measure/ScoreMultiset") (H1 : Fld Z h0 a1 "com/example/prequential/prequential/measure/ScoreMultiset" "key" "[D" (.ref ak)) (H2 : Fld Z h0 a1 "com/example/prequential/prequential/measure/ScoreMultiset" "left" "[I" (.ref al)) (H3 : Fld Z h0 a1 "com/example/prequential/prequential/measure/ScoreMultiset" "right" "[I" (.ref ar)) (H4 : Fld Z h0 a1 "com/example/prequential/prequential/measure/ScoreMultiset" "count" "[I" (.ref ac)) (H5 : Fld Z h0 a1 "com/example/prequential/prequential/measure/ScoreMultiset" "total" "[I" (.ref au)) (H6 : Fld Z h0 a1 "com/example/prequential/prequential/measure/ScoreMultiset" "height" "[B" (.ref ah)) (H7 : Fld Z h0 a1 "com/example/prequential/prequential/measure/ScoreMultiset" "root" "I" (.int ro)) (H8 : Fld Z h0 a1 "com/example/prequential/prequential/measure/ScoreMultiset" "unused" "I" (.int u_)) (H9 : Fld Z h0 a1 "com/example/prequential/prequential/measure/ScoreMultiset" "freed" "I" (.int (0 : Int32))) (H10 : Fld Z h0 a1 "com/example/prequential/prequential/measure/ScoreMultiset" "reshaped" "Z" (.int rs)) (H11 : Arv Z h0 al kl .int (16 : Int32) (own_v lL) (.int (0 : Int32))) (H12 : Arv Z h0 ar kr .int (16 : Int32) (own_v lR) (.int (0 : Int32))) (H13 : Arv Z h0 ac kc .int (16 : Int32) (own_v lC) (.int (0 : Int32))) (H14 : Arv Z h0 au ku .int (16 : Int32) (own_v lT) (.int (0 : Int32))) (H15 : Arv Z h0 ah kh .byte (16 : Int32) (own_v lH) (.int (0 : Int32))) (H16 : own_Kar Z h0 ak kk kK val) (H17 : n0 ≤ a1) (H18 : n0 ≤ ak) (H19 : n0 ≤ al) (H20 : n0 ≤ ar) (H21 : n0 ≤ ac) (H22 : n0 ≤ au) (H23 : n0 ≤ ah) (H24 : al ≠ ar) (H25 : al ≠ ac) (H26 : ar ≠ ac) (H27 : al ≠ au) (H28 : ar ≠ au) (H29 : ac ≠ au) (H30 : own_rng lL) (H31 : own_rng lR) (H32 : lC.length = 16) (H33 : lT.length = 16) (H34 : lH.length = 16) (H35 : own_in p2) (H36 : own_low1 lL p2 = true) :
    own_MF l (⟨"com/example/prequential/prequential/measure/ScoreMultiset", "unlinkLowest", "(II)I"⟩ : MethodName) (Jvm.Cond.code (⟨"com/example/prequential/prequential/measure/ScoreMultiset", "unlinkLowest", "(II)I"⟩ : MethodName) prog_108_method_14_code 4 (some .int) :: ws) ({ frames := 1, cells := 0, slots := 0, locals := 13 } : Room) #[(.ref a1), (.int p2), (.int p3)] Z h0 (Q18d1 Z a1 p2 p3 ak ro u_ rs al kl lL ar kr lR ac kc lC au ku lT ah kh lH kk kK val h0 n0) := by
  refine MetFree.of_bodySF (plainFor_of_name pn_com_example_prequential_prequential_measure_ScoreMultiset) hisR ?_
  intro p e s m args below meth c s₁ Bd hml0 hP hK
  obtain ⟨rfl, hZ, hh⟩ := hP
  have hx := Bd.exec
  have hby := Bd.bytes
  have hml : c.maxLocals = 4 := hml0
  have hown : s.vm.findClass "com/example/prequential/prequential/measure/ScoreMultiset" = some m.cls := findClass_of_methodNamed Bd.named
  have hnm := (name_of_methodNamed Bd.named Bd.method).1
  have X0 : Stand p l e ({ frames := 1, cells := 0, slots := 0, locals := 13 } : Room) s m #[(.ref a1), (.int p2), (.int p3)] below meth c s₁ [] 0 0 := Stand.of_body Bd
  have e0 : s₁.heap = h0 := by rw [← hh, Bd.state]; rfl
  have N0 := Fr.nil n0
  have pre0 : ∀ t, Steps p.tables e below (s₁.setTop (mkF m 0 #[.val (.ref a1), .val (.int p2), .val (.int p3), .unset] [])) t → Steps p.tables e below (s₁.setTop (entryFrame m #[(.ref a1), (.int p2), (.int p3)] 4)) t := fun t k => castTop (ef_18d1 m a1 p2 p3) k
  obtain ⟨T101, X101, e101, st101⟩ := getF X0 hx hZ hown (host := "") (Or.inl (own_w hw 14 rfl)) Via.refl e0 H2 (g := (mkF m 1 #[.val (.ref a1), .val (.int p2), .val (.int p3), .unset] [(.ref a1)])) rfl rfl (hb hby d18_1)
  obtain ⟨T103, X103, e103, st103⟩ := getF X101 hx hZ hown (host := "") (Or.inl (own_w hw 16 rfl)) Via.refl e101 H3 (g := (mkF m 10 #[.val (.ref a1), .val (.int p2), .val (.int p3), .unset] [(.ref a1)])) rfl rfl (hb hby d18_10)
  obtain ⟨cq105, q105, q105'⟩ := H0.cell
  obtain ⟨_, _, ⟨T105, L105, k105, n105⟩, -, X105, ⟨Lc105, hQ105, l105, y105, z105⟩, st105⟩ := X103.privateBack hx (y := (⟨"com/example/prequential/prequential/measure/ScoreMultiset", "free", "(I)V"⟩ : MethodName)) hown (mvT hZ (own_w hw 92 rfl)) (mvT hZ (own_w hw 93 rfl)) (mvT hZ (own_selp (by decide) (own_w hw 2 rfl) (own_w hw 94 rfl) (own_w hw 93 rfl))) (Cond.privateMethod_at (mvP hZ (own_w hw 94 rfl) (args := #[]))) (mvT hZ (own_w hw 95 rfl)) (by decide) (backOf (W := 0) (rm17 l Z a0 hw [] a1 p2 ak ro u_ rs al kl lL ar kr lR ac kc lC au ku lT ah kh lH h0 n0 Z0 H0 H1 H2 H3 H4 H5 H6 H7 H8 H9 H10 H11 H12 H13 H14 H15 H17 H19 H20 H21 H22 H24 H25 H26 H27 H28 H29 H35 H30 H31 H32 H33 H34) hZ (own_w hw 95 rfl) (own_w hw 3 rfl) (by decide) (by decide)) (g := (mkF m 18 #[.val (.ref a1), .val (.int p2), .val (.int p3), .val (.int (own_g lR p2))] [(.int p2), (.ref a1)])) rfl (by rw [hml]; rfl) (Steps.refl _) (a := a1) (by rw [e103]; exact q105) q105' (argsL := [(.int p2)]) (rest := []) (lenOf pd_1 rfl) rfl (by show 2 * 0 + _ ≤ _; exact Nat.le_of_eq rfl) (hb hby d18_18) (fun _ _ => ⟨rfl, e103, (by decide : 0 + 0 ≤ _), (by decide : 0 + 0 ≤ _)⟩)
  dsimp only [Pt.U, Pt.locs, Pt.cells, Pt.slots] at X105 l105 y105 z105 st105 hQ105
  subst l105 y105 z105
  obtain ⟨rfl, Nq105, K105, R105_1, R105_2, R105_3, R105_4, R105_5, R105_6, R105_7, R105_8, R105_9, R105_10, R105_11, R105_12, R105_13, R105_14, R105_15⟩ := hQ105
  have N105 := Fr.app N0 Nq105
  have ne106 : au ≠ ak := own_ne_kv H14 H16 (by decide)
  have ne107 : ac ≠ ak := own_ne_kv H13 H16 (by decide)
  have ne108 : ar ≠ ak := own_ne_kv H12 H16 (by decide)
  have ne109 : al ≠ ak := own_ne_kv H11 H16 (by decide)
  have ne110 : a1 ≠ ak := own_ne_kar H0 (own_w hw 2 rfl) H16
  have f111 := (H16.keep K105 (ninS (Ne.symm ne110) (ninS (Ne.symm ne109) (ninS (Ne.symm ne108) (ninS (Ne.symm ne107) (ninS (Ne.symm ne106) nin0))))))
  obtain ⟨fs, hr, hrun, hended, hW, hsame⟩ := X105.leave (v := some (.int (own_g lR p2))) (fun h => by rw [Bd.returns] at h; cases h) (BodyLoose.notSynchronized Bd)
  refine ⟨_, _, pre0 _ ?_, hrun, hended, _, _, rfl, ?_, ⟨_, rfl⟩, hW, hsame.mono (by decide) (by decide)⟩
  · skip
    show Steps p.tables e below (s₁.setTop (mkF m 0 #[.val (.ref a1), .val (.int p2), .val (.int p3), .unset] [])) _
    refine XS.aloadN X0.here hx rfl (hb hby d18_0) rfl rfl ?_
    refine st101 _ ?_
    refine XS.iloadN X101.here hx rfl (hb hby d18_4) rfl ?_
    show Steps p.tables e below (T101.setTop (mkF m 5 #[.val (.ref a1), .val (.int p2), .val (.int p3), .unset] [(.int p2), (.ref al)])) _
    refine own_ia X101 hx hZ e101 H11 H35 (hb hby d18_5) ?_
    show Steps p.tables e below (T101.setTop (mkF m 6 #[.val (.ref a1), .val (.int p2), .val (.int p3), .unset] [(.int (own_g lL p2))])) _
    refine XS.ifNo X101.here hx rfl (hb hby d18_6) rfl ((if0 _ _).trans (teq (own_low_1 H36 : (own_g lL p2) = (0 : Int32))).2) ?_
    refine XS.aloadN X101.here hx rfl (hb hby d18_9) rfl rfl ?_
    refine st103 _ ?_
    refine XS.iloadN X103.here hx rfl (hb hby d18_13) rfl ?_
    show Steps p.tables e below (T103.setTop (mkF m 14 #[.val (.ref a1), .val (.int p2), .val (.int p3), .unset] [(.int p2), (.ref ar)])) _
    refine own_ia X103 hx hZ e103 H12 H35 (hb hby d18_14) ?_
    show Steps p.tables e below (T103.setTop (mkF m 15 #[.val (.ref a1), .val (.int p2), .val (.int p3), .unset] [(.int (own_g lR p2))])) _
    refine XS.istoreN X103.here hx rfl (hb hby d18_15) rfl (l' := #[.val (.ref a1), .val (.int p2), .val (.int p3), .val (.int (own_g lR p2))]) rfl ?_
    refine XS.aloadN X103.here hx rfl (hb hby d18_16) rfl rfl ?_
    refine XS.iloadN X103.here hx rfl (hb hby d18_17) rfl ?_
    show Steps p.tables e below (T103.setTop (mkF m 18 #[.val (.ref a1), .val (.int p2), .val (.int p3), .val (.int (own_g lR p2))] [(.int p2), (.ref a1)])) _
    refine st105.trans ?_
    show Steps p.tables e below (T105.setTop (mkF m 21 #[.val (.ref a1), .val (.int p2), .val (.int p3), .val (.int (own_g lR p2))] [])) _
    refine XS.iloadN X105.here hx rfl (hb hby d18_21) rfl ?_
    show Steps p.tables e below (T105.setTop (mkF m 22 #[.val (.ref a1), .val (.int p2), .val (.int p3), .val (.int (own_g lR p2))] [(.int (own_g lR p2))])) _
    exact retI X105 hx Bd.returns (hb hby d18_22) hr
  · show Q18d1 Z a1 p2 p3 ak ro u_ rs al kl lL ar kr lR ac kc lC au ku lT ah kh lH kk kK val h0 n0 _ T105.heap _
    exact ⟨(own_p lL p2 (0 : Int32)), (own_p lR p2 (0 : Int32)), (own_p lC p2 (0 : Int32)), (own_p lT p2 (0 : Int32)), lH, kK, u_, p2, (1 : Int32), (own_g lR p2), rfl, N105, ((Keep.refl h0 [a1, ak, al, ar, ac, au, ah]).trans K105 (allS (P := (fun x => x ∈ [a1, ak, al, ar, ac, au, ah] ∨ h0.size ≤ x)) (Or.inl (List.mem_of_getElem? (i := 0) rfl)) (allS (P := (fun x => x ∈ [a1, ak, al, ar, ac, au, ah] ∨ h0.size ≤ x)) (Or.inl (List.mem_of_getElem? (i := 2) rfl)) (allS (P := (fun x => x ∈ [a1, ak, al, ar, ac, au, ah] ∨ h0.size ≤ x)) (Or.inl (List.mem_of_getElem? (i := 3) rfl)) (allS (P := (fun x => x ∈ [a1, ak, al, ar, ac, au, ah] ∨ h0.size ≤ x)) (Or.inl (List.mem_of_getElem? (i := 4) rfl)) (allS (P := (fun x => x ∈ [a1, ak, al, ar, ac, au, ah] ∨ h0.size ≤ x)) (Or.inl (List.mem_of_getElem? (i := 5) rfl)) all0)))))), R105_1, R105_2, R105_3, R105_4, R105_5, R105_6, R105_7, R105_8, R105_9, R105_10, R105_11, R105_12, R105_13, R105_14, R105_15, f111, (own_rngp H30 (by decide)), (own_rngp H31 (by decide)), (own_16p H32), (own_16p H33), H34, (H31.2 _), (by simp only [own_ul1, own_fre, own_il, own_ir, own_fin, own_fw, if_true, if_false])⟩
theorem d18_23 : own_e18 23 (.aload_n 0) 1 := by decide +kernel
theorem d18_24 : own_e18 24 (.getfield 13) 3 := by decide +kernel
theorem d18_27 : own_e18 27 (.iload_n 1) 1 := by decide +kernel
theorem d18_28 : own_e18 28 (.aload_n 0) 1 := by decide +kernel
theorem d18_29 : own_e18 29 (.aload_n 0) 1 := by decide +kernel
theorem d18_30 : own_e18 30 (.getfield 13) 3 := by decide +kernel
theorem d18_33 : own_e18 33 (.iload_n 1) 1 := by decide +kernel
theorem d18_34 : own_e18 34 .iaload 1 := by decide +kernel
theorem d18_35 : own_e18 35 (.iload_n 2) 1 := by decide +kernel
theorem d18_36 : own_e18 36 (.invokevirtual 92) 3 := by decide +kernel
theorem d18_39 : own_e18 39 .iastore 1 := by decide +kernel
theorem d18_40 : own_e18 40 (.aload_n 0) 1 := by decide +kernel
theorem d18_41 : own_e18 41 (.iload_n 1) 1 := by decide +kernel
theorem d18_42 : own_e18 42 (.iload_n 2) 1 := by decide +kernel
theorem d18_43 : own_e18 43 .ineg 1 := by decide +kernel
theorem d18_44 : own_e18 44 (.invokevirtual 71) 3 := by decide +kernel
theorem d18_47 : own_e18 47 .ireturn 1 := by decide +kernel
theorem ef_18d2 (m : MethodId) (a1 : Addr) (p2 : Int32) (p3 : Int32) : entryFrame m #[(.ref a1), (.int p2), (.int p3)] 4 = mkF m 0 #[.val (.ref a1), .val (.int p2), .val (.int p3), .unset] [] := by first | (simp [entryFrame, mkF, argsToLocals, Value.category]; done) | rfl
def Q18d2 (Z : State) (a1 : Addr) (p2 : Int32) (p3 : Int32) (ak : Addr) (ro : Int32) (u_ : Int32) (rs : Int32) (al : Addr) (kl : ClassId) (lL : List Int32) (ar : Addr) (kr : ClassId) (lR : List Int32) (ac : Addr) (kc : ClassId) (lC : List Int32) (au : Addr) (ku : ClassId) (lT : List Int32) (ah : Addr) (kh : ClassId) (lH : List Int32) (kk : ClassId) (kK : List Nat) (val : Nat → UInt64) (h0 : Heap) (n0 : Nat) (v : Option Value) (h : Heap) (L : List Loc) : Prop := ∃ (lL2 : List Int32) (lR2 : List Int32) (lC2 : List Int32) (lT2 : List Int32) (lH2 : List Int32) (kK2 : List Nat) (u2 : Int32) (f2 : Int32) (r2 : Int32) (v2 : Int32), v = some (.int v2) ∧ Fr n0 L ∧ Keep h0 h [a1, ak, al, ar, ac, au, ah] ∧ Fld Z h a1 "com/example/prequential/prequential/measure/ScoreMultiset" "key" "[D" (.ref ak) ∧ Fld Z h a1 "com/example/prequential/prequential/measure/ScoreMultiset" "left" "[I" (.ref al) ∧ Fld Z h a1 "com/example/prequential/prequential/measure/ScoreMultiset" "right" "[I" (.ref ar) ∧ Fld Z h a1 "com/example/prequential/prequential/measure/ScoreMultiset" "count" "[I" (.ref ac) ∧ Fld Z h a1 "com/example/prequential/prequential/measure/ScoreMultiset" "total" "[I" (.ref au) ∧ Fld Z h a1 "com/example/prequential/prequential/measure/ScoreMultiset" "height" "[B" (.ref ah) ∧ Fld Z h a1 "com/example/prequential/prequential/measure/ScoreMultiset" "root" "I" (.int ro) ∧ Fld Z h a1 "com/example/prequential/prequential/measure/ScoreMultiset" "unused" "I" (.int u2) ∧ Fld Z h a1 "com/example/prequential/prequential/measure/ScoreMultiset" "freed" "I" (.int f2) ∧ Fld Z h a1 "com/example/prequential/prequential/measure/ScoreMultiset" "reshaped" "Z" (.int r2) ∧ Arv Z h al kl .int (16 : Int32) (own_v lL2) (.int (0 : Int32)) ∧ Arv Z h ar kr .int (16 : Int32) (own_v lR2) (.int (0 : Int32)) ∧ Arv Z h ac kc .int (16 : Int32) (own_v lC2) (.int (0 : Int32)) ∧ Arv Z h au ku .int (16 : Int32) (own_v lT2) (.int (0 : Int32)) ∧ Arv Z h ah kh .byte (16 : Int32) (own_v lH2) (.int (0 : Int32)) ∧ own_Kar Z h ak kk kK2 val ∧ own_rng lL2 ∧ own_rng lR2 ∧ lC2.length = 16 ∧ lT2.length = 16 ∧ lH2.length = 16 ∧ own_in v2 ∧ own_ul2 (lL, lR, lC, lT, lH, kK, u_, (0 : Int32), rs) p2 p3 = ((lL2, lR2, lC2, lT2, lH2, kK2, u2, f2, r2), v2)
set_option maxRecDepth 65536 in
set_option maxHeartbeats 40000000 in
theorem rm18d2 (l : Launch) (Z : State) (a0 : Array Value) (hw : ∀ d ∈ tables_1, d.before a0 Z = true) (ws : List Jvm.Cond) (a1 : Addr) (p2 : Int32) (p3 : Int32) (ak : Addr) (ro : Int32) (u_ : Int32) (rs : Int32) (al : Addr) (kl : ClassId) (lL : List Int32) (ar : Addr) (kr : ClassId) (lR : List Int32) (ac : Addr) (kc : ClassId) (lC : List Int32) (au : Addr) (ku : ClassId) (lT : List Int32) (ah : Addr) (kh : ClassId) (lH : List Int32) (kk : ClassId) (kK : List Nat) (val : Nat → UInt64) (h0 : Heap) (n0 : Nat) (Z0 : n0 ≤ h0.size) (H0 : Exa Z h0 a1 "com/example/prequential/prequential/measure/ScoreMultiset") (H1 : Fld Z h0 a1 "com/example/prequential/prequential/measure/ScoreMultiset" "key" "[D" (.ref ak)) (H2 : Fld Z h0 a1 "com/example/prequential/prequential/measure/ScoreMultiset" "left" "[I" (.ref al)) (H3 : Fld Z h0 a1 "com/example/prequential/prequential/measure/ScoreMultiset" "right" "[I" (.ref ar)) (H4 : Fld Z h0 a1 "com/example/prequential/prequential/measure/ScoreMultiset" "count" "[I" (.ref ac)) (H5 : Fld Z h0 a1 "com/example/prequential/prequential/measure/ScoreMultiset" "total" "[I" (.ref au)) (H6 : Fld Z h0 a1 "com/example/prequential/prequential/measure/ScoreMultiset" "height" "[B" (.ref ah)) (H7 : Fld Z h0 a1 "com/example/prequential/prequential/measure/ScoreMultiset" "root" "I" (.int ro)) (H8 : Fld Z h0 a1 "com/example/prequential/prequential/measure/ScoreMultiset" "unused" "I" (.int u_)) (H9 : Fld Z h0 a1 "com/example/prequential/prequential/measure/ScoreMultiset" "freed" "I" (.int (0 : Int32))) (H10 : Fld Z h0 a1 "com/example/prequential/prequential/measure/ScoreMultiset" "reshaped" "Z" (.int rs)) (H11 : Arv Z h0 al kl .int (16 : Int32) (own_v lL) (.int (0 : Int32))) (H12 : Arv Z h0 ar kr .int (16 : Int32) (own_v lR) (.int (0 : Int32))) (H13 : Arv Z h0 ac kc .int (16 : Int32) (own_v lC) (.int (0 : Int32))) (H14 : Arv Z h0 au ku .int (16 : Int32) (own_v lT) (.int (0 : Int32))) (H15 : Arv Z h0 ah kh .byte (16 : Int32) (own_v lH) (.int (0 : Int32))) (H16 : own_Kar Z h0 ak kk kK val) (H17 : n0 ≤ a1) (H18 : n0 ≤ ak) (H19 : n0 ≤ al) (H20 : n0 ≤ ar) (H21 : n0 ≤ ac) (H22 : n0 ≤ au) (H23 : n0 ≤ ah) (H24 : al ≠ ar) (H25 : al ≠ ac) (H26 : ar ≠ ac) (H27 : al ≠ au) (H28 : ar ≠ au) (H29 : ac ≠ au) (H30 : own_rng lL) (H31 : own_rng lR) (H32 : lC.length = 16) (H33 : lT.length = 16) (H34 : lH.length = 16) (H35 : own_in p2) (H36 : own_low2 lL p2 = true) :
    own_MF l (⟨"com/example/prequential/prequential/measure/ScoreMultiset", "unlinkLowest", "(II)I"⟩ : MethodName) (Jvm.Cond.code (⟨"com/example/prequential/prequential/measure/ScoreMultiset", "unlinkLowest", "(II)I"⟩ : MethodName) prog_108_method_14_code 4 (some .int) :: ws) ({ frames := 5, cells := 0, slots := 0, locals := 75 } : Room) #[(.ref a1), (.int p2), (.int p3)] Z h0 (Q18d2 Z a1 p2 p3 ak ro u_ rs al kl lL ar kr lR ac kc lC au ku lT ah kh lH kk kK val h0 n0) := by
  refine MetFree.of_bodySF (plainFor_of_name pn_com_example_prequential_prequential_measure_ScoreMultiset) hisR ?_
  intro p e s m args below meth c s₁ Bd hml0 hP hK
  obtain ⟨rfl, hZ, hh⟩ := hP
  have hx := Bd.exec
  have hby := Bd.bytes
  have hml : c.maxLocals = 4 := hml0
  have hown : s.vm.findClass "com/example/prequential/prequential/measure/ScoreMultiset" = some m.cls := findClass_of_methodNamed Bd.named
  have hnm := (name_of_methodNamed Bd.named Bd.method).1
  have X0 : Stand p l e ({ frames := 5, cells := 0, slots := 0, locals := 75 } : Room) s m #[(.ref a1), (.int p2), (.int p3)] below meth c s₁ [] 0 0 := Stand.of_body Bd
  have e0 : s₁.heap = h0 := by rw [← hh, Bd.state]; rfl
  have N0 := Fr.nil n0
  have pre0 : ∀ t, Steps p.tables e below (s₁.setTop (mkF m 0 #[.val (.ref a1), .val (.int p2), .val (.int p3), .unset] [])) t → Steps p.tables e below (s₁.setTop (entryFrame m #[(.ref a1), (.int p2), (.int p3)] 4)) t := fun t k => castTop (ef_18d2 m a1 p2 p3) k
  obtain ⟨T101, X101, e101, st101⟩ := getF X0 hx hZ hown (host := "") (Or.inl (own_w hw 14 rfl)) Via.refl e0 H2 (g := (mkF m 1 #[.val (.ref a1), .val (.int p2), .val (.int p3), .unset] [(.ref a1)])) rfl rfl (hb hby d18_1)
  have pre103 : ∀ t, Steps p.tables e below (T101.setTop (mkF m 6 #[.val (.ref a1), .val (.int p2), .val (.int p3), .unset] [(.int (own_g lL p2))])) t → Steps p.tables e below (s₁.setTop (entryFrame m #[(.ref a1), (.int p2), (.int p3)] 4)) t := fun t kt => by
    refine pre0 t ?_
    show Steps p.tables e below (s₁.setTop (mkF m 0 #[.val (.ref a1), .val (.int p2), .val (.int p3), .unset] [])) _
    refine XS.aloadN X0.here hx rfl (hb hby d18_0) rfl rfl ?_
    refine st101 _ ?_
    refine XS.iloadN X101.here hx rfl (hb hby d18_4) rfl ?_
    show Steps p.tables e below (T101.setTop (mkF m 5 #[.val (.ref a1), .val (.int p2), .val (.int p3), .unset] [(.int p2), (.ref al)])) _
    refine own_ia X101 hx hZ e101 H11 H35 (hb hby d18_5) ?_
    show Steps p.tables e below (T101.setTop (mkF m 6 #[.val (.ref a1), .val (.int p2), .val (.int p3), .unset] [(.int (own_g lL p2))])) _
    exact kt
  by_cases hc6_104 : (own_g lL p2) = (0 : Int32)
  · skip
    obtain ⟨T105, X105, e105, st105⟩ := getF X101 hx hZ hown (host := "") (Or.inl (own_w hw 16 rfl)) Via.refl e101 H3 (g := (mkF m 10 #[.val (.ref a1), .val (.int p2), .val (.int p3), .unset] [(.ref a1)])) rfl rfl (hb hby d18_10)
    obtain ⟨cq107, q107, q107'⟩ := H0.cell
    obtain ⟨_, _, ⟨T107, L107, k107, n107⟩, -, X107, ⟨Lc107, hQ107, l107, y107, z107⟩, st107⟩ := X105.privateBack hx (y := (⟨"com/example/prequential/prequential/measure/ScoreMultiset", "free", "(I)V"⟩ : MethodName)) hown (mvT hZ (own_w hw 92 rfl)) (mvT hZ (own_w hw 93 rfl)) (mvT hZ (own_selp (by decide) (own_w hw 2 rfl) (own_w hw 94 rfl) (own_w hw 93 rfl))) (Cond.privateMethod_at (mvP hZ (own_w hw 94 rfl) (args := #[]))) (mvT hZ (own_w hw 95 rfl)) (by decide) (backOf (W := 0) (rm17 l Z a0 hw [] a1 p2 ak ro u_ rs al kl lL ar kr lR ac kc lC au ku lT ah kh lH h0 n0 Z0 H0 H1 H2 H3 H4 H5 H6 H7 H8 H9 H10 H11 H12 H13 H14 H15 H17 H19 H20 H21 H22 H24 H25 H26 H27 H28 H29 H35 H30 H31 H32 H33 H34) hZ (own_w hw 95 rfl) (own_w hw 3 rfl) (by decide) (by decide)) (g := (mkF m 18 #[.val (.ref a1), .val (.int p2), .val (.int p3), .val (.int (own_g lR p2))] [(.int p2), (.ref a1)])) rfl (by rw [hml]; rfl) (Steps.refl _) (a := a1) (by rw [e105]; exact q107) q107' (argsL := [(.int p2)]) (rest := []) (lenOf pd_1 rfl) rfl (by show 2 * 0 + _ ≤ _; exact Nat.le_of_eq rfl) (hb hby d18_18) (fun _ _ => ⟨rfl, e105, (by decide : 0 + 0 ≤ _), (by decide : 0 + 0 ≤ _)⟩)
    dsimp only [Pt.U, Pt.locs, Pt.cells, Pt.slots] at X107 l107 y107 z107 st107 hQ107
    subst l107 y107 z107
    obtain ⟨rfl, Nq107, K107, R107_1, R107_2, R107_3, R107_4, R107_5, R107_6, R107_7, R107_8, R107_9, R107_10, R107_11, R107_12, R107_13, R107_14, R107_15⟩ := hQ107
    have N107 := Fr.app N0 Nq107
    have ne108 : au ≠ ak := own_ne_kv H14 H16 (by decide)
    have ne109 : ac ≠ ak := own_ne_kv H13 H16 (by decide)
    have ne110 : ar ≠ ak := own_ne_kv H12 H16 (by decide)
    have ne111 : al ≠ ak := own_ne_kv H11 H16 (by decide)
    have ne112 : a1 ≠ ak := own_ne_kar H0 (own_w hw 2 rfl) H16
    have f113 := (H16.keep K107 (ninS (Ne.symm ne112) (ninS (Ne.symm ne111) (ninS (Ne.symm ne110) (ninS (Ne.symm ne109) (ninS (Ne.symm ne108) nin0))))))
    obtain ⟨fs, hr, hrun, hended, hW, hsame⟩ := X107.leave (v := some (.int (own_g lR p2))) (fun h => by rw [Bd.returns] at h; cases h) (BodyLoose.notSynchronized Bd)
    refine ⟨_, _, pre103 _ ?_, hrun, hended, _, _, rfl, ?_, ⟨_, rfl⟩, hW, hsame.mono (by decide) (by decide)⟩
    · skip
      show Steps p.tables e below (T101.setTop (mkF m 6 #[.val (.ref a1), .val (.int p2), .val (.int p3), .unset] [(.int (own_g lL p2))])) _
      refine XS.ifNo X101.here hx rfl (hb hby d18_6) rfl ((if0 _ _).trans (teq (hc6_104 : (own_g lL p2) = (0 : Int32))).2) ?_
      refine XS.aloadN X101.here hx rfl (hb hby d18_9) rfl rfl ?_
      refine st105 _ ?_
      refine XS.iloadN X105.here hx rfl (hb hby d18_13) rfl ?_
      show Steps p.tables e below (T105.setTop (mkF m 14 #[.val (.ref a1), .val (.int p2), .val (.int p3), .unset] [(.int p2), (.ref ar)])) _
      refine own_ia X105 hx hZ e105 H12 H35 (hb hby d18_14) ?_
      show Steps p.tables e below (T105.setTop (mkF m 15 #[.val (.ref a1), .val (.int p2), .val (.int p3), .unset] [(.int (own_g lR p2))])) _
      refine XS.istoreN X105.here hx rfl (hb hby d18_15) rfl (l' := #[.val (.ref a1), .val (.int p2), .val (.int p3), .val (.int (own_g lR p2))]) rfl ?_
      refine XS.aloadN X105.here hx rfl (hb hby d18_16) rfl rfl ?_
      refine XS.iloadN X105.here hx rfl (hb hby d18_17) rfl ?_
      show Steps p.tables e below (T105.setTop (mkF m 18 #[.val (.ref a1), .val (.int p2), .val (.int p3), .val (.int (own_g lR p2))] [(.int p2), (.ref a1)])) _
      refine st107.trans ?_
      show Steps p.tables e below (T107.setTop (mkF m 21 #[.val (.ref a1), .val (.int p2), .val (.int p3), .val (.int (own_g lR p2))] [])) _
      refine XS.iloadN X107.here hx rfl (hb hby d18_21) rfl ?_
      show Steps p.tables e below (T107.setTop (mkF m 22 #[.val (.ref a1), .val (.int p2), .val (.int p3), .val (.int (own_g lR p2))] [(.int (own_g lR p2))])) _
      exact retI X107 hx Bd.returns (hb hby d18_22) hr
    · show Q18d2 Z a1 p2 p3 ak ro u_ rs al kl lL ar kr lR ac kc lC au ku lT ah kh lH kk kK val h0 n0 _ T107.heap _
      exact ⟨(own_p lL p2 (0 : Int32)), (own_p lR p2 (0 : Int32)), (own_p lC p2 (0 : Int32)), (own_p lT p2 (0 : Int32)), lH, kK, u_, p2, (1 : Int32), (own_g lR p2), rfl, N107, ((Keep.refl h0 [a1, ak, al, ar, ac, au, ah]).trans K107 (allS (P := (fun x => x ∈ [a1, ak, al, ar, ac, au, ah] ∨ h0.size ≤ x)) (Or.inl (List.mem_of_getElem? (i := 0) rfl)) (allS (P := (fun x => x ∈ [a1, ak, al, ar, ac, au, ah] ∨ h0.size ≤ x)) (Or.inl (List.mem_of_getElem? (i := 2) rfl)) (allS (P := (fun x => x ∈ [a1, ak, al, ar, ac, au, ah] ∨ h0.size ≤ x)) (Or.inl (List.mem_of_getElem? (i := 3) rfl)) (allS (P := (fun x => x ∈ [a1, ak, al, ar, ac, au, ah] ∨ h0.size ≤ x)) (Or.inl (List.mem_of_getElem? (i := 4) rfl)) (allS (P := (fun x => x ∈ [a1, ak, al, ar, ac, au, ah] ∨ h0.size ≤ x)) (Or.inl (List.mem_of_getElem? (i := 5) rfl)) all0)))))), R107_1, R107_2, R107_3, R107_4, R107_5, R107_6, R107_7, R107_8, R107_9, R107_10, R107_11, R107_12, R107_13, R107_14, R107_15, f113, (own_rngp H30 (by decide)), (own_rngp H31 (by decide)), (own_16p H32), (own_16p H33), H34, (H31.2 _), (by simp only [own_ul2, own_fre, own_il, own_ir, own_fin, own_fw, eq_true hc6_104, if_true, if_false])⟩
  · skip
    obtain ⟨T114, X114, e114, st114⟩ := getF X101 hx hZ hown (host := "") (Or.inl (own_w hw 14 rfl)) Via.refl e101 H2 (g := (mkF m 24 #[.val (.ref a1), .val (.int p2), .val (.int p3), .unset] [(.ref a1)])) rfl rfl (hb hby d18_24)
    obtain ⟨T115, X115, e115, st115⟩ := getF X114 hx hZ hown (host := "") (Or.inl (own_w hw 14 rfl)) Via.refl e114 H2 (g := (mkF m 30 #[.val (.ref a1), .val (.int p2), .val (.int p3), .unset] [(.ref a1), (.ref a1), (.int p2), (.ref al)])) rfl rfl (hb hby d18_30)
    obtain ⟨cq117, q117, q117'⟩ := H0.cell
    obtain ⟨_, _, ⟨T117, L117, k117, n117⟩, -, X117, ⟨Lc117, hQ117, l117, y117, z117⟩, st117⟩ := X115.privateBack hx (y := (⟨"com/example/prequential/prequential/measure/ScoreMultiset", "unlinkLowest", "(II)I"⟩ : MethodName)) hown (mvT hZ (own_w hw 96 rfl)) (mvT hZ (own_w hw 97 rfl)) (mvT hZ (own_selp (by decide) (own_w hw 2 rfl) (own_w hw 98 rfl) (own_w hw 97 rfl))) (Cond.privateMethod_at (mvP hZ (own_w hw 98 rfl) (args := #[]))) (mvT hZ (own_w hw 99 rfl)) (by decide) (backOf (W := 2) (rm18d1 l Z a0 hw [] a1 (own_g lL p2) p3 ak ro u_ rs al kl lL ar kr lR ac kc lC au ku lT ah kh lH kk kK val h0 n0 Z0 H0 H1 H2 H3 H4 H5 H6 H7 H8 H9 H10 H11 H12 H13 H14 H15 H16 H17 H18 H19 H20 H21 H22 H23 H24 H25 H26 H27 H28 H29 H30 H31 H32 H33 H34 (H30.2 _) (own_low_2 H36 hc6_104)) hZ (own_w hw 99 rfl) (own_w hw 3 rfl) (by decide) (by decide)) (g := (mkF m 36 #[.val (.ref a1), .val (.int p2), .val (.int p3), .unset] [(.int p3), (.int (own_g lL p2)), (.ref a1), (.int p2), (.ref al)])) rfl (by rw [hml]; rfl) (Steps.refl _) (a := a1) (by rw [e115]; exact q117) q117' (argsL := [(.int (own_g lL p2)), (.int p3)]) (rest := [(.int p2), (.ref al)]) (lenOf pd_0 rfl) rfl (by show 2 * 0 + _ ≤ _; exact Nat.le_of_eq rfl) (hb hby d18_36) (fun _ _ => ⟨rfl, e115, (by decide : 0 + 0 ≤ _), (by decide : 0 + 0 ≤ _)⟩)
    dsimp only [Pt.U, Pt.locs, Pt.cells, Pt.slots] at X117 l117 y117 z117 st117 hQ117
    subst l117 y117 z117
    obtain ⟨lL2117, lR2117, lC2117, lT2117, lH2117, kK2117, u2117, f2117, r2117, v2117, rfl, Nq117, K117, R117_1, R117_2, R117_3, R117_4, R117_5, R117_6, R117_7, R117_8, R117_9, R117_10, R117_11, R117_12, R117_13, R117_14, R117_15, R117_16, R117_17, R117_18, R117_19, R117_20, R117_21, R117_22, R117_23⟩ := hQ117
    have N117 := Fr.app N0 Nq117
    obtain ⟨cl118, Ar118, qc118, S118, M118, Hh118, G118⟩ := id R117_11
    have hin118 : ¬ (p2 < 0 ∨ cl118.slots.size ≤ (p2).toNatClampNeg) := inb_of S118 H35
    obtain ⟨T118, h118, X118, e118, W118, st118⟩ := stI X117 hx hZ rfl Ar118 (j := p2) hin118 (g := (mkF m 39 #[.val (.ref a1), .val (.int p2), .val (.int p3), .unset] [(.int v2117), (.int p2), (.ref al)])) rfl rfl (hb hby d18_39)
    have V118 : Arv Z h118 al kl .int (16 : Int32) (own_v (own_p lL2117 p2 v2117)) (.int (0 : Int32)) := by rw [own_vp]; exact Arv.set Ar118 qc118 S118 M118 Hh118 G118 rfl W118 p2.toNatClampNeg (rfl) (own_vlt H35 R117_17.1)
    have N118 := Fr.snoc X118 N117 H19
    have f119 := ((H0.keep K117).wr W118)
    have ne120 : a1 ≠ al := Exa.neArv f119 V118 (own_w hw 2 rfl)
    have f121 := (R117_1.other W118 (Or.inl ne120))
    have f122 := (R117_2.other W118 (Or.inl ne120))
    have f123 := (R117_3.other W118 (Or.inl ne120))
    have f124 := (R117_4.other W118 (Or.inl ne120))
    have f125 := (R117_5.other W118 (Or.inl ne120))
    have f126 := (R117_6.other W118 (Or.inl ne120))
    have f127 := (R117_7.other W118 (Or.inl ne120))
    have f128 := (R117_8.other W118 (Or.inl ne120))
    have f129 := (R117_9.other W118 (Or.inl ne120))
    have f130 := (R117_10.other W118 (Or.inl ne120))
    have f131 := (R117_12.other W118 (Ne.symm H24))
    have f132 := (R117_13.other W118 (Ne.symm H25))
    have f133 := (R117_14.other W118 (Ne.symm H27))
    have ne134 : ah ≠ al := own_ne_arv H15 H11 (by decide)
    have f135 := (R117_15.other W118 ne134)
    have z137 : n0 ≤ h118.size := (Nat.le_trans (Nat.le_trans Z0 K117.1) (Nat.le_of_eq W118.size.symm))
    obtain ⟨cq136, q136, q136'⟩ := f119.cell
    obtain ⟨_, _, ⟨T136, L136, k136, n136⟩, -, X136, ⟨Lc136, hQ136, l136, y136, z136⟩, st136⟩ := X118.privateBack hx (y := (⟨"com/example/prequential/prequential/measure/ScoreMultiset", "settle", "(II)I"⟩ : MethodName)) hown (mvT hZ (own_w hw 46 rfl)) (mvT hZ (own_w hw 47 rfl)) (mvT hZ (own_selp (by decide) (own_w hw 2 rfl) (own_w hw 48 rfl) (own_w hw 47 rfl))) (Cond.privateMethod_at (mvP hZ (own_w hw 48 rfl) (args := #[]))) (mvT hZ (own_w hw 49 rfl)) (by decide) (backOf (W := 0) (rm6 l Z a0 hw [] a1 p2 (-p3) ak ro u2117 f2117 r2117 al kl (own_p lL2117 p2 v2117) ar kr lR2117 ac kc lC2117 au ku lT2117 ah kh lH2117 h118 n0 z137 f119 f121 f122 f123 f124 f125 f126 f127 f128 f129 f130 V118 f131 f132 f133 f135 H19 H20 H22 H23 H17 H24 H25 H26 H27 H28 H29 H35 (own_rngp R117_17 R117_22) R117_18 R117_19 R117_20 R117_21) hZ (own_w hw 49 rfl) (own_w hw 3 rfl) (by decide) (by decide)) (g := (mkF m 44 #[.val (.ref a1), .val (.int p2), .val (.int p3), .unset] [(.int (-p3)), (.int p2), (.ref a1)])) rfl (by rw [hml]; rfl) (Steps.refl _) (a := a1) (by rw [e118]; exact q136) q136' (argsL := [(.int p2), (.int (-p3))]) (rest := []) (lenOf pd_0 rfl) rfl (by show 2 * 0 + _ ≤ _; exact Nat.le_of_eq rfl) (hb hby d18_44) (fun _ _ => ⟨rfl, e118, (by decide : 0 + 0 ≤ _), (by decide : 0 + 0 ≤ _)⟩)
    dsimp only [Pt.U, Pt.locs, Pt.cells, Pt.slots] at X136 l136 y136 z136 st136 hQ136
    subst l136 y136 z136
    obtain ⟨rfl, Nq136, K136, R136_1, R136_2, R136_3, R136_4, R136_5, R136_6, R136_7, R136_8, R136_9, R136_10, R136_11, R136_12, R136_13, R136_14, R136_15, R136_16, R136_17, R136_18, R136_19⟩ := hQ136
    have N136 := Fr.app N118 Nq136
    have ne138 : ac ≠ ah := own_ne_arv H13 H15 (by decide)
    have ne139 : a1 ≠ ac := Exa.neArv f119 f132 (own_w hw 2 rfl)
    have f140 := (f132.keep K136 (ninS (Ne.symm ne139) (ninS (Ne.symm H25) (ninS (Ne.symm H26) (ninS H29 (ninS ne138 nin0))))))
    have ne141 : al ≠ ak := own_ne_kv H11 H16 (by decide)
    have ne142 : ah ≠ ak := own_ne_kv H15 H16 (by decide)
    have ne143 : au ≠ ak := own_ne_kv H14 H16 (by decide)
    have ne144 : ar ≠ ak := own_ne_kv H12 H16 (by decide)
    have ne145 : a1 ≠ ak := own_ne_kar (H0.keep K117) (own_w hw 2 rfl) R117_16
    have f146 := ((R117_16.other W118 (Ne.symm ne141)).keep K136 (ninS (Ne.symm ne145) (ninS (Ne.symm ne141) (ninS (Ne.symm ne144) (ninS (Ne.symm ne143) (ninS (Ne.symm ne142) nin0))))))
    obtain ⟨fs, hr, hrun, hended, hW, hsame⟩ := X136.leave (v := some (.int (own_set (own_p lL2117 p2 v2117) lR2117 lC2117 lT2117 lH2117 r2117 p2 (-p3)).2)) (fun h => by rw [Bd.returns] at h; cases h) (BodyLoose.notSynchronized Bd)
    refine ⟨_, _, pre103 _ ?_, hrun, hended, _, _, rfl, ?_, ⟨_, rfl⟩, hW, hsame.mono (by decide) (by decide)⟩
    · skip
      show Steps p.tables e below (T101.setTop (mkF m 6 #[.val (.ref a1), .val (.int p2), .val (.int p3), .unset] [(.int (own_g lL p2))])) _
      refine XS.ifYes X101.here hx rfl (pc0 := 6) (pc' := 23) rfl (hb hby d18_6) rfl ((if0 _ _).trans (feq (hc6_104 : ¬ ((own_g lL p2) = (0 : Int32)))).2) (by decide) (by decide) ?_
      refine XS.aloadN X101.here hx rfl (hb hby d18_23) rfl rfl ?_
      refine st114 _ ?_
      refine XS.iloadN X114.here hx rfl (hb hby d18_27) rfl ?_
      refine XS.aloadN X114.here hx rfl (hb hby d18_28) rfl rfl ?_
      refine XS.aloadN X114.here hx rfl (hb hby d18_29) rfl rfl ?_
      refine st115 _ ?_
      refine XS.iloadN X115.here hx rfl (hb hby d18_33) rfl ?_
      show Steps p.tables e below (T115.setTop (mkF m 34 #[.val (.ref a1), .val (.int p2), .val (.int p3), .unset] [(.int p2), (.ref al), (.ref a1), (.int p2), (.ref al)])) _
      refine own_ia X115 hx hZ e115 H11 H35 (hb hby d18_34) ?_
      show Steps p.tables e below (T115.setTop (mkF m 35 #[.val (.ref a1), .val (.int p2), .val (.int p3), .unset] [(.int (own_g lL p2)), (.ref a1), (.int p2), (.ref al)])) _
      refine XS.iloadN X115.here hx rfl (hb hby d18_35) rfl ?_
      show Steps p.tables e below (T115.setTop (mkF m 36 #[.val (.ref a1), .val (.int p2), .val (.int p3), .unset] [(.int p3), (.int (own_g lL p2)), (.ref a1), (.int p2), (.ref al)])) _
      refine st117.trans ?_
      show Steps p.tables e below (T117.setTop (mkF m 39 #[.val (.ref a1), .val (.int p2), .val (.int p3), .unset] [(.int v2117), (.int p2), (.ref al)])) _
      refine st118 _ ?_
      refine XS.aloadN X118.here hx rfl (hb hby d18_40) rfl rfl ?_
      refine XS.iloadN X118.here hx rfl (hb hby d18_41) rfl ?_
      refine XS.iloadN X118.here hx rfl (hb hby d18_42) rfl ?_
      refine XS.ineg X118.here hx rfl (hb hby d18_43) rfl ?_
      show Steps p.tables e below (T118.setTop (mkF m 44 #[.val (.ref a1), .val (.int p2), .val (.int p3), .unset] [(.int (-p3)), (.int p2), (.ref a1)])) _
      refine st136.trans ?_
      show Steps p.tables e below (T136.setTop (mkF m 47 #[.val (.ref a1), .val (.int p2), .val (.int p3), .unset] [(.int (own_set (own_p lL2117 p2 v2117) lR2117 lC2117 lT2117 lH2117 r2117 p2 (-p3)).2)])) _
      exact retI X136 hx Bd.returns (hb hby d18_47) hr
    · show Q18d2 Z a1 p2 p3 ak ro u_ rs al kl lL ar kr lR ac kc lC au ku lT ah kh lH kk kK val h0 n0 _ T136.heap _
      exact ⟨((own_set (own_p lL2117 p2 v2117) lR2117 lC2117 lT2117 lH2117 r2117 p2 (-p3)).1.1.1), ((own_set (own_p lL2117 p2 v2117) lR2117 lC2117 lT2117 lH2117 r2117 p2 (-p3)).1.1.2.1), lC2117, ((own_set (own_p lL2117 p2 v2117) lR2117 lC2117 lT2117 lH2117 r2117 p2 (-p3)).1.1.2.2.1), ((own_set (own_p lL2117 p2 v2117) lR2117 lC2117 lT2117 lH2117 r2117 p2 (-p3)).1.1.2.2.2), kK2117, u2117, f2117, ((own_set (own_p lL2117 p2 v2117) lR2117 lC2117 lT2117 lH2117 r2117 p2 (-p3)).1.2), ((own_set (own_p lL2117 p2 v2117) lR2117 lC2117 lT2117 lH2117 r2117 p2 (-p3)).2), rfl, N136, ((((Keep.refl h0 [a1, ak, al, ar, ac, au, ah]).trans K117 (allS (P := (fun x => x ∈ [a1, ak, al, ar, ac, au, ah] ∨ h0.size ≤ x)) (Or.inl (List.mem_of_getElem? (i := 0) rfl)) (allS (P := (fun x => x ∈ [a1, ak, al, ar, ac, au, ah] ∨ h0.size ≤ x)) (Or.inl (List.mem_of_getElem? (i := 1) rfl)) (allS (P := (fun x => x ∈ [a1, ak, al, ar, ac, au, ah] ∨ h0.size ≤ x)) (Or.inl (List.mem_of_getElem? (i := 2) rfl)) (allS (P := (fun x => x ∈ [a1, ak, al, ar, ac, au, ah] ∨ h0.size ≤ x)) (Or.inl (List.mem_of_getElem? (i := 3) rfl)) (allS (P := (fun x => x ∈ [a1, ak, al, ar, ac, au, ah] ∨ h0.size ≤ x)) (Or.inl (List.mem_of_getElem? (i := 4) rfl)) (allS (P := (fun x => x ∈ [a1, ak, al, ar, ac, au, ah] ∨ h0.size ≤ x)) (Or.inl (List.mem_of_getElem? (i := 5) rfl)) (allS (P := (fun x => x ∈ [a1, ak, al, ar, ac, au, ah] ∨ h0.size ≤ x)) (Or.inl (List.mem_of_getElem? (i := 6) rfl)) all0)))))))).wr W118 (Or.inl (List.mem_of_getElem? (i := 2) rfl))).trans K136 (allS (P := (fun x => x ∈ [a1, ak, al, ar, ac, au, ah] ∨ h0.size ≤ x)) (Or.inl (List.mem_of_getElem? (i := 0) rfl)) (allS (P := (fun x => x ∈ [a1, ak, al, ar, ac, au, ah] ∨ h0.size ≤ x)) (Or.inl (List.mem_of_getElem? (i := 2) rfl)) (allS (P := (fun x => x ∈ [a1, ak, al, ar, ac, au, ah] ∨ h0.size ≤ x)) (Or.inl (List.mem_of_getElem? (i := 3) rfl)) (allS (P := (fun x => x ∈ [a1, ak, al, ar, ac, au, ah] ∨ h0.size ≤ x)) (Or.inl (List.mem_of_getElem? (i := 5) rfl)) (allS (P := (fun x => x ∈ [a1, ak, al, ar, ac, au, ah] ∨ h0.size ≤ x)) (Or.inl (List.mem_of_getElem? (i := 6) rfl)) all0)))))), R136_1, R136_2, R136_3, R136_4, R136_5, R136_6, R136_7, R136_8, R136_9, R136_10, R136_11, R136_12, f140, R136_13, R136_14, f146, R136_15, R136_16, R117_19, R136_17, R136_18, R136_19, (by simp only [own_ul2, own_fre, own_il, own_ir, own_fin, own_fw, eq_false hc6_104, R117_23, if_true, if_false])⟩
abbrev own_e16 (k : Nat) (i : Instr) (l : Nat) : Prop := decode prog_108_method_13_code k = .ok (i, l)
theorem d16_0 : own_e16 0 (.aload_n 0) 1 := by decide +kernel
theorem d16_1 : own_e16 1 (.getfield 13) 3 := by decide +kernel
theorem d16_4 : own_e16 4 (.iload_n 1) 1 := by decide +kernel
theorem d16_5 : own_e16 5 .iaload 1 := by decide +kernel
theorem d16_6 : own_e16 6 (.ifCond .eq 12) 3 := by decide +kernel
theorem d16_18 : own_e16 18 (.aload_n 0) 1 := by decide +kernel
theorem d16_19 : own_e16 19 (.getfield 13) 3 := by decide +kernel
theorem d16_22 : own_e16 22 (.iload_n 1) 1 := by decide +kernel
theorem d16_23 : own_e16 23 .iaload 1 := by decide +kernel
theorem d16_24 : own_e16 24 (.ifCond .ne 12) 3 := by decide +kernel
theorem d16_27 : own_e16 27 (.aload_n 0) 1 := by decide +kernel
theorem d16_28 : own_e16 28 (.getfield 17) 3 := by decide +kernel
theorem d16_31 : own_e16 31 (.iload_n 1) 1 := by decide +kernel
theorem d16_32 : own_e16 32 .iaload 1 := by decide +kernel
theorem d16_33 : own_e16 33 (.goto 9) 3 := by decide +kernel
theorem d16_42 : own_e16 42 (.istore_n 2) 1 := by decide +kernel
theorem d16_43 : own_e16 43 (.aload_n 0) 1 := by decide +kernel
theorem d16_44 : own_e16 44 (.iload_n 1) 1 := by decide +kernel
theorem d16_45 : own_e16 45 (.invokevirtual 88) 3 := by decide +kernel
theorem d16_48 : own_e16 48 (.iload_n 2) 1 := by decide +kernel
theorem d16_49 : own_e16 49 .ireturn 1 := by decide +kernel
theorem d16_9 : own_e16 9 (.aload_n 0) 1 := by decide +kernel
theorem d16_10 : own_e16 10 (.getfield 17) 3 := by decide +kernel
theorem d16_13 : own_e16 13 (.iload_n 1) 1 := by decide +kernel
theorem d16_14 : own_e16 14 .iaload 1 := by decide +kernel
theorem d16_15 : own_e16 15 (.ifCond .ne 35) 3 := by decide +kernel
theorem d16_36 : own_e16 36 (.aload_n 0) 1 := by decide +kernel
theorem d16_37 : own_e16 37 (.getfield 13) 3 := by decide +kernel
theorem d16_40 : own_e16 40 (.iload_n 1) 1 := by decide +kernel
theorem d16_41 : own_e16 41 .iaload 1 := by decide +kernel
theorem d16_50 : own_e16 50 (.aload_n 0) 1 := by decide +kernel
theorem d16_51 : own_e16 51 (.getfield 17) 3 := by decide +kernel
theorem d16_54 : own_e16 54 (.iload_n 1) 1 := by decide +kernel
theorem d16_55 : own_e16 55 .iaload 1 := by decide +kernel
theorem d16_56 : own_e16 56 (.istore_n 2) 1 := by decide +kernel
theorem d16_57 : own_e16 57 (.aload_n 0) 1 := by decide +kernel
theorem d16_58 : own_e16 58 (.getfield 13) 3 := by decide +kernel
theorem d16_61 : own_e16 61 (.iload_n 2) 1 := by decide +kernel
theorem d16_62 : own_e16 62 .iaload 1 := by decide +kernel
theorem d16_63 : own_e16 63 (.ifCond .eq 13) 3 := by decide +kernel
theorem d16_76 : own_e16 76 (.aload_n 0) 1 := by decide +kernel
theorem d16_77 : own_e16 77 (.getfield 9) 3 := by decide +kernel
theorem d16_80 : own_e16 80 (.iload_n 1) 1 := by decide +kernel
theorem d16_81 : own_e16 81 (.aload_n 0) 1 := by decide +kernel
theorem d16_82 : own_e16 82 (.getfield 9) 3 := by decide +kernel
theorem d16_85 : own_e16 85 (.iload_n 2) 1 := by decide +kernel
theorem d16_86 : own_e16 86 .daload 1 := by decide +kernel
theorem d16_87 : own_e16 87 .dastore 1 := by decide +kernel
theorem d16_88 : own_e16 88 (.aload_n 0) 1 := by decide +kernel
theorem d16_89 : own_e16 89 (.getfield 20) 3 := by decide +kernel
theorem d16_92 : own_e16 92 (.iload_n 1) 1 := by decide +kernel
theorem d16_93 : own_e16 93 (.aload_n 0) 1 := by decide +kernel
theorem d16_94 : own_e16 94 (.getfield 20) 3 := by decide +kernel
theorem d16_97 : own_e16 97 (.iload_n 2) 1 := by decide +kernel
theorem d16_98 : own_e16 98 .iaload 1 := by decide +kernel
theorem d16_99 : own_e16 99 .iastore 1 := by decide +kernel
theorem d16_100 : own_e16 100 (.aload_n 0) 1 := by decide +kernel
theorem d16_101 : own_e16 101 (.getfield 17) 3 := by decide +kernel
theorem d16_104 : own_e16 104 (.iload_n 1) 1 := by decide +kernel
theorem d16_105 : own_e16 105 (.aload_n 0) 1 := by decide +kernel
theorem d16_106 : own_e16 106 (.aload_n 0) 1 := by decide +kernel
theorem d16_107 : own_e16 107 (.getfield 17) 3 := by decide +kernel
theorem d16_110 : own_e16 110 (.iload_n 1) 1 := by decide +kernel
theorem d16_111 : own_e16 111 .iaload 1 := by decide +kernel
theorem d16_112 : own_e16 112 (.aload_n 0) 1 := by decide +kernel
theorem d16_113 : own_e16 113 (.getfield 20) 3 := by decide +kernel
theorem d16_116 : own_e16 116 (.iload_n 1) 1 := by decide +kernel
theorem d16_117 : own_e16 117 .iaload 1 := by decide +kernel
theorem d16_118 : own_e16 118 (.invokevirtual 92) 3 := by decide +kernel
theorem d16_121 : own_e16 121 .iastore 1 := by decide +kernel
theorem d16_122 : own_e16 122 (.aload_n 0) 1 := by decide +kernel
theorem d16_123 : own_e16 123 (.iload_n 1) 1 := by decide +kernel
theorem d16_124 : own_e16 124 (.iconst (-1)) 1 := by decide +kernel
theorem d16_125 : own_e16 125 (.invokevirtual 71) 3 := by decide +kernel
theorem d16_128 : own_e16 128 .ireturn 1 := by decide +kernel
theorem d16_66 : own_e16 66 (.aload_n 0) 1 := by decide +kernel
theorem d16_67 : own_e16 67 (.getfield 13) 3 := by decide +kernel
theorem d16_70 : own_e16 70 (.iload_n 2) 1 := by decide +kernel
theorem d16_71 : own_e16 71 .iaload 1 := by decide +kernel
theorem d16_72 : own_e16 72 (.istore_n 2) 1 := by decide +kernel
theorem d16_73 : own_e16 73 (.goto (-16)) 3 := by decide +kernel
theorem ef_16 (m : MethodId) (a1 : Addr) (p2 : Int32) : entryFrame m #[(.ref a1), (.int p2)] 3 = mkF m 0 #[.val (.ref a1), .val (.int p2), .unset] [] := by first | (simp [entryFrame, mkF, argsToLocals, Value.category]; done) | rfl
def Q16 (Z : State) (a1 : Addr) (p2 : Int32) (ak : Addr) (ro : Int32) (u_ : Int32) (rs : Int32) (al : Addr) (kl : ClassId) (lL : List Int32) (ar : Addr) (kr : ClassId) (lR : List Int32) (ac : Addr) (kc : ClassId) (lC : List Int32) (au : Addr) (ku : ClassId) (lT : List Int32) (ah : Addr) (kh : ClassId) (lH : List Int32) (kk : ClassId) (kK : List Nat) (val : Nat → UInt64) (h0 : Heap) (n0 : Nat) (v : Option Value) (h : Heap) (L : List Loc) : Prop := ∃ (lL2 : List Int32) (lR2 : List Int32) (lC2 : List Int32) (lT2 : List Int32) (lH2 : List Int32) (kK2 : List Nat) (u2 : Int32) (f2 : Int32) (r2 : Int32) (v2 : Int32), v = some (.int v2) ∧ Fr n0 L ∧ Keep h0 h [a1, ak, al, ar, ac, au, ah] ∧ Fld Z h a1 "com/example/prequential/prequential/measure/ScoreMultiset" "key" "[D" (.ref ak) ∧ Fld Z h a1 "com/example/prequential/prequential/measure/ScoreMultiset" "left" "[I" (.ref al) ∧ Fld Z h a1 "com/example/prequential/prequential/measure/ScoreMultiset" "right" "[I" (.ref ar) ∧ Fld Z h a1 "com/example/prequential/prequential/measure/ScoreMultiset" "count" "[I" (.ref ac) ∧ Fld Z h a1 "com/example/prequential/prequential/measure/ScoreMultiset" "total" "[I" (.ref au) ∧ Fld Z h a1 "com/example/prequential/prequential/measure/ScoreMultiset" "height" "[B" (.ref ah) ∧ Fld Z h a1 "com/example/prequential/prequential/measure/ScoreMultiset" "root" "I" (.int ro) ∧ Fld Z h a1 "com/example/prequential/prequential/measure/ScoreMultiset" "unused" "I" (.int u2) ∧ Fld Z h a1 "com/example/prequential/prequential/measure/ScoreMultiset" "freed" "I" (.int f2) ∧ Fld Z h a1 "com/example/prequential/prequential/measure/ScoreMultiset" "reshaped" "Z" (.int r2) ∧ Arv Z h al kl .int (16 : Int32) (own_v lL2) (.int (0 : Int32)) ∧ Arv Z h ar kr .int (16 : Int32) (own_v lR2) (.int (0 : Int32)) ∧ Arv Z h ac kc .int (16 : Int32) (own_v lC2) (.int (0 : Int32)) ∧ Arv Z h au ku .int (16 : Int32) (own_v lT2) (.int (0 : Int32)) ∧ Arv Z h ah kh .byte (16 : Int32) (own_v lH2) (.int (0 : Int32)) ∧ own_Kar Z h ak kk kK2 val ∧ own_rng lL2 ∧ own_rng lR2 ∧ lC2.length = 16 ∧ lT2.length = 16 ∧ lH2.length = 16 ∧ own_in v2 ∧ own_unl (lL, lR, lC, lT, lH, kK, u_, (0 : Int32), rs) p2 = ((lL2, lR2, lC2, lT2, lH2, kK2, u2, f2, r2), v2)
set_option maxRecDepth 65536 in
set_option maxHeartbeats 40000000 in
theorem rm16 (l : Launch) (Z : State) (a0 : Array Value) (hw : ∀ d ∈ tables_1, d.before a0 Z = true) (ws : List Jvm.Cond) (a1 : Addr) (p2 : Int32) (ak : Addr) (ro : Int32) (u_ : Int32) (rs : Int32) (al : Addr) (kl : ClassId) (lL : List Int32) (ar : Addr) (kr : ClassId) (lR : List Int32) (ac : Addr) (kc : ClassId) (lC : List Int32) (au : Addr) (ku : ClassId) (lT : List Int32) (ah : Addr) (kh : ClassId) (lH : List Int32) (kk : ClassId) (kK : List Nat) (val : Nat → UInt64) (h0 : Heap) (n0 : Nat) (Z0 : n0 ≤ h0.size) (H0 : Exa Z h0 a1 "com/example/prequential/prequential/measure/ScoreMultiset") (H1 : Fld Z h0 a1 "com/example/prequential/prequential/measure/ScoreMultiset" "key" "[D" (.ref ak)) (H2 : Fld Z h0 a1 "com/example/prequential/prequential/measure/ScoreMultiset" "left" "[I" (.ref al)) (H3 : Fld Z h0 a1 "com/example/prequential/prequential/measure/ScoreMultiset" "right" "[I" (.ref ar)) (H4 : Fld Z h0 a1 "com/example/prequential/prequential/measure/ScoreMultiset" "count" "[I" (.ref ac)) (H5 : Fld Z h0 a1 "com/example/prequential/prequential/measure/ScoreMultiset" "total" "[I" (.ref au)) (H6 : Fld Z h0 a1 "com/example/prequential/prequential/measure/ScoreMultiset" "height" "[B" (.ref ah)) (H7 : Fld Z h0 a1 "com/example/prequential/prequential/measure/ScoreMultiset" "root" "I" (.int ro)) (H8 : Fld Z h0 a1 "com/example/prequential/prequential/measure/ScoreMultiset" "unused" "I" (.int u_)) (H9 : Fld Z h0 a1 "com/example/prequential/prequential/measure/ScoreMultiset" "freed" "I" (.int (0 : Int32))) (H10 : Fld Z h0 a1 "com/example/prequential/prequential/measure/ScoreMultiset" "reshaped" "Z" (.int rs)) (H11 : Arv Z h0 al kl .int (16 : Int32) (own_v lL) (.int (0 : Int32))) (H12 : Arv Z h0 ar kr .int (16 : Int32) (own_v lR) (.int (0 : Int32))) (H13 : Arv Z h0 ac kc .int (16 : Int32) (own_v lC) (.int (0 : Int32))) (H14 : Arv Z h0 au ku .int (16 : Int32) (own_v lT) (.int (0 : Int32))) (H15 : Arv Z h0 ah kh .byte (16 : Int32) (own_v lH) (.int (0 : Int32))) (H16 : own_Kar Z h0 ak kk kK val) (H17 : n0 ≤ a1) (H18 : n0 ≤ ak) (H19 : n0 ≤ al) (H20 : n0 ≤ ar) (H21 : n0 ≤ ac) (H22 : n0 ≤ au) (H23 : n0 ≤ ah) (H24 : al ≠ ar) (H25 : al ≠ ac) (H26 : ar ≠ ac) (H27 : al ≠ au) (H28 : ar ≠ au) (H29 : ac ≠ au) (H30 : own_rng lL) (H31 : own_rng lR) (H32 : lC.length = 16) (H33 : lT.length = 16) (H34 : lH.length = 16) (H35 : own_in p2) (H36 : own_unp lL lR p2 = true) :
    own_MF l (⟨"com/example/prequential/prequential/measure/ScoreMultiset", "unlink", "(I)I"⟩ : MethodName) (Jvm.Cond.code (⟨"com/example/prequential/prequential/measure/ScoreMultiset", "unlink", "(I)I"⟩ : MethodName) prog_108_method_13_code 3 (some .int) :: ws) ({ frames := 6, cells := 0, slots := 0, locals := 92 } : Room) #[(.ref a1), (.int p2)] Z h0 (Q16 Z a1 p2 ak ro u_ rs al kl lL ar kr lR ac kc lC au ku lT ah kh lH kk kK val h0 n0) := by
  refine MetFree.of_bodySF (plainFor_of_name pn_com_example_prequential_prequential_measure_ScoreMultiset) hisR ?_
  intro p e s m args below meth c s₁ Bd hml0 hP hK
  obtain ⟨rfl, hZ, hh⟩ := hP
  have hx := Bd.exec
  have hby := Bd.bytes
  have hml : c.maxLocals = 3 := hml0
  have hown : s.vm.findClass "com/example/prequential/prequential/measure/ScoreMultiset" = some m.cls := findClass_of_methodNamed Bd.named
  have hnm := (name_of_methodNamed Bd.named Bd.method).1
  have X0 : Stand p l e ({ frames := 6, cells := 0, slots := 0, locals := 92 } : Room) s m #[(.ref a1), (.int p2)] below meth c s₁ [] 0 0 := Stand.of_body Bd
  have e0 : s₁.heap = h0 := by rw [← hh, Bd.state]; rfl
  have N0 := Fr.nil n0
  have pre0 : ∀ t, Steps p.tables e below (s₁.setTop (mkF m 0 #[.val (.ref a1), .val (.int p2), .unset] [])) t → Steps p.tables e below (s₁.setTop (entryFrame m #[(.ref a1), (.int p2)] 3)) t := fun t k => castTop (ef_16 m a1 p2) k
  obtain ⟨T101, X101, e101, st101⟩ := getF X0 hx hZ hown (host := "") (Or.inl (own_w hw 14 rfl)) Via.refl e0 H2 (g := (mkF m 1 #[.val (.ref a1), .val (.int p2), .unset] [(.ref a1)])) rfl rfl (hb hby d16_1)
  have pre103 : ∀ t, Steps p.tables e below (T101.setTop (mkF m 6 #[.val (.ref a1), .val (.int p2), .unset] [(.int (own_g lL p2))])) t → Steps p.tables e below (s₁.setTop (entryFrame m #[(.ref a1), (.int p2)] 3)) t := fun t kt => by
    refine pre0 t ?_
    show Steps p.tables e below (s₁.setTop (mkF m 0 #[.val (.ref a1), .val (.int p2), .unset] [])) _
    refine XS.aloadN X0.here hx rfl (hb hby d16_0) rfl rfl ?_
    refine st101 _ ?_
    refine XS.iloadN X101.here hx rfl (hb hby d16_4) rfl ?_
    show Steps p.tables e below (T101.setTop (mkF m 5 #[.val (.ref a1), .val (.int p2), .unset] [(.int p2), (.ref al)])) _
    refine own_ia X101 hx hZ e101 H11 H35 (hb hby d16_5) ?_
    show Steps p.tables e below (T101.setTop (mkF m 6 #[.val (.ref a1), .val (.int p2), .unset] [(.int (own_g lL p2))])) _
    exact kt
  by_cases hc6_104 : (own_g lL p2) = (0 : Int32)
  · skip
    obtain ⟨T105, X105, e105, st105⟩ := getF X101 hx hZ hown (host := "") (Or.inl (own_w hw 14 rfl)) Via.refl e101 H2 (g := (mkF m 19 #[.val (.ref a1), .val (.int p2), .unset] [(.ref a1)])) rfl rfl (hb hby d16_19)
    obtain ⟨T107, X107, e107, st107⟩ := getF X105 hx hZ hown (host := "") (Or.inl (own_w hw 16 rfl)) Via.refl e105 H3 (g := (mkF m 28 #[.val (.ref a1), .val (.int p2), .unset] [(.ref a1)])) rfl rfl (hb hby d16_28)
    obtain ⟨cq109, q109, q109'⟩ := H0.cell
    obtain ⟨_, _, ⟨T109, L109, k109, n109⟩, -, X109, ⟨Lc109, hQ109, l109, y109, z109⟩, st109⟩ := X107.privateBack hx (y := (⟨"com/example/prequential/prequential/measure/ScoreMultiset", "free", "(I)V"⟩ : MethodName)) hown (mvT hZ (own_w hw 92 rfl)) (mvT hZ (own_w hw 93 rfl)) (mvT hZ (own_selp (by decide) (own_w hw 2 rfl) (own_w hw 94 rfl) (own_w hw 93 rfl))) (Cond.privateMethod_at (mvP hZ (own_w hw 94 rfl) (args := #[]))) (mvT hZ (own_w hw 95 rfl)) (by decide) (backOf (W := 0) (rm17 l Z a0 hw [] a1 p2 ak ro u_ rs al kl lL ar kr lR ac kc lC au ku lT ah kh lH h0 n0 Z0 H0 H1 H2 H3 H4 H5 H6 H7 H8 H9 H10 H11 H12 H13 H14 H15 H17 H19 H20 H21 H22 H24 H25 H26 H27 H28 H29 H35 H30 H31 H32 H33 H34) hZ (own_w hw 95 rfl) (own_w hw 3 rfl) (by decide) (by decide)) (g := (mkF m 45 #[.val (.ref a1), .val (.int p2), .val (.int (own_g lR p2))] [(.int p2), (.ref a1)])) rfl (by rw [hml]; rfl) (Steps.refl _) (a := a1) (by rw [e107]; exact q109) q109' (argsL := [(.int p2)]) (rest := []) (lenOf pd_1 rfl) rfl (by show 2 * 0 + _ ≤ _; exact Nat.le_of_eq rfl) (hb hby d16_45) (fun _ _ => ⟨rfl, e107, (by decide : 0 + 0 ≤ _), (by decide : 0 + 0 ≤ _)⟩)
    dsimp only [Pt.U, Pt.locs, Pt.cells, Pt.slots] at X109 l109 y109 z109 st109 hQ109
    subst l109 y109 z109
    obtain ⟨rfl, Nq109, K109, R109_1, R109_2, R109_3, R109_4, R109_5, R109_6, R109_7, R109_8, R109_9, R109_10, R109_11, R109_12, R109_13, R109_14, R109_15⟩ := hQ109
    have N109 := Fr.app N0 Nq109
    have ne110 : au ≠ ak := own_ne_kv H14 H16 (by decide)
    have ne111 : ac ≠ ak := own_ne_kv H13 H16 (by decide)
    have ne112 : ar ≠ ak := own_ne_kv H12 H16 (by decide)
    have ne113 : al ≠ ak := own_ne_kv H11 H16 (by decide)
    have ne114 : a1 ≠ ak := own_ne_kar H0 (own_w hw 2 rfl) H16
    have f115 := (H16.keep K109 (ninS (Ne.symm ne114) (ninS (Ne.symm ne113) (ninS (Ne.symm ne112) (ninS (Ne.symm ne111) (ninS (Ne.symm ne110) nin0))))))
    obtain ⟨fs, hr, hrun, hended, hW, hsame⟩ := X109.leave (v := some (.int (own_g lR p2))) (fun h => by rw [Bd.returns] at h; cases h) (BodyLoose.notSynchronized Bd)
    refine ⟨_, _, pre103 _ ?_, hrun, hended, _, _, rfl, ?_, ⟨_, rfl⟩, hW, hsame.mono (by decide) (by decide)⟩
    · skip
      show Steps p.tables e below (T101.setTop (mkF m 6 #[.val (.ref a1), .val (.int p2), .unset] [(.int (own_g lL p2))])) _
      refine XS.ifYes X101.here hx rfl (pc0 := 6) (pc' := 18) rfl (hb hby d16_6) rfl ((if0 _ _).trans (teq (hc6_104 : (own_g lL p2) = (0 : Int32))).1) (by decide) (by decide) ?_
      refine XS.aloadN X101.here hx rfl (hb hby d16_18) rfl rfl ?_
      refine st105 _ ?_
      refine XS.iloadN X105.here hx rfl (hb hby d16_22) rfl ?_
      show Steps p.tables e below (T105.setTop (mkF m 23 #[.val (.ref a1), .val (.int p2), .unset] [(.int p2), (.ref al)])) _
      refine own_ia X105 hx hZ e105 H11 H35 (hb hby d16_23) ?_
      show Steps p.tables e below (T105.setTop (mkF m 24 #[.val (.ref a1), .val (.int p2), .unset] [(.int (own_g lL p2))])) _
      refine XS.ifNo X105.here hx rfl (hb hby d16_24) rfl ((if0 _ _).trans (teq (hc6_104 : (own_g lL p2) = (0 : Int32))).2) ?_
      refine XS.aloadN X105.here hx rfl (hb hby d16_27) rfl rfl ?_
      refine st107 _ ?_
      refine XS.iloadN X107.here hx rfl (hb hby d16_31) rfl ?_
      show Steps p.tables e below (T107.setTop (mkF m 32 #[.val (.ref a1), .val (.int p2), .unset] [(.int p2), (.ref ar)])) _
      refine own_ia X107 hx hZ e107 H12 H35 (hb hby d16_32) ?_
      show Steps p.tables e below (T107.setTop (mkF m 33 #[.val (.ref a1), .val (.int p2), .unset] [(.int (own_g lR p2))])) _
      refine XS.goto X107.here hx rfl (pc0 := 33) (pc' := 42) rfl (hb hby d16_33) (by decide) (by decide) ?_
      refine XS.istoreN X107.here hx rfl (hb hby d16_42) rfl (l' := #[.val (.ref a1), .val (.int p2), .val (.int (own_g lR p2))]) rfl ?_
      refine XS.aloadN X107.here hx rfl (hb hby d16_43) rfl rfl ?_
      refine XS.iloadN X107.here hx rfl (hb hby d16_44) rfl ?_
      show Steps p.tables e below (T107.setTop (mkF m 45 #[.val (.ref a1), .val (.int p2), .val (.int (own_g lR p2))] [(.int p2), (.ref a1)])) _
      refine st109.trans ?_
      show Steps p.tables e below (T109.setTop (mkF m 48 #[.val (.ref a1), .val (.int p2), .val (.int (own_g lR p2))] [])) _
      refine XS.iloadN X109.here hx rfl (hb hby d16_48) rfl ?_
      show Steps p.tables e below (T109.setTop (mkF m 49 #[.val (.ref a1), .val (.int p2), .val (.int (own_g lR p2))] [(.int (own_g lR p2))])) _
      exact retI X109 hx Bd.returns (hb hby d16_49) hr
    · show Q16 Z a1 p2 ak ro u_ rs al kl lL ar kr lR ac kc lC au ku lT ah kh lH kk kK val h0 n0 _ T109.heap _
      exact ⟨(own_p lL p2 (0 : Int32)), (own_p lR p2 (0 : Int32)), (own_p lC p2 (0 : Int32)), (own_p lT p2 (0 : Int32)), lH, kK, u_, p2, (1 : Int32), (own_g lR p2), rfl, N109, ((Keep.refl h0 [a1, ak, al, ar, ac, au, ah]).trans K109 (allS (P := (fun x => x ∈ [a1, ak, al, ar, ac, au, ah] ∨ h0.size ≤ x)) (Or.inl (List.mem_of_getElem? (i := 0) rfl)) (allS (P := (fun x => x ∈ [a1, ak, al, ar, ac, au, ah] ∨ h0.size ≤ x)) (Or.inl (List.mem_of_getElem? (i := 2) rfl)) (allS (P := (fun x => x ∈ [a1, ak, al, ar, ac, au, ah] ∨ h0.size ≤ x)) (Or.inl (List.mem_of_getElem? (i := 3) rfl)) (allS (P := (fun x => x ∈ [a1, ak, al, ar, ac, au, ah] ∨ h0.size ≤ x)) (Or.inl (List.mem_of_getElem? (i := 4) rfl)) (allS (P := (fun x => x ∈ [a1, ak, al, ar, ac, au, ah] ∨ h0.size ≤ x)) (Or.inl (List.mem_of_getElem? (i := 5) rfl)) all0)))))), R109_1, R109_2, R109_3, R109_4, R109_5, R109_6, R109_7, R109_8, R109_9, R109_10, R109_11, R109_12, R109_13, R109_14, R109_15, f115, (own_rngp H30 (by decide)), (own_rngp H31 (by decide)), (own_16p H32), (own_16p H33), H34, (H31.2 _), (by simp only [own_unl, own_u1, own_u2, own_lo, own_fre, own_il, own_ir, own_fin, own_fw, eq_true hc6_104, if_true, if_false])⟩
  · skip
    obtain ⟨T116, X116, e116, st116⟩ := getF X101 hx hZ hown (host := "") (Or.inl (own_w hw 16 rfl)) Via.refl e101 H3 (g := (mkF m 10 #[.val (.ref a1), .val (.int p2), .unset] [(.ref a1)])) rfl rfl (hb hby d16_10)
    have pre118 : ∀ t, Steps p.tables e below (T116.setTop (mkF m 15 #[.val (.ref a1), .val (.int p2), .unset] [(.int (own_g lR p2))])) t → Steps p.tables e below (s₁.setTop (entryFrame m #[(.ref a1), (.int p2)] 3)) t := fun t kt => by
      refine pre103 t ?_
      show Steps p.tables e below (T101.setTop (mkF m 6 #[.val (.ref a1), .val (.int p2), .unset] [(.int (own_g lL p2))])) _
      refine XS.ifNo X101.here hx rfl (hb hby d16_6) rfl ((if0 _ _).trans (feq (hc6_104 : ¬ ((own_g lL p2) = (0 : Int32)))).1) ?_
      refine XS.aloadN X101.here hx rfl (hb hby d16_9) rfl rfl ?_
      refine st116 _ ?_
      refine XS.iloadN X116.here hx rfl (hb hby d16_13) rfl ?_
      show Steps p.tables e below (T116.setTop (mkF m 14 #[.val (.ref a1), .val (.int p2), .unset] [(.int p2), (.ref ar)])) _
      refine own_ia X116 hx hZ e116 H12 H35 (hb hby d16_14) ?_
      show Steps p.tables e below (T116.setTop (mkF m 15 #[.val (.ref a1), .val (.int p2), .unset] [(.int (own_g lR p2))])) _
      exact kt
    by_cases hc15_119 : (own_g lR p2) = (0 : Int32)
    · skip
      obtain ⟨T120, X120, e120, st120⟩ := getF X116 hx hZ hown (host := "") (Or.inl (own_w hw 14 rfl)) Via.refl e116 H2 (g := (mkF m 19 #[.val (.ref a1), .val (.int p2), .unset] [(.ref a1)])) rfl rfl (hb hby d16_19)
      obtain ⟨T122, X122, e122, st122⟩ := getF X120 hx hZ hown (host := "") (Or.inl (own_w hw 14 rfl)) Via.refl e120 H2 (g := (mkF m 37 #[.val (.ref a1), .val (.int p2), .unset] [(.ref a1)])) rfl rfl (hb hby d16_37)
      obtain ⟨cq124, q124, q124'⟩ := H0.cell
      obtain ⟨_, _, ⟨T124, L124, k124, n124⟩, -, X124, ⟨Lc124, hQ124, l124, y124, z124⟩, st124⟩ := X122.privateBack hx (y := (⟨"com/example/prequential/prequential/measure/ScoreMultiset", "free", "(I)V"⟩ : MethodName)) hown (mvT hZ (own_w hw 92 rfl)) (mvT hZ (own_w hw 93 rfl)) (mvT hZ (own_selp (by decide) (own_w hw 2 rfl) (own_w hw 94 rfl) (own_w hw 93 rfl))) (Cond.privateMethod_at (mvP hZ (own_w hw 94 rfl) (args := #[]))) (mvT hZ (own_w hw 95 rfl)) (by decide) (backOf (W := 0) (rm17 l Z a0 hw [] a1 p2 ak ro u_ rs al kl lL ar kr lR ac kc lC au ku lT ah kh lH h0 n0 Z0 H0 H1 H2 H3 H4 H5 H6 H7 H8 H9 H10 H11 H12 H13 H14 H15 H17 H19 H20 H21 H22 H24 H25 H26 H27 H28 H29 H35 H30 H31 H32 H33 H34) hZ (own_w hw 95 rfl) (own_w hw 3 rfl) (by decide) (by decide)) (g := (mkF m 45 #[.val (.ref a1), .val (.int p2), .val (.int (own_g lL p2))] [(.int p2), (.ref a1)])) rfl (by rw [hml]; rfl) (Steps.refl _) (a := a1) (by rw [e122]; exact q124) q124' (argsL := [(.int p2)]) (rest := []) (lenOf pd_1 rfl) rfl (by show 2 * 0 + _ ≤ _; exact Nat.le_of_eq rfl) (hb hby d16_45) (fun _ _ => ⟨rfl, e122, (by decide : 0 + 0 ≤ _), (by decide : 0 + 0 ≤ _)⟩)
      dsimp only [Pt.U, Pt.locs, Pt.cells, Pt.slots] at X124 l124 y124 z124 st124 hQ124
      subst l124 y124 z124
      obtain ⟨rfl, Nq124, K124, R124_1, R124_2, R124_3, R124_4, R124_5, R124_6, R124_7, R124_8, R124_9, R124_10, R124_11, R124_12, R124_13, R124_14, R124_15⟩ := hQ124
      have N124 := Fr.app N0 Nq124
      have ne125 : au ≠ ak := own_ne_kv H14 H16 (by decide)
      have ne126 : ac ≠ ak := own_ne_kv H13 H16 (by decide)
      have ne127 : ar ≠ ak := own_ne_kv H12 H16 (by decide)
      have ne128 : al ≠ ak := own_ne_kv H11 H16 (by decide)
      have ne129 : a1 ≠ ak := own_ne_kar H0 (own_w hw 2 rfl) H16
      have f130 := (H16.keep K124 (ninS (Ne.symm ne129) (ninS (Ne.symm ne128) (ninS (Ne.symm ne127) (ninS (Ne.symm ne126) (ninS (Ne.symm ne125) nin0))))))
      obtain ⟨fs, hr, hrun, hended, hW, hsame⟩ := X124.leave (v := some (.int (own_g lL p2))) (fun h => by rw [Bd.returns] at h; cases h) (BodyLoose.notSynchronized Bd)
      refine ⟨_, _, pre118 _ ?_, hrun, hended, _, _, rfl, ?_, ⟨_, rfl⟩, hW, hsame.mono (by decide) (by decide)⟩
      · skip
        show Steps p.tables e below (T116.setTop (mkF m 15 #[.val (.ref a1), .val (.int p2), .unset] [(.int (own_g lR p2))])) _
        refine XS.ifNo X116.here hx rfl (hb hby d16_15) rfl ((if0 _ _).trans (teq (hc15_119 : (own_g lR p2) = (0 : Int32))).2) ?_
        refine XS.aloadN X116.here hx rfl (hb hby d16_18) rfl rfl ?_
        refine st120 _ ?_
        refine XS.iloadN X120.here hx rfl (hb hby d16_22) rfl ?_
        show Steps p.tables e below (T120.setTop (mkF m 23 #[.val (.ref a1), .val (.int p2), .unset] [(.int p2), (.ref al)])) _
        refine own_ia X120 hx hZ e120 H11 H35 (hb hby d16_23) ?_
        show Steps p.tables e below (T120.setTop (mkF m 24 #[.val (.ref a1), .val (.int p2), .unset] [(.int (own_g lL p2))])) _
        refine XS.ifYes X120.here hx rfl (pc0 := 24) (pc' := 36) rfl (hb hby d16_24) rfl ((if0 _ _).trans (feq (hc6_104 : ¬ ((own_g lL p2) = (0 : Int32)))).2) (by decide) (by decide) ?_
        refine XS.aloadN X120.here hx rfl (hb hby d16_36) rfl rfl ?_
        refine st122 _ ?_
        refine XS.iloadN X122.here hx rfl (hb hby d16_40) rfl ?_
        show Steps p.tables e below (T122.setTop (mkF m 41 #[.val (.ref a1), .val (.int p2), .unset] [(.int p2), (.ref al)])) _
        refine own_ia X122 hx hZ e122 H11 H35 (hb hby d16_41) ?_
        show Steps p.tables e below (T122.setTop (mkF m 42 #[.val (.ref a1), .val (.int p2), .unset] [(.int (own_g lL p2))])) _
        refine XS.istoreN X122.here hx rfl (hb hby d16_42) rfl (l' := #[.val (.ref a1), .val (.int p2), .val (.int (own_g lL p2))]) rfl ?_
        refine XS.aloadN X122.here hx rfl (hb hby d16_43) rfl rfl ?_
        refine XS.iloadN X122.here hx rfl (hb hby d16_44) rfl ?_
        show Steps p.tables e below (T122.setTop (mkF m 45 #[.val (.ref a1), .val (.int p2), .val (.int (own_g lL p2))] [(.int p2), (.ref a1)])) _
        refine st124.trans ?_
        show Steps p.tables e below (T124.setTop (mkF m 48 #[.val (.ref a1), .val (.int p2), .val (.int (own_g lL p2))] [])) _
        refine XS.iloadN X124.here hx rfl (hb hby d16_48) rfl ?_
        show Steps p.tables e below (T124.setTop (mkF m 49 #[.val (.ref a1), .val (.int p2), .val (.int (own_g lL p2))] [(.int (own_g lL p2))])) _
        exact retI X124 hx Bd.returns (hb hby d16_49) hr
      · show Q16 Z a1 p2 ak ro u_ rs al kl lL ar kr lR ac kc lC au ku lT ah kh lH kk kK val h0 n0 _ T124.heap _
        exact ⟨(own_p lL p2 (0 : Int32)), (own_p lR p2 (0 : Int32)), (own_p lC p2 (0 : Int32)), (own_p lT p2 (0 : Int32)), lH, kK, u_, p2, (1 : Int32), (own_g lL p2), rfl, N124, ((Keep.refl h0 [a1, ak, al, ar, ac, au, ah]).trans K124 (allS (P := (fun x => x ∈ [a1, ak, al, ar, ac, au, ah] ∨ h0.size ≤ x)) (Or.inl (List.mem_of_getElem? (i := 0) rfl)) (allS (P := (fun x => x ∈ [a1, ak, al, ar, ac, au, ah] ∨ h0.size ≤ x)) (Or.inl (List.mem_of_getElem? (i := 2) rfl)) (allS (P := (fun x => x ∈ [a1, ak, al, ar, ac, au, ah] ∨ h0.size ≤ x)) (Or.inl (List.mem_of_getElem? (i := 3) rfl)) (allS (P := (fun x => x ∈ [a1, ak, al, ar, ac, au, ah] ∨ h0.size ≤ x)) (Or.inl (List.mem_of_getElem? (i := 4) rfl)) (allS (P := (fun x => x ∈ [a1, ak, al, ar, ac, au, ah] ∨ h0.size ≤ x)) (Or.inl (List.mem_of_getElem? (i := 5) rfl)) all0)))))), R124_1, R124_2, R124_3, R124_4, R124_5, R124_6, R124_7, R124_8, R124_9, R124_10, R124_11, R124_12, R124_13, R124_14, R124_15, f130, (own_rngp H30 (by decide)), (own_rngp H31 (by decide)), (own_16p H32), (own_16p H33), H34, (H30.2 _), (by simp only [own_unl, own_u1, own_u2, own_lo, own_fre, own_il, own_ir, own_fin, own_fw, eq_false hc6_104, eq_true hc15_119, if_true, if_false])⟩
    · skip
      obtain ⟨T131, X131, e131, st131⟩ := getF X116 hx hZ hown (host := "") (Or.inl (own_w hw 16 rfl)) Via.refl e116 H3 (g := (mkF m 51 #[.val (.ref a1), .val (.int p2), .unset] [(.ref a1)])) rfl rfl (hb hby d16_51)
      obtain ⟨T133, X133, e133, st133⟩ := getF X131 hx hZ hown (host := "") (Or.inl (own_w hw 14 rfl)) Via.refl e131 H2 (g := (mkF m 58 #[.val (.ref a1), .val (.int p2), .val (.int (own_g lR p2))] [(.ref a1)])) rfl rfl (hb hby d16_58)
      have pre135 : ∀ t, Steps p.tables e below (T133.setTop (mkF m 63 #[.val (.ref a1), .val (.int p2), .val (.int (own_g lR p2))] [(.int (own_g lL (own_g lR p2)))])) t → Steps p.tables e below (s₁.setTop (entryFrame m #[(.ref a1), (.int p2)] 3)) t := fun t kt => by
        refine pre118 t ?_
        show Steps p.tables e below (T116.setTop (mkF m 15 #[.val (.ref a1), .val (.int p2), .unset] [(.int (own_g lR p2))])) _
        refine XS.ifYes X116.here hx rfl (pc0 := 15) (pc' := 50) rfl (hb hby d16_15) rfl ((if0 _ _).trans (feq (hc15_119 : ¬ ((own_g lR p2) = (0 : Int32)))).2) (by decide) (by decide) ?_
        refine XS.aloadN X116.here hx rfl (hb hby d16_50) rfl rfl ?_
        refine st131 _ ?_
        refine XS.iloadN X131.here hx rfl (hb hby d16_54) rfl ?_
        show Steps p.tables e below (T131.setTop (mkF m 55 #[.val (.ref a1), .val (.int p2), .unset] [(.int p2), (.ref ar)])) _
        refine own_ia X131 hx hZ e131 H12 H35 (hb hby d16_55) ?_
        show Steps p.tables e below (T131.setTop (mkF m 56 #[.val (.ref a1), .val (.int p2), .unset] [(.int (own_g lR p2))])) _
        refine XS.istoreN X131.here hx rfl (hb hby d16_56) rfl (l' := #[.val (.ref a1), .val (.int p2), .val (.int (own_g lR p2))]) rfl ?_
        refine XS.aloadN X131.here hx rfl (hb hby d16_57) rfl rfl ?_
        refine st133 _ ?_
        refine XS.iloadN X133.here hx rfl (hb hby d16_61) rfl ?_
        show Steps p.tables e below (T133.setTop (mkF m 62 #[.val (.ref a1), .val (.int p2), .val (.int (own_g lR p2))] [(.int (own_g lR p2)), (.ref al)])) _
        refine own_ia X133 hx hZ e133 H11 (H31.2 _) (hb hby d16_62) ?_
        show Steps p.tables e below (T133.setTop (mkF m 63 #[.val (.ref a1), .val (.int p2), .val (.int (own_g lR p2))] [(.int (own_g lL (own_g lR p2)))])) _
        exact kt
      by_cases hc63_136 : (own_g lL (own_g lR p2)) = (0 : Int32)
      · skip
        obtain ⟨T137, X137, e137, st137⟩ := getF X133 hx hZ hown (host := "") (Or.inl (own_w hw 11 rfl)) Via.refl e133 H1 (g := (mkF m 77 #[.val (.ref a1), .val (.int p2), .val (.int (own_g lR p2))] [(.ref a1)])) rfl rfl (hb hby d16_77)
        obtain ⟨T138, X138, e138, st138⟩ := getF X137 hx hZ hown (host := "") (Or.inl (own_w hw 11 rfl)) Via.refl e137 H1 (g := (mkF m 82 #[.val (.ref a1), .val (.int p2), .val (.int (own_g lR p2))] [(.ref a1), (.int p2), (.ref ak)])) rfl rfl (hb hby d16_82)
        obtain ⟨cl140, Ar140, qc140, S140, M140, Hh140⟩ := id H16
        have hin140 : ¬ (p2 < 0 ∨ cl140.slots.size ≤ (p2).toNatClampNeg) := inb_of S140 H35
        obtain ⟨T140, h140, X140, e140, W140, st140⟩ := stD X138 hx hZ e138 Ar140 (j := p2) hin140 (g := (mkF m 87 #[.val (.ref a1), .val (.int p2), .val (.int (own_g lR p2))] [(.double (val (own_gk kK (own_g lR p2)))), (.int p2), (.ref ak)])) rfl rfl (hb hby d16_87)
        have V140 : own_Kar Z h140 ak kk (own_pk kK p2 (own_gk kK (own_g lR p2))) val := own_Kar.set Ar140 qc140 S140 M140 Hh140 H35 rfl W140
        have N140 := Fr.snoc X140 N0 H18
        have ne141 : a1 ≠ ak := own_ne_kar (H0.wr W140) (own_w hw 2 rfl) V140
        have f142 := (H4.other W140 (Or.inl ne141))
        obtain ⟨T143, X143, e143, st143⟩ := getF X140 hx hZ hown (host := "") (Or.inl (own_w hw 18 rfl)) Via.refl e140 f142 (g := (mkF m 89 #[.val (.ref a1), .val (.int p2), .val (.int (own_g lR p2))] [(.ref a1)])) rfl rfl (hb hby d16_89)
        obtain ⟨T144, X144, e144, st144⟩ := getF X143 hx hZ hown (host := "") (Or.inl (own_w hw 18 rfl)) Via.refl e143 f142 (g := (mkF m 94 #[.val (.ref a1), .val (.int p2), .val (.int (own_g lR p2))] [(.ref a1), (.int p2), (.ref ac)])) rfl rfl (hb hby d16_94)
        have ne145 : ac ≠ ak := own_ne_kv H13 H16 (by decide)
        have f146 := (H13.other W140 ne145)
        obtain ⟨cl148, Ar148, qc148, S148, M148, Hh148, G148⟩ := id f146
        have hin148 : ¬ (p2 < 0 ∨ cl148.slots.size ≤ (p2).toNatClampNeg) := inb_of S148 H35
        obtain ⟨T148, h148, X148, e148, W148, st148⟩ := stI X144 hx hZ e144 Ar148 (j := p2) hin148 (g := (mkF m 99 #[.val (.ref a1), .val (.int p2), .val (.int (own_g lR p2))] [(.int (own_g lC (own_g lR p2))), (.int p2), (.ref ac)])) rfl rfl (hb hby d16_99)
        have V148 : Arv Z h148 ac kc .int (16 : Int32) (own_v (own_p lC p2 (own_g lC (own_g lR p2)))) (.int (0 : Int32)) := by rw [own_vp]; exact Arv.set Ar148 qc148 S148 M148 Hh148 G148 rfl W148 p2.toNatClampNeg (rfl) (own_vlt H35 H32)
        have N148 := Fr.snoc X148 N140 H21
        have ne149 : a1 ≠ ac := Exa.neArv ((H0.wr W140).wr W148) V148 (own_w hw 2 rfl)
        have f150 := ((H3.other W140 (Or.inl ne141)).other W148 (Or.inl ne149))
        obtain ⟨T151, X151, e151, st151⟩ := getF X148 hx hZ hown (host := "") (Or.inl (own_w hw 16 rfl)) Via.refl e148 f150 (g := (mkF m 101 #[.val (.ref a1), .val (.int p2), .val (.int (own_g lR p2))] [(.ref a1)])) rfl rfl (hb hby d16_101)
        obtain ⟨T152, X152, e152, st152⟩ := getF X151 hx hZ hown (host := "") (Or.inl (own_w hw 16 rfl)) Via.refl e151 f150 (g := (mkF m 107 #[.val (.ref a1), .val (.int p2), .val (.int (own_g lR p2))] [(.ref a1), (.ref a1), (.int p2), (.ref ar)])) rfl rfl (hb hby d16_107)
        have ne153 : ar ≠ ak := own_ne_kv H12 H16 (by decide)
        have f154 := ((H12.other W140 ne153).other W148 H26)
        have f156 := (f142.other W148 (Or.inl ne149))
        obtain ⟨T157, X157, e157, st157⟩ := getF X152 hx hZ hown (host := "") (Or.inl (own_w hw 18 rfl)) Via.refl e152 f156 (g := (mkF m 113 #[.val (.ref a1), .val (.int p2), .val (.int (own_g lR p2))] [(.ref a1), (.int (own_g lR p2)), (.ref a1), (.int p2), (.ref ar)])) rfl rfl (hb hby d16_113)
        have f159 := ((H0.wr W140).wr W148)
        have f160 := ((H1.other W140 (Or.inl ne141)).other W148 (Or.inl ne149))
        have f161 := ((H2.other W140 (Or.inl ne141)).other W148 (Or.inl ne149))
        have f162 := ((H5.other W140 (Or.inl ne141)).other W148 (Or.inl ne149))
        have f163 := ((H6.other W140 (Or.inl ne141)).other W148 (Or.inl ne149))
        have f164 := ((H7.other W140 (Or.inl ne141)).other W148 (Or.inl ne149))
        have f165 := ((H8.other W140 (Or.inl ne141)).other W148 (Or.inl ne149))
        have f166 := ((H9.other W140 (Or.inl ne141)).other W148 (Or.inl ne149))
        have f167 := ((H10.other W140 (Or.inl ne141)).other W148 (Or.inl ne149))
        have ne168 : al ≠ ak := own_ne_kv H11 H16 (by decide)
        have f169 := ((H11.other W140 ne168).other W148 H25)
        have ne170 : au ≠ ak := own_ne_kv H14 H16 (by decide)
        have f171 := ((H14.other W140 ne170).other W148 (Ne.symm H29))
        have ne172 : ah ≠ ak := own_ne_kv H15 H16 (by decide)
        have ne173 : ah ≠ ac := own_ne_arv H15 H13 (by decide)
        have f174 := ((H15.other W140 ne172).other W148 ne173)
        have f175 := (V140.other W148 (Ne.symm ne145))
        have z177 : n0 ≤ h148.size := (Nat.le_trans (Nat.le_trans Z0 (Nat.le_of_eq W140.size.symm)) (Nat.le_of_eq W148.size.symm))
        obtain ⟨cq176, q176, q176'⟩ := f159.cell
        obtain ⟨_, _, ⟨T176, L176, k176, n176⟩, -, X176, ⟨Lc176, hQ176, l176, y176, z176⟩, st176⟩ := X157.privateBack hx (y := (⟨"com/example/prequential/prequential/measure/ScoreMultiset", "unlinkLowest", "(II)I"⟩ : MethodName)) hown (mvT hZ (own_w hw 96 rfl)) (mvT hZ (own_w hw 97 rfl)) (mvT hZ (own_selp (by decide) (own_w hw 2 rfl) (own_w hw 98 rfl) (own_w hw 97 rfl))) (Cond.privateMethod_at (mvP hZ (own_w hw 98 rfl) (args := #[]))) (mvT hZ (own_w hw 99 rfl)) (by decide) (backOf (W := 2) (rm18d2 l Z a0 hw [] a1 (own_g lR p2) (own_g (own_p lC p2 (own_g lC (own_g lR p2))) p2) ak ro u_ rs al kl lL ar kr lR ac kc (own_p lC p2 (own_g lC (own_g lR p2))) au ku lT ah kh lH kk (own_pk kK p2 (own_gk kK (own_g lR p2))) val h148 n0 z177 f159 f160 f161 f150 f156 f162 f163 f164 f165 f166 f167 f169 f154 V148 f171 f174 f175 H17 H18 H19 H20 H21 H22 H23 H24 H25 H26 H27 H28 H29 H30 H31 (own_16p H32) H33 H34 (H31.2 _) (own_unp_w H36 hc6_104 hc15_119)) hZ (own_w hw 99 rfl) (own_w hw 3 rfl) (by decide) (by decide)) (g := (mkF m 118 #[.val (.ref a1), .val (.int p2), .val (.int (own_g lR p2))] [(.int (own_g (own_p lC p2 (own_g lC (own_g lR p2))) p2)), (.int (own_g lR p2)), (.ref a1), (.int p2), (.ref ar)])) rfl (by rw [hml]; rfl) (Steps.refl _) (a := a1) (by rw [e157]; exact q176) q176' (argsL := [(.int (own_g lR p2)), (.int (own_g (own_p lC p2 (own_g lC (own_g lR p2))) p2))]) (rest := [(.int p2), (.ref ar)]) (lenOf pd_0 rfl) rfl (by show 2 * 0 + _ ≤ _; exact Nat.le_of_eq rfl) (hb hby d16_118) (fun _ _ => ⟨rfl, e157, (by decide : 0 + 0 ≤ _), (by decide : 0 + 0 ≤ _)⟩)
        dsimp only [Pt.U, Pt.locs, Pt.cells, Pt.slots] at X176 l176 y176 z176 st176 hQ176
        subst l176 y176 z176
        obtain ⟨lL2176, lR2176, lC2176, lT2176, lH2176, kK2176, u2176, f2176, r2176, v2176, rfl, Nq176, K176, R176_1, R176_2, R176_3, R176_4, R176_5, R176_6, R176_7, R176_8, R176_9, R176_10, R176_11, R176_12, R176_13, R176_14, R176_15, R176_16, R176_17, R176_18, R176_19, R176_20, R176_21, R176_22, R176_23⟩ := hQ176
        have N176 := Fr.app N148 Nq176
        obtain ⟨cl178, Ar178, qc178, S178, M178, Hh178, G178⟩ := id R176_12
        have hin178 : ¬ (p2 < 0 ∨ cl178.slots.size ≤ (p2).toNatClampNeg) := inb_of S178 H35
        obtain ⟨T178, h178, X178, e178, W178, st178⟩ := stI X176 hx hZ rfl Ar178 (j := p2) hin178 (g := (mkF m 121 #[.val (.ref a1), .val (.int p2), .val (.int (own_g lR p2))] [(.int v2176), (.int p2), (.ref ar)])) rfl rfl (hb hby d16_121)
        have V178 : Arv Z h178 ar kr .int (16 : Int32) (own_v (own_p lR2176 p2 v2176)) (.int (0 : Int32)) := by rw [own_vp]; exact Arv.set Ar178 qc178 S178 M178 Hh178 G178 rfl W178 p2.toNatClampNeg (rfl) (own_vlt H35 R176_18.1)
        have N178 := Fr.snoc X178 N176 H20
        have f179 := ((f159.keep K176).wr W178)
        have ne180 : a1 ≠ ar := Exa.neArv f179 V178 (own_w hw 2 rfl)
        have f181 := (R176_1.other W178 (Or.inl ne180))
        have f182 := (R176_2.other W178 (Or.inl ne180))
        have f183 := (R176_3.other W178 (Or.inl ne180))
        have f184 := (R176_4.other W178 (Or.inl ne180))
        have f185 := (R176_5.other W178 (Or.inl ne180))
        have f186 := (R176_6.other W178 (Or.inl ne180))
        have f187 := (R176_7.other W178 (Or.inl ne180))
        have f188 := (R176_8.other W178 (Or.inl ne180))
        have f189 := (R176_9.other W178 (Or.inl ne180))
        have f190 := (R176_10.other W178 (Or.inl ne180))
        have f191 := (R176_11.other W178 H24)
        have f192 := (R176_13.other W178 (Ne.symm H26))
        have f193 := (R176_14.other W178 (Ne.symm H28))
        have ne194 : ah ≠ ar := own_ne_arv H15 H12 (by decide)
        have f195 := (R176_15.other W178 ne194)
        have z197 : n0 ≤ h178.size := (Nat.le_trans (Nat.le_trans z177 K176.1) (Nat.le_of_eq W178.size.symm))
        obtain ⟨cq196, q196, q196'⟩ := f179.cell
        obtain ⟨_, _, ⟨T196, L196, k196, n196⟩, -, X196, ⟨Lc196, hQ196, l196, y196, z196⟩, st196⟩ := X178.privateBack hx (y := (⟨"com/example/prequential/prequential/measure/ScoreMultiset", "settle", "(II)I"⟩ : MethodName)) hown (mvT hZ (own_w hw 46 rfl)) (mvT hZ (own_w hw 47 rfl)) (mvT hZ (own_selp (by decide) (own_w hw 2 rfl) (own_w hw 48 rfl) (own_w hw 47 rfl))) (Cond.privateMethod_at (mvP hZ (own_w hw 48 rfl) (args := #[]))) (mvT hZ (own_w hw 49 rfl)) (by decide) (backOf (W := 0) (rm6 l Z a0 hw [] a1 p2 (-1 : Int32) ak ro u2176 f2176 r2176 al kl lL2176 ar kr (own_p lR2176 p2 v2176) ac kc lC2176 au ku lT2176 ah kh lH2176 h178 n0 z197 f179 f181 f182 f183 f184 f185 f186 f187 f188 f189 f190 f191 V178 f192 f193 f195 H19 H20 H22 H23 H17 H24 H25 H26 H27 H28 H29 H35 R176_17 (own_rngp R176_18 R176_22) R176_19 R176_20 R176_21) hZ (own_w hw 49 rfl) (own_w hw 3 rfl) (by decide) (by decide)) (g := (mkF m 125 #[.val (.ref a1), .val (.int p2), .val (.int (own_g lR p2))] [(.int (-1 : Int32)), (.int p2), (.ref a1)])) rfl (by rw [hml]; rfl) (Steps.refl _) (a := a1) (by rw [e178]; exact q196) q196' (argsL := [(.int p2), (.int (-1 : Int32))]) (rest := []) (lenOf pd_0 rfl) rfl (by show 2 * 0 + _ ≤ _; exact Nat.le_of_eq rfl) (hb hby d16_125) (fun _ _ => ⟨rfl, e178, (by decide : 0 + 0 ≤ _), (by decide : 0 + 0 ≤ _)⟩)
        dsimp only [Pt.U, Pt.locs, Pt.cells, Pt.slots] at X196 l196 y196 z196 st196 hQ196
        subst l196 y196 z196
        obtain ⟨rfl, Nq196, K196, R196_1, R196_2, R196_3, R196_4, R196_5, R196_6, R196_7, R196_8, R196_9, R196_10, R196_11, R196_12, R196_13, R196_14, R196_15, R196_16, R196_17, R196_18, R196_19⟩ := hQ196
        have N196 := Fr.app N178 Nq196
        have f198 := (f192.keep K196 (ninS (Ne.symm ne149) (ninS (Ne.symm H25) (ninS (Ne.symm H26) (ninS H29 (ninS (Ne.symm ne173) nin0))))))
        have f199 := ((R176_16.other W178 (Ne.symm ne153)).keep K196 (ninS (Ne.symm ne141) (ninS (Ne.symm ne168) (ninS (Ne.symm ne153) (ninS (Ne.symm ne170) (ninS (Ne.symm ne172) nin0))))))
        obtain ⟨fs, hr, hrun, hended, hW, hsame⟩ := X196.leave (v := some (.int (own_set lL2176 (own_p lR2176 p2 v2176) lC2176 lT2176 lH2176 r2176 p2 (-1 : Int32)).2)) (fun h => by rw [Bd.returns] at h; cases h) (BodyLoose.notSynchronized Bd)
        refine ⟨_, _, pre135 _ ?_, hrun, hended, _, _, rfl, ?_, ⟨_, rfl⟩, hW, hsame.mono (by decide) (by decide)⟩
        · skip
          show Steps p.tables e below (T133.setTop (mkF m 63 #[.val (.ref a1), .val (.int p2), .val (.int (own_g lR p2))] [(.int (own_g lL (own_g lR p2)))])) _
          refine XS.ifYes X133.here hx rfl (pc0 := 63) (pc' := 76) rfl (hb hby d16_63) rfl ((if0 _ _).trans (teq (hc63_136 : (own_g lL (own_g lR p2)) = (0 : Int32))).1) (by decide) (by decide) ?_
          refine XS.aloadN X133.here hx rfl (hb hby d16_76) rfl rfl ?_
          refine st137 _ ?_
          refine XS.iloadN X137.here hx rfl (hb hby d16_80) rfl ?_
          refine XS.aloadN X137.here hx rfl (hb hby d16_81) rfl rfl ?_
          refine st138 _ ?_
          refine XS.iloadN X138.here hx rfl (hb hby d16_85) rfl ?_
          show Steps p.tables e below (T138.setTop (mkF m 86 #[.val (.ref a1), .val (.int p2), .val (.int (own_g lR p2))] [(.int (own_g lR p2)), (.ref ak), (.int p2), (.ref ak)])) _
          refine own_da X138 hx hZ e138 H16 (H31.2 _) (hb hby d16_86) ?_
          show Steps p.tables e below (T138.setTop (mkF m 87 #[.val (.ref a1), .val (.int p2), .val (.int (own_g lR p2))] [(.double (val (own_gk kK (own_g lR p2)))), (.int p2), (.ref ak)])) _
          refine st140 _ ?_
          refine XS.aloadN X140.here hx rfl (hb hby d16_88) rfl rfl ?_
          refine st143 _ ?_
          refine XS.iloadN X143.here hx rfl (hb hby d16_92) rfl ?_
          refine XS.aloadN X143.here hx rfl (hb hby d16_93) rfl rfl ?_
          refine st144 _ ?_
          refine XS.iloadN X144.here hx rfl (hb hby d16_97) rfl ?_
          show Steps p.tables e below (T144.setTop (mkF m 98 #[.val (.ref a1), .val (.int p2), .val (.int (own_g lR p2))] [(.int (own_g lR p2)), (.ref ac), (.int p2), (.ref ac)])) _
          refine own_ia X144 hx hZ e144 f146 (H31.2 _) (hb hby d16_98) ?_
          show Steps p.tables e below (T144.setTop (mkF m 99 #[.val (.ref a1), .val (.int p2), .val (.int (own_g lR p2))] [(.int (own_g lC (own_g lR p2))), (.int p2), (.ref ac)])) _
          refine st148 _ ?_
          refine XS.aloadN X148.here hx rfl (hb hby d16_100) rfl rfl ?_
          refine st151 _ ?_
          refine XS.iloadN X151.here hx rfl (hb hby d16_104) rfl ?_
          refine XS.aloadN X151.here hx rfl (hb hby d16_105) rfl rfl ?_
          refine XS.aloadN X151.here hx rfl (hb hby d16_106) rfl rfl ?_
          refine st152 _ ?_
          refine XS.iloadN X152.here hx rfl (hb hby d16_110) rfl ?_
          show Steps p.tables e below (T152.setTop (mkF m 111 #[.val (.ref a1), .val (.int p2), .val (.int (own_g lR p2))] [(.int p2), (.ref ar), (.ref a1), (.int p2), (.ref ar)])) _
          refine own_ia X152 hx hZ e152 f154 H35 (hb hby d16_111) ?_
          show Steps p.tables e below (T152.setTop (mkF m 112 #[.val (.ref a1), .val (.int p2), .val (.int (own_g lR p2))] [(.int (own_g lR p2)), (.ref a1), (.int p2), (.ref ar)])) _
          refine XS.aloadN X152.here hx rfl (hb hby d16_112) rfl rfl ?_
          refine st157 _ ?_
          refine XS.iloadN X157.here hx rfl (hb hby d16_116) rfl ?_
          show Steps p.tables e below (T157.setTop (mkF m 117 #[.val (.ref a1), .val (.int p2), .val (.int (own_g lR p2))] [(.int p2), (.ref ac), (.int (own_g lR p2)), (.ref a1), (.int p2), (.ref ar)])) _
          refine own_ia X157 hx hZ e157 V148 H35 (hb hby d16_117) ?_
          show Steps p.tables e below (T157.setTop (mkF m 118 #[.val (.ref a1), .val (.int p2), .val (.int (own_g lR p2))] [(.int (own_g (own_p lC p2 (own_g lC (own_g lR p2))) p2)), (.int (own_g lR p2)), (.ref a1), (.int p2), (.ref ar)])) _
          refine st176.trans ?_
          show Steps p.tables e below (T176.setTop (mkF m 121 #[.val (.ref a1), .val (.int p2), .val (.int (own_g lR p2))] [(.int v2176), (.int p2), (.ref ar)])) _
          refine st178 _ ?_
          refine XS.aloadN X178.here hx rfl (hb hby d16_122) rfl rfl ?_
          refine XS.iloadN X178.here hx rfl (hb hby d16_123) rfl ?_
          refine XS.iconst X178.here hx rfl (hb hby d16_124) ?_
          show Steps p.tables e below (T178.setTop (mkF m 125 #[.val (.ref a1), .val (.int p2), .val (.int (own_g lR p2))] [(.int (-1 : Int32)), (.int p2), (.ref a1)])) _
          refine st196.trans ?_
          show Steps p.tables e below (T196.setTop (mkF m 128 #[.val (.ref a1), .val (.int p2), .val (.int (own_g lR p2))] [(.int (own_set lL2176 (own_p lR2176 p2 v2176) lC2176 lT2176 lH2176 r2176 p2 (-1 : Int32)).2)])) _
          exact retI X196 hx Bd.returns (hb hby d16_128) hr
        · show Q16 Z a1 p2 ak ro u_ rs al kl lL ar kr lR ac kc lC au ku lT ah kh lH kk kK val h0 n0 _ T196.heap _
          exact ⟨((own_set lL2176 (own_p lR2176 p2 v2176) lC2176 lT2176 lH2176 r2176 p2 (-1 : Int32)).1.1.1), ((own_set lL2176 (own_p lR2176 p2 v2176) lC2176 lT2176 lH2176 r2176 p2 (-1 : Int32)).1.1.2.1), lC2176, ((own_set lL2176 (own_p lR2176 p2 v2176) lC2176 lT2176 lH2176 r2176 p2 (-1 : Int32)).1.1.2.2.1), ((own_set lL2176 (own_p lR2176 p2 v2176) lC2176 lT2176 lH2176 r2176 p2 (-1 : Int32)).1.1.2.2.2), kK2176, u2176, f2176, ((own_set lL2176 (own_p lR2176 p2 v2176) lC2176 lT2176 lH2176 r2176 p2 (-1 : Int32)).1.2), ((own_set lL2176 (own_p lR2176 p2 v2176) lC2176 lT2176 lH2176 r2176 p2 (-1 : Int32)).2), rfl, N196, ((((((Keep.refl h0 [a1, ak, al, ar, ac, au, ah]).wr W140 (Or.inl (List.mem_of_getElem? (i := 1) rfl))).wr W148 (Or.inl (List.mem_of_getElem? (i := 4) rfl))).trans K176 (allS (P := (fun x => x ∈ [a1, ak, al, ar, ac, au, ah] ∨ h0.size ≤ x)) (Or.inl (List.mem_of_getElem? (i := 0) rfl)) (allS (P := (fun x => x ∈ [a1, ak, al, ar, ac, au, ah] ∨ h0.size ≤ x)) (Or.inl (List.mem_of_getElem? (i := 1) rfl)) (allS (P := (fun x => x ∈ [a1, ak, al, ar, ac, au, ah] ∨ h0.size ≤ x)) (Or.inl (List.mem_of_getElem? (i := 2) rfl)) (allS (P := (fun x => x ∈ [a1, ak, al, ar, ac, au, ah] ∨ h0.size ≤ x)) (Or.inl (List.mem_of_getElem? (i := 3) rfl)) (allS (P := (fun x => x ∈ [a1, ak, al, ar, ac, au, ah] ∨ h0.size ≤ x)) (Or.inl (List.mem_of_getElem? (i := 4) rfl)) (allS (P := (fun x => x ∈ [a1, ak, al, ar, ac, au, ah] ∨ h0.size ≤ x)) (Or.inl (List.mem_of_getElem? (i := 5) rfl)) (allS (P := (fun x => x ∈ [a1, ak, al, ar, ac, au, ah] ∨ h0.size ≤ x)) (Or.inl (List.mem_of_getElem? (i := 6) rfl)) all0)))))))).wr W178 (Or.inl (List.mem_of_getElem? (i := 3) rfl))).trans K196 (allS (P := (fun x => x ∈ [a1, ak, al, ar, ac, au, ah] ∨ h0.size ≤ x)) (Or.inl (List.mem_of_getElem? (i := 0) rfl)) (allS (P := (fun x => x ∈ [a1, ak, al, ar, ac, au, ah] ∨ h0.size ≤ x)) (Or.inl (List.mem_of_getElem? (i := 2) rfl)) (allS (P := (fun x => x ∈ [a1, ak, al, ar, ac, au, ah] ∨ h0.size ≤ x)) (Or.inl (List.mem_of_getElem? (i := 3) rfl)) (allS (P := (fun x => x ∈ [a1, ak, al, ar, ac, au, ah] ∨ h0.size ≤ x)) (Or.inl (List.mem_of_getElem? (i := 5) rfl)) (allS (P := (fun x => x ∈ [a1, ak, al, ar, ac, au, ah] ∨ h0.size ≤ x)) (Or.inl (List.mem_of_getElem? (i := 6) rfl)) all0)))))), R196_1, R196_2, R196_3, R196_4, R196_5, R196_6, R196_7, R196_8, R196_9, R196_10, R196_11, R196_12, f198, R196_13, R196_14, f199, R196_15, R196_16, R176_19, R196_17, R196_18, R196_19, (by simp only [own_unl, own_u1, own_u2, own_lo, own_fre, own_il, own_ir, own_fin, own_fw, eq_false hc6_104, eq_false hc15_119, eq_true hc63_136, R176_23, if_true, if_false])⟩
      · skip
        obtain ⟨T200, X200, e200, st200⟩ := getF X133 hx hZ hown (host := "") (Or.inl (own_w hw 14 rfl)) Via.refl e133 H2 (g := (mkF m 67 #[.val (.ref a1), .val (.int p2), .val (.int (own_g lR p2))] [(.ref a1)])) rfl rfl (hb hby d16_67)
        obtain ⟨T202, X202, e202, st202⟩ := getF X200 hx hZ hown (host := "") (Or.inl (own_w hw 14 rfl)) Via.refl e200 H2 (g := (mkF m 58 #[.val (.ref a1), .val (.int p2), .val (.int (own_g lL (own_g lR p2)))] [(.ref a1)])) rfl rfl (hb hby d16_58)
        obtain ⟨T204, X204, e204, st204⟩ := getF X202 hx hZ hown (host := "") (Or.inl (own_w hw 11 rfl)) Via.refl e202 H1 (g := (mkF m 77 #[.val (.ref a1), .val (.int p2), .val (.int (own_g lL (own_g lR p2)))] [(.ref a1)])) rfl rfl (hb hby d16_77)
        obtain ⟨T205, X205, e205, st205⟩ := getF X204 hx hZ hown (host := "") (Or.inl (own_w hw 11 rfl)) Via.refl e204 H1 (g := (mkF m 82 #[.val (.ref a1), .val (.int p2), .val (.int (own_g lL (own_g lR p2)))] [(.ref a1), (.int p2), (.ref ak)])) rfl rfl (hb hby d16_82)
        obtain ⟨cl207, Ar207, qc207, S207, M207, Hh207⟩ := id H16
        have hin207 : ¬ (p2 < 0 ∨ cl207.slots.size ≤ (p2).toNatClampNeg) := inb_of S207 H35
        obtain ⟨T207, h207, X207, e207, W207, st207⟩ := stD X205 hx hZ e205 Ar207 (j := p2) hin207 (g := (mkF m 87 #[.val (.ref a1), .val (.int p2), .val (.int (own_g lL (own_g lR p2)))] [(.double (val (own_gk kK (own_g lL (own_g lR p2))))), (.int p2), (.ref ak)])) rfl rfl (hb hby d16_87)
        have V207 : own_Kar Z h207 ak kk (own_pk kK p2 (own_gk kK (own_g lL (own_g lR p2)))) val := own_Kar.set Ar207 qc207 S207 M207 Hh207 H35 rfl W207
        have N207 := Fr.snoc X207 N0 H18
        have ne208 : a1 ≠ ak := own_ne_kar (H0.wr W207) (own_w hw 2 rfl) V207
        have f209 := (H4.other W207 (Or.inl ne208))
        obtain ⟨T210, X210, e210, st210⟩ := getF X207 hx hZ hown (host := "") (Or.inl (own_w hw 18 rfl)) Via.refl e207 f209 (g := (mkF m 89 #[.val (.ref a1), .val (.int p2), .val (.int (own_g lL (own_g lR p2)))] [(.ref a1)])) rfl rfl (hb hby d16_89)
        obtain ⟨T211, X211, e211, st211⟩ := getF X210 hx hZ hown (host := "") (Or.inl (own_w hw 18 rfl)) Via.refl e210 f209 (g := (mkF m 94 #[.val (.ref a1), .val (.int p2), .val (.int (own_g lL (own_g lR p2)))] [(.ref a1), (.int p2), (.ref ac)])) rfl rfl (hb hby d16_94)
        have ne212 : ac ≠ ak := own_ne_kv H13 H16 (by decide)
        have f213 := (H13.other W207 ne212)
        obtain ⟨cl215, Ar215, qc215, S215, M215, Hh215, G215⟩ := id f213
        have hin215 : ¬ (p2 < 0 ∨ cl215.slots.size ≤ (p2).toNatClampNeg) := inb_of S215 H35
        obtain ⟨T215, h215, X215, e215, W215, st215⟩ := stI X211 hx hZ e211 Ar215 (j := p2) hin215 (g := (mkF m 99 #[.val (.ref a1), .val (.int p2), .val (.int (own_g lL (own_g lR p2)))] [(.int (own_g lC (own_g lL (own_g lR p2)))), (.int p2), (.ref ac)])) rfl rfl (hb hby d16_99)
        have V215 : Arv Z h215 ac kc .int (16 : Int32) (own_v (own_p lC p2 (own_g lC (own_g lL (own_g lR p2))))) (.int (0 : Int32)) := by rw [own_vp]; exact Arv.set Ar215 qc215 S215 M215 Hh215 G215 rfl W215 p2.toNatClampNeg (rfl) (own_vlt H35 H32)
        have N215 := Fr.snoc X215 N207 H21
        have ne216 : a1 ≠ ac := Exa.neArv ((H0.wr W207).wr W215) V215 (own_w hw 2 rfl)
        have f217 := ((H3.other W207 (Or.inl ne208)).other W215 (Or.inl ne216))
        obtain ⟨T218, X218, e218, st218⟩ := getF X215 hx hZ hown (host := "") (Or.inl (own_w hw 16 rfl)) Via.refl e215 f217 (g := (mkF m 101 #[.val (.ref a1), .val (.int p2), .val (.int (own_g lL (own_g lR p2)))] [(.ref a1)])) rfl rfl (hb hby d16_101)
        obtain ⟨T219, X219, e219, st219⟩ := getF X218 hx hZ hown (host := "") (Or.inl (own_w hw 16 rfl)) Via.refl e218 f217 (g := (mkF m 107 #[.val (.ref a1), .val (.int p2), .val (.int (own_g lL (own_g lR p2)))] [(.ref a1), (.ref a1), (.int p2), (.ref ar)])) rfl rfl (hb hby d16_107)
        have ne220 : ar ≠ ak := own_ne_kv H12 H16 (by decide)
        have f221 := ((H12.other W207 ne220).other W215 H26)
        have f223 := (f209.other W215 (Or.inl ne216))
        obtain ⟨T224, X224, e224, st224⟩ := getF X219 hx hZ hown (host := "") (Or.inl (own_w hw 18 rfl)) Via.refl e219 f223 (g := (mkF m 113 #[.val (.ref a1), .val (.int p2), .val (.int (own_g lL (own_g lR p2)))] [(.ref a1), (.int (own_g lR p2)), (.ref a1), (.int p2), (.ref ar)])) rfl rfl (hb hby d16_113)
        have f226 := ((H0.wr W207).wr W215)
        have f227 := ((H1.other W207 (Or.inl ne208)).other W215 (Or.inl ne216))
        have f228 := ((H2.other W207 (Or.inl ne208)).other W215 (Or.inl ne216))
        have f229 := ((H5.other W207 (Or.inl ne208)).other W215 (Or.inl ne216))
        have f230 := ((H6.other W207 (Or.inl ne208)).other W215 (Or.inl ne216))
        have f231 := ((H7.other W207 (Or.inl ne208)).other W215 (Or.inl ne216))
        have f232 := ((H8.other W207 (Or.inl ne208)).other W215 (Or.inl ne216))
        have f233 := ((H9.other W207 (Or.inl ne208)).other W215 (Or.inl ne216))
        have f234 := ((H10.other W207 (Or.inl ne208)).other W215 (Or.inl ne216))
        have ne235 : al ≠ ak := own_ne_kv H11 H16 (by decide)
        have f236 := ((H11.other W207 ne235).other W215 H25)
        have ne237 : au ≠ ak := own_ne_kv H14 H16 (by decide)
        have f238 := ((H14.other W207 ne237).other W215 (Ne.symm H29))
        have ne239 : ah ≠ ak := own_ne_kv H15 H16 (by decide)
        have ne240 : ah ≠ ac := own_ne_arv H15 H13 (by decide)
        have f241 := ((H15.other W207 ne239).other W215 ne240)
        have f242 := (V207.other W215 (Ne.symm ne212))
        have z244 : n0 ≤ h215.size := (Nat.le_trans (Nat.le_trans Z0 (Nat.le_of_eq W207.size.symm)) (Nat.le_of_eq W215.size.symm))
        obtain ⟨cq243, q243, q243'⟩ := f226.cell
        obtain ⟨_, _, ⟨T243, L243, k243, n243⟩, -, X243, ⟨Lc243, hQ243, l243, y243, z243⟩, st243⟩ := X224.privateBack hx (y := (⟨"com/example/prequential/prequential/measure/ScoreMultiset", "unlinkLowest", "(II)I"⟩ : MethodName)) hown (mvT hZ (own_w hw 96 rfl)) (mvT hZ (own_w hw 97 rfl)) (mvT hZ (own_selp (by decide) (own_w hw 2 rfl) (own_w hw 98 rfl) (own_w hw 97 rfl))) (Cond.privateMethod_at (mvP hZ (own_w hw 98 rfl) (args := #[]))) (mvT hZ (own_w hw 99 rfl)) (by decide) (backOf (W := 2) (rm18d2 l Z a0 hw [] a1 (own_g lR p2) (own_g (own_p lC p2 (own_g lC (own_g lL (own_g lR p2)))) p2) ak ro u_ rs al kl lL ar kr lR ac kc (own_p lC p2 (own_g lC (own_g lL (own_g lR p2)))) au ku lT ah kh lH kk (own_pk kK p2 (own_gk kK (own_g lL (own_g lR p2)))) val h215 n0 z244 f226 f227 f228 f217 f223 f229 f230 f231 f232 f233 f234 f236 f221 V215 f238 f241 f242 H17 H18 H19 H20 H21 H22 H23 H24 H25 H26 H27 H28 H29 H30 H31 (own_16p H32) H33 H34 (H31.2 _) (own_unp_w H36 hc6_104 hc15_119)) hZ (own_w hw 99 rfl) (own_w hw 3 rfl) (by decide) (by decide)) (g := (mkF m 118 #[.val (.ref a1), .val (.int p2), .val (.int (own_g lL (own_g lR p2)))] [(.int (own_g (own_p lC p2 (own_g lC (own_g lL (own_g lR p2)))) p2)), (.int (own_g lR p2)), (.ref a1), (.int p2), (.ref ar)])) rfl (by rw [hml]; rfl) (Steps.refl _) (a := a1) (by rw [e224]; exact q243) q243' (argsL := [(.int (own_g lR p2)), (.int (own_g (own_p lC p2 (own_g lC (own_g lL (own_g lR p2)))) p2))]) (rest := [(.int p2), (.ref ar)]) (lenOf pd_0 rfl) rfl (by show 2 * 0 + _ ≤ _; exact Nat.le_of_eq rfl) (hb hby d16_118) (fun _ _ => ⟨rfl, e224, (by decide : 0 + 0 ≤ _), (by decide : 0 + 0 ≤ _)⟩)
        dsimp only [Pt.U, Pt.locs, Pt.cells, Pt.slots] at X243 l243 y243 z243 st243 hQ243
        subst l243 y243 z243
        obtain ⟨lL2243, lR2243, lC2243, lT2243, lH2243, kK2243, u2243, f2243, r2243, v2243, rfl, Nq243, K243, R243_1, R243_2, R243_3, R243_4, R243_5, R243_6, R243_7, R243_8, R243_9, R243_10, R243_11, R243_12, R243_13, R243_14, R243_15, R243_16, R243_17, R243_18, R243_19, R243_20, R243_21, R243_22, R243_23⟩ := hQ243
        have N243 := Fr.app N215 Nq243
        obtain ⟨cl245, Ar245, qc245, S245, M245, Hh245, G245⟩ := id R243_12
        have hin245 : ¬ (p2 < 0 ∨ cl245.slots.size ≤ (p2).toNatClampNeg) := inb_of S245 H35
        obtain ⟨T245, h245, X245, e245, W245, st245⟩ := stI X243 hx hZ rfl Ar245 (j := p2) hin245 (g := (mkF m 121 #[.val (.ref a1), .val (.int p2), .val (.int (own_g lL (own_g lR p2)))] [(.int v2243), (.int p2), (.ref ar)])) rfl rfl (hb hby d16_121)
        have V245 : Arv Z h245 ar kr .int (16 : Int32) (own_v (own_p lR2243 p2 v2243)) (.int (0 : Int32)) := by rw [own_vp]; exact Arv.set Ar245 qc245 S245 M245 Hh245 G245 rfl W245 p2.toNatClampNeg (rfl) (own_vlt H35 R243_18.1)
        have N245 := Fr.snoc X245 N243 H20
        have f246 := ((f226.keep K243).wr W245)
        have ne247 : a1 ≠ ar := Exa.neArv f246 V245 (own_w hw 2 rfl)
        have f248 := (R243_1.other W245 (Or.inl ne247))
        have f249 := (R243_2.other W245 (Or.inl ne247))
        have f250 := (R243_3.other W245 (Or.inl ne247))
        have f251 := (R243_4.other W245 (Or.inl ne247))
        have f252 := (R243_5.other W245 (Or.inl ne247))
        have f253 := (R243_6.other W245 (Or.inl ne247))
        have f254 := (R243_7.other W245 (Or.inl ne247))
        have f255 := (R243_8.other W245 (Or.inl ne247))
        have f256 := (R243_9.other W245 (Or.inl ne247))
        have f257 := (R243_10.other W245 (Or.inl ne247))
        have f258 := (R243_11.other W245 H24)
        have f259 := (R243_13.other W245 (Ne.symm H26))
        have f260 := (R243_14.other W245 (Ne.symm H28))
        have ne261 : ah ≠ ar := own_ne_arv H15 H12 (by decide)
        have f262 := (R243_15.other W245 ne261)
        have z264 : n0 ≤ h245.size := (Nat.le_trans (Nat.le_trans z244 K243.1) (Nat.le_of_eq W245.size.symm))
        obtain ⟨cq263, q263, q263'⟩ := f246.cell
        obtain ⟨_, _, ⟨T263, L263, k263, n263⟩, -, X263, ⟨Lc263, hQ263, l263, y263, z263⟩, st263⟩ := X245.privateBack hx (y := (⟨"com/example/prequential/prequential/measure/ScoreMultiset", "settle", "(II)I"⟩ : MethodName)) hown (mvT hZ (own_w hw 46 rfl)) (mvT hZ (own_w hw 47 rfl)) (mvT hZ (own_selp (by decide) (own_w hw 2 rfl) (own_w hw 48 rfl) (own_w hw 47 rfl))) (Cond.privateMethod_at (mvP hZ (own_w hw 48 rfl) (args := #[]))) (mvT hZ (own_w hw 49 rfl)) (by decide) (backOf (W := 0) (rm6 l Z a0 hw [] a1 p2 (-1 : Int32) ak ro u2243 f2243 r2243 al kl lL2243 ar kr (own_p lR2243 p2 v2243) ac kc lC2243 au ku lT2243 ah kh lH2243 h245 n0 z264 f246 f248 f249 f250 f251 f252 f253 f254 f255 f256 f257 f258 V245 f259 f260 f262 H19 H20 H22 H23 H17 H24 H25 H26 H27 H28 H29 H35 R243_17 (own_rngp R243_18 R243_22) R243_19 R243_20 R243_21) hZ (own_w hw 49 rfl) (own_w hw 3 rfl) (by decide) (by decide)) (g := (mkF m 125 #[.val (.ref a1), .val (.int p2), .val (.int (own_g lL (own_g lR p2)))] [(.int (-1 : Int32)), (.int p2), (.ref a1)])) rfl (by rw [hml]; rfl) (Steps.refl _) (a := a1) (by rw [e245]; exact q263) q263' (argsL := [(.int p2), (.int (-1 : Int32))]) (rest := []) (lenOf pd_0 rfl) rfl (by show 2 * 0 + _ ≤ _; exact Nat.le_of_eq rfl) (hb hby d16_125) (fun _ _ => ⟨rfl, e245, (by decide : 0 + 0 ≤ _), (by decide : 0 + 0 ≤ _)⟩)
        dsimp only [Pt.U, Pt.locs, Pt.cells, Pt.slots] at X263 l263 y263 z263 st263 hQ263
        subst l263 y263 z263
        obtain ⟨rfl, Nq263, K263, R263_1, R263_2, R263_3, R263_4, R263_5, R263_6, R263_7, R263_8, R263_9, R263_10, R263_11, R263_12, R263_13, R263_14, R263_15, R263_16, R263_17, R263_18, R263_19⟩ := hQ263
        have N263 := Fr.app N245 Nq263
        have f265 := (f259.keep K263 (ninS (Ne.symm ne216) (ninS (Ne.symm H25) (ninS (Ne.symm H26) (ninS H29 (ninS (Ne.symm ne240) nin0))))))
        have f266 := ((R243_16.other W245 (Ne.symm ne220)).keep K263 (ninS (Ne.symm ne208) (ninS (Ne.symm ne235) (ninS (Ne.symm ne220) (ninS (Ne.symm ne237) (ninS (Ne.symm ne239) nin0))))))
        obtain ⟨fs, hr, hrun, hended, hW, hsame⟩ := X263.leave (v := some (.int (own_set lL2243 (own_p lR2243 p2 v2243) lC2243 lT2243 lH2243 r2243 p2 (-1 : Int32)).2)) (fun h => by rw [Bd.returns] at h; cases h) (BodyLoose.notSynchronized Bd)
        refine ⟨_, _, pre135 _ ?_, hrun, hended, _, _, rfl, ?_, ⟨_, rfl⟩, hW, hsame.mono (by decide) (by decide)⟩
        · skip
          show Steps p.tables e below (T133.setTop (mkF m 63 #[.val (.ref a1), .val (.int p2), .val (.int (own_g lR p2))] [(.int (own_g lL (own_g lR p2)))])) _
          refine XS.ifNo X133.here hx rfl (hb hby d16_63) rfl ((if0 _ _).trans (feq (hc63_136 : ¬ ((own_g lL (own_g lR p2)) = (0 : Int32)))).1) ?_
          refine XS.aloadN X133.here hx rfl (hb hby d16_66) rfl rfl ?_
          refine st200 _ ?_
          refine XS.iloadN X200.here hx rfl (hb hby d16_70) rfl ?_
          show Steps p.tables e below (T200.setTop (mkF m 71 #[.val (.ref a1), .val (.int p2), .val (.int (own_g lR p2))] [(.int (own_g lR p2)), (.ref al)])) _
          refine own_ia X200 hx hZ e200 H11 (H31.2 _) (hb hby d16_71) ?_
          show Steps p.tables e below (T200.setTop (mkF m 72 #[.val (.ref a1), .val (.int p2), .val (.int (own_g lR p2))] [(.int (own_g lL (own_g lR p2)))])) _
          refine XS.istoreN X200.here hx rfl (hb hby d16_72) rfl (l' := #[.val (.ref a1), .val (.int p2), .val (.int (own_g lL (own_g lR p2)))]) rfl ?_
          refine XS.goto X200.here hx rfl (pc0 := 73) (pc' := 57) rfl (hb hby d16_73) (by decide) (by decide) ?_
          refine XS.aloadN X200.here hx rfl (hb hby d16_57) rfl rfl ?_
          refine st202 _ ?_
          refine XS.iloadN X202.here hx rfl (hb hby d16_61) rfl ?_
          show Steps p.tables e below (T202.setTop (mkF m 62 #[.val (.ref a1), .val (.int p2), .val (.int (own_g lL (own_g lR p2)))] [(.int (own_g lL (own_g lR p2))), (.ref al)])) _
          refine own_ia X202 hx hZ e202 H11 (H30.2 _) (hb hby d16_62) ?_
          show Steps p.tables e below (T202.setTop (mkF m 63 #[.val (.ref a1), .val (.int p2), .val (.int (own_g lL (own_g lR p2)))] [(.int (own_g lL (own_g lL (own_g lR p2))))])) _
          refine XS.ifYes X202.here hx rfl (pc0 := 63) (pc' := 76) rfl (hb hby d16_63) rfl ((if0 _ _).trans (teq (own_low_1 (own_low_2 (own_unp_w H36 hc6_104 hc15_119) hc63_136) : (own_g lL (own_g lL (own_g lR p2))) = (0 : Int32))).1) (by decide) (by decide) ?_
          refine XS.aloadN X202.here hx rfl (hb hby d16_76) rfl rfl ?_
          refine st204 _ ?_
          refine XS.iloadN X204.here hx rfl (hb hby d16_80) rfl ?_
          refine XS.aloadN X204.here hx rfl (hb hby d16_81) rfl rfl ?_
          refine st205 _ ?_
          refine XS.iloadN X205.here hx rfl (hb hby d16_85) rfl ?_
          show Steps p.tables e below (T205.setTop (mkF m 86 #[.val (.ref a1), .val (.int p2), .val (.int (own_g lL (own_g lR p2)))] [(.int (own_g lL (own_g lR p2))), (.ref ak), (.int p2), (.ref ak)])) _
          refine own_da X205 hx hZ e205 H16 (H30.2 _) (hb hby d16_86) ?_
          show Steps p.tables e below (T205.setTop (mkF m 87 #[.val (.ref a1), .val (.int p2), .val (.int (own_g lL (own_g lR p2)))] [(.double (val (own_gk kK (own_g lL (own_g lR p2))))), (.int p2), (.ref ak)])) _
          refine st207 _ ?_
          refine XS.aloadN X207.here hx rfl (hb hby d16_88) rfl rfl ?_
          refine st210 _ ?_
          refine XS.iloadN X210.here hx rfl (hb hby d16_92) rfl ?_
          refine XS.aloadN X210.here hx rfl (hb hby d16_93) rfl rfl ?_
          refine st211 _ ?_
          refine XS.iloadN X211.here hx rfl (hb hby d16_97) rfl ?_
          show Steps p.tables e below (T211.setTop (mkF m 98 #[.val (.ref a1), .val (.int p2), .val (.int (own_g lL (own_g lR p2)))] [(.int (own_g lL (own_g lR p2))), (.ref ac), (.int p2), (.ref ac)])) _
          refine own_ia X211 hx hZ e211 f213 (H30.2 _) (hb hby d16_98) ?_
          show Steps p.tables e below (T211.setTop (mkF m 99 #[.val (.ref a1), .val (.int p2), .val (.int (own_g lL (own_g lR p2)))] [(.int (own_g lC (own_g lL (own_g lR p2)))), (.int p2), (.ref ac)])) _
          refine st215 _ ?_
          refine XS.aloadN X215.here hx rfl (hb hby d16_100) rfl rfl ?_
          refine st218 _ ?_
          refine XS.iloadN X218.here hx rfl (hb hby d16_104) rfl ?_
          refine XS.aloadN X218.here hx rfl (hb hby d16_105) rfl rfl ?_
          refine XS.aloadN X218.here hx rfl (hb hby d16_106) rfl rfl ?_
          refine st219 _ ?_
          refine XS.iloadN X219.here hx rfl (hb hby d16_110) rfl ?_
          show Steps p.tables e below (T219.setTop (mkF m 111 #[.val (.ref a1), .val (.int p2), .val (.int (own_g lL (own_g lR p2)))] [(.int p2), (.ref ar), (.ref a1), (.int p2), (.ref ar)])) _
          refine own_ia X219 hx hZ e219 f221 H35 (hb hby d16_111) ?_
          show Steps p.tables e below (T219.setTop (mkF m 112 #[.val (.ref a1), .val (.int p2), .val (.int (own_g lL (own_g lR p2)))] [(.int (own_g lR p2)), (.ref a1), (.int p2), (.ref ar)])) _
          refine XS.aloadN X219.here hx rfl (hb hby d16_112) rfl rfl ?_
          refine st224 _ ?_
          refine XS.iloadN X224.here hx rfl (hb hby d16_116) rfl ?_
          show Steps p.tables e below (T224.setTop (mkF m 117 #[.val (.ref a1), .val (.int p2), .val (.int (own_g lL (own_g lR p2)))] [(.int p2), (.ref ac), (.int (own_g lR p2)), (.ref a1), (.int p2), (.ref ar)])) _
          refine own_ia X224 hx hZ e224 V215 H35 (hb hby d16_117) ?_
          show Steps p.tables e below (T224.setTop (mkF m 118 #[.val (.ref a1), .val (.int p2), .val (.int (own_g lL (own_g lR p2)))] [(.int (own_g (own_p lC p2 (own_g lC (own_g lL (own_g lR p2)))) p2)), (.int (own_g lR p2)), (.ref a1), (.int p2), (.ref ar)])) _
          refine st243.trans ?_
          show Steps p.tables e below (T243.setTop (mkF m 121 #[.val (.ref a1), .val (.int p2), .val (.int (own_g lL (own_g lR p2)))] [(.int v2243), (.int p2), (.ref ar)])) _
          refine st245 _ ?_
          refine XS.aloadN X245.here hx rfl (hb hby d16_122) rfl rfl ?_
          refine XS.iloadN X245.here hx rfl (hb hby d16_123) rfl ?_
          refine XS.iconst X245.here hx rfl (hb hby d16_124) ?_
          show Steps p.tables e below (T245.setTop (mkF m 125 #[.val (.ref a1), .val (.int p2), .val (.int (own_g lL (own_g lR p2)))] [(.int (-1 : Int32)), (.int p2), (.ref a1)])) _
          refine st263.trans ?_
          show Steps p.tables e below (T263.setTop (mkF m 128 #[.val (.ref a1), .val (.int p2), .val (.int (own_g lL (own_g lR p2)))] [(.int (own_set lL2243 (own_p lR2243 p2 v2243) lC2243 lT2243 lH2243 r2243 p2 (-1 : Int32)).2)])) _
          exact retI X263 hx Bd.returns (hb hby d16_128) hr
        · show Q16 Z a1 p2 ak ro u_ rs al kl lL ar kr lR ac kc lC au ku lT ah kh lH kk kK val h0 n0 _ T263.heap _
          exact ⟨((own_set lL2243 (own_p lR2243 p2 v2243) lC2243 lT2243 lH2243 r2243 p2 (-1 : Int32)).1.1.1), ((own_set lL2243 (own_p lR2243 p2 v2243) lC2243 lT2243 lH2243 r2243 p2 (-1 : Int32)).1.1.2.1), lC2243, ((own_set lL2243 (own_p lR2243 p2 v2243) lC2243 lT2243 lH2243 r2243 p2 (-1 : Int32)).1.1.2.2.1), ((own_set lL2243 (own_p lR2243 p2 v2243) lC2243 lT2243 lH2243 r2243 p2 (-1 : Int32)).1.1.2.2.2), kK2243, u2243, f2243, ((own_set lL2243 (own_p lR2243 p2 v2243) lC2243 lT2243 lH2243 r2243 p2 (-1 : Int32)).1.2), ((own_set lL2243 (own_p lR2243 p2 v2243) lC2243 lT2243 lH2243 r2243 p2 (-1 : Int32)).2), rfl, N263, ((((((Keep.refl h0 [a1, ak, al, ar, ac, au, ah]).wr W207 (Or.inl (List.mem_of_getElem? (i := 1) rfl))).wr W215 (Or.inl (List.mem_of_getElem? (i := 4) rfl))).trans K243 (allS (P := (fun x => x ∈ [a1, ak, al, ar, ac, au, ah] ∨ h0.size ≤ x)) (Or.inl (List.mem_of_getElem? (i := 0) rfl)) (allS (P := (fun x => x ∈ [a1, ak, al, ar, ac, au, ah] ∨ h0.size ≤ x)) (Or.inl (List.mem_of_getElem? (i := 1) rfl)) (allS (P := (fun x => x ∈ [a1, ak, al, ar, ac, au, ah] ∨ h0.size ≤ x)) (Or.inl (List.mem_of_getElem? (i := 2) rfl)) (allS (P := (fun x => x ∈ [a1, ak, al, ar, ac, au, ah] ∨ h0.size ≤ x)) (Or.inl (List.mem_of_getElem? (i := 3) rfl)) (allS (P := (fun x => x ∈ [a1, ak, al, ar, ac, au, ah] ∨ h0.size ≤ x)) (Or.inl (List.mem_of_getElem? (i := 4) rfl)) (allS (P := (fun x => x ∈ [a1, ak, al, ar, ac, au, ah] ∨ h0.size ≤ x)) (Or.inl (List.mem_of_getElem? (i := 5) rfl)) (allS (P := (fun x => x ∈ [a1, ak, al, ar, ac, au, ah] ∨ h0.size ≤ x)) (Or.inl (List.mem_of_getElem? (i := 6) rfl)) all0)))))))).wr W245 (Or.inl (List.mem_of_getElem? (i := 3) rfl))).trans K263 (allS (P := (fun x => x ∈ [a1, ak, al, ar, ac, au, ah] ∨ h0.size ≤ x)) (Or.inl (List.mem_of_getElem? (i := 0) rfl)) (allS (P := (fun x => x ∈ [a1, ak, al, ar, ac, au, ah] ∨ h0.size ≤ x)) (Or.inl (List.mem_of_getElem? (i := 2) rfl)) (allS (P := (fun x => x ∈ [a1, ak, al, ar, ac, au, ah] ∨ h0.size ≤ x)) (Or.inl (List.mem_of_getElem? (i := 3) rfl)) (allS (P := (fun x => x ∈ [a1, ak, al, ar, ac, au, ah] ∨ h0.size ≤ x)) (Or.inl (List.mem_of_getElem? (i := 5) rfl)) (allS (P := (fun x => x ∈ [a1, ak, al, ar, ac, au, ah] ∨ h0.size ≤ x)) (Or.inl (List.mem_of_getElem? (i := 6) rfl)) all0)))))), R263_1, R263_2, R263_3, R263_4, R263_5, R263_6, R263_7, R263_8, R263_9, R263_10, R263_11, R263_12, f265, R263_13, R263_14, f266, R263_15, R263_16, R243_19, R263_17, R263_18, R263_19, (by simp only [own_unl, own_u1, own_u2, own_lo, own_fre, own_il, own_ir, own_fin, own_fw, eq_false hc6_104, eq_false hc15_119, eq_false hc63_136, R243_23, if_true, if_false])⟩
abbrev own_e13 (k : Nat) (i : Instr) (l : Nat) : Prop := decode prog_108_method_12_code k = .ok (i, l)
theorem d13_0 : own_e13 0 (.iload_n 1) 1 := by decide +kernel
theorem d13_1 : own_e13 1 (.ifCond .ne 17) 3 := by decide +kernel
theorem d13_18 : own_e13 18 (.dload_n 2) 1 := by decide +kernel
theorem d13_19 : own_e13 19 (.aload_n 0) 1 := by decide +kernel
theorem d13_20 : own_e13 20 (.getfield 9) 3 := by decide +kernel
theorem d13_23 : own_e13 23 (.iload_n 1) 1 := by decide +kernel
theorem d13_24 : own_e13 24 .daload 1 := by decide +kernel
theorem d13_25 : own_e13 25 (.dcmp .g) 1 := by decide +kernel
theorem d13_26 : own_e13 26 (.ifCond .ge 23) 3 := by decide +kernel
theorem d13_49 : own_e13 49 (.dload_n 2) 1 := by decide +kernel
theorem d13_50 : own_e13 50 (.aload_n 0) 1 := by decide +kernel
theorem d13_51 : own_e13 51 (.getfield 9) 3 := by decide +kernel
theorem d13_54 : own_e13 54 (.iload_n 1) 1 := by decide +kernel
theorem d13_55 : own_e13 55 .daload 1 := by decide +kernel
theorem d13_56 : own_e13 56 (.dcmp .l) 1 := by decide +kernel
theorem d13_57 : own_e13 57 (.ifCond .le 23) 3 := by decide +kernel
theorem d13_80 : own_e13 80 (.aload_n 0) 1 := by decide +kernel
theorem d13_81 : own_e13 81 (.getfield 20) 3 := by decide +kernel
theorem d13_84 : own_e13 84 (.iload_n 1) 1 := by decide +kernel
theorem d13_85 : own_e13 85 .iaload 1 := by decide +kernel
theorem d13_86 : own_e13 86 (.iconst 1) 1 := by decide +kernel
theorem d13_87 : own_e13 87 (.if_icmp .le 16) 3 := by decide +kernel
theorem d13_90 : own_e13 90 (.aload_n 0) 1 := by decide +kernel
theorem d13_91 : own_e13 91 (.getfield 20) 3 := by decide +kernel
theorem d13_94 : own_e13 94 (.iload_n 1) 1 := by decide +kernel
theorem d13_95 : own_e13 95 .dup2 1 := by decide +kernel
theorem d13_96 : own_e13 96 .iaload 1 := by decide +kernel
theorem d13_97 : own_e13 97 (.iconst 1) 1 := by decide +kernel
theorem d13_98 : own_e13 98 .isub 1 := by decide +kernel
theorem d13_99 : own_e13 99 .iastore 1 := by decide +kernel
theorem d13_100 : own_e13 100 (.goto 9) 3 := by decide +kernel
theorem d13_109 : own_e13 109 (.aload_n 0) 1 := by decide +kernel
theorem d13_110 : own_e13 110 (.iload_n 1) 1 := by decide +kernel
theorem d13_111 : own_e13 111 (.iconst (-1)) 1 := by decide +kernel
theorem d13_112 : own_e13 112 (.invokevirtual 71) 3 := by decide +kernel
theorem d13_115 : own_e13 115 .ireturn 1 := by decide +kernel
theorem d13_103 : own_e13 103 (.aload_n 0) 1 := by decide +kernel
theorem d13_104 : own_e13 104 (.iload_n 1) 1 := by decide +kernel
theorem d13_105 : own_e13 105 (.invokevirtual 84) 3 := by decide +kernel
theorem d13_108 : own_e13 108 .ireturn 1 := by decide +kernel
theorem ef_13d1 (m : MethodId) (a1 : Addr) (p2 : Int32) (xv : UInt64) : entryFrame m #[(.ref a1), (.int p2), (.double xv)] 4 = mkF m 0 #[.val (.ref a1), .val (.int p2), .val (.double xv), .second] [] := by first | (simp [entryFrame, mkF, argsToLocals, Value.category]; done) | rfl
def Q13d1 (Z : State) (a1 : Addr) (p2 : Int32) (xv : UInt64) (ak : Addr) (ro : Int32) (u_ : Int32) (rs : Int32) (al : Addr) (kl : ClassId) (lL : List Int32) (ar : Addr) (kr : ClassId) (lR : List Int32) (ac : Addr) (kc : ClassId) (lC : List Int32) (au : Addr) (ku : ClassId) (lT : List Int32) (ah : Addr) (kh : ClassId) (lH : List Int32) (kk : ClassId) (kK : List Nat) (val : Nat → UInt64) (cc : Nat → Nat → Int32) (xi : Nat) (h0 : Heap) (n0 : Nat) (v : Option Value) (h : Heap) (L : List Loc) : Prop := ∃ (lL2 : List Int32) (lR2 : List Int32) (lC2 : List Int32) (lT2 : List Int32) (lH2 : List Int32) (kK2 : List Nat) (u2 : Int32) (f2 : Int32) (r2 : Int32) (v2 : Int32), v = some (.int v2) ∧ Fr n0 L ∧ Keep h0 h [a1, ak, al, ar, ac, au, ah] ∧ Fld Z h a1 "com/example/prequential/prequential/measure/ScoreMultiset" "key" "[D" (.ref ak) ∧ Fld Z h a1 "com/example/prequential/prequential/measure/ScoreMultiset" "left" "[I" (.ref al) ∧ Fld Z h a1 "com/example/prequential/prequential/measure/ScoreMultiset" "right" "[I" (.ref ar) ∧ Fld Z h a1 "com/example/prequential/prequential/measure/ScoreMultiset" "count" "[I" (.ref ac) ∧ Fld Z h a1 "com/example/prequential/prequential/measure/ScoreMultiset" "total" "[I" (.ref au) ∧ Fld Z h a1 "com/example/prequential/prequential/measure/ScoreMultiset" "height" "[B" (.ref ah) ∧ Fld Z h a1 "com/example/prequential/prequential/measure/ScoreMultiset" "root" "I" (.int ro) ∧ Fld Z h a1 "com/example/prequential/prequential/measure/ScoreMultiset" "unused" "I" (.int u2) ∧ Fld Z h a1 "com/example/prequential/prequential/measure/ScoreMultiset" "freed" "I" (.int f2) ∧ Fld Z h a1 "com/example/prequential/prequential/measure/ScoreMultiset" "reshaped" "Z" (.int r2) ∧ Arv Z h al kl .int (16 : Int32) (own_v lL2) (.int (0 : Int32)) ∧ Arv Z h ar kr .int (16 : Int32) (own_v lR2) (.int (0 : Int32)) ∧ Arv Z h ac kc .int (16 : Int32) (own_v lC2) (.int (0 : Int32)) ∧ Arv Z h au ku .int (16 : Int32) (own_v lT2) (.int (0 : Int32)) ∧ Arv Z h ah kh .byte (16 : Int32) (own_v lH2) (.int (0 : Int32)) ∧ own_Kar Z h ak kk kK2 val ∧ own_rng lL2 ∧ own_rng lR2 ∧ lC2.length = 16 ∧ lT2.length = 16 ∧ lH2.length = 16 ∧ own_in v2 ∧ own_del1 cc xi (lL, lR, lC, lT, lH, kK, u_, (0 : Int32), rs) p2 = ((lL2, lR2, lC2, lT2, lH2, kK2, u2, f2, r2), v2)
set_option maxRecDepth 65536 in
set_option maxHeartbeats 40000000 in
theorem rm13d1 (l : Launch) (Z : State) (a0 : Array Value) (hw : ∀ d ∈ tables_1, d.before a0 Z = true) (ws : List Jvm.Cond) (a1 : Addr) (p2 : Int32) (xv : UInt64) (ak : Addr) (ro : Int32) (u_ : Int32) (rs : Int32) (al : Addr) (kl : ClassId) (lL : List Int32) (ar : Addr) (kr : ClassId) (lR : List Int32) (ac : Addr) (kc : ClassId) (lC : List Int32) (au : Addr) (ku : ClassId) (lT : List Int32) (ah : Addr) (kh : ClassId) (lH : List Int32) (kk : ClassId) (kK : List Nat) (val : Nat → UInt64) (cc : Nat → Nat → Int32) (xi : Nat) (h0 : Heap) (n0 : Nat) (Z0 : n0 ≤ h0.size) (H0 : Exa Z h0 a1 "com/example/prequential/prequential/measure/ScoreMultiset") (H1 : Fld Z h0 a1 "com/example/prequential/prequential/measure/ScoreMultiset" "key" "[D" (.ref ak)) (H2 : Fld Z h0 a1 "com/example/prequential/prequential/measure/ScoreMultiset" "left" "[I" (.ref al)) (H3 : Fld Z h0 a1 "com/example/prequential/prequential/measure/ScoreMultiset" "right" "[I" (.ref ar)) (H4 : Fld Z h0 a1 "com/example/prequential/prequential/measure/ScoreMultiset" "count" "[I" (.ref ac)) (H5 : Fld Z h0 a1 "com/example/prequential/prequential/measure/ScoreMultiset" "total" "[I" (.ref au)) (H6 : Fld Z h0 a1 "com/example/prequential/prequential/measure/ScoreMultiset" "height" "[B" (.ref ah)) (H7 : Fld Z h0 a1 "com/example/prequential/prequential/measure/ScoreMultiset" "root" "I" (.int ro)) (H8 : Fld Z h0 a1 "com/example/prequential/prequential/measure/ScoreMultiset" "unused" "I" (.int u_)) (H9 : Fld Z h0 a1 "com/example/prequential/prequential/measure/ScoreMultiset" "freed" "I" (.int (0 : Int32))) (H10 : Fld Z h0 a1 "com/example/prequential/prequential/measure/ScoreMultiset" "reshaped" "Z" (.int rs)) (H11 : Arv Z h0 al kl .int (16 : Int32) (own_v lL) (.int (0 : Int32))) (H12 : Arv Z h0 ar kr .int (16 : Int32) (own_v lR) (.int (0 : Int32))) (H13 : Arv Z h0 ac kc .int (16 : Int32) (own_v lC) (.int (0 : Int32))) (H14 : Arv Z h0 au ku .int (16 : Int32) (own_v lT) (.int (0 : Int32))) (H15 : Arv Z h0 ah kh .byte (16 : Int32) (own_v lH) (.int (0 : Int32))) (H16 : own_Kar Z h0 ak kk kK val) (H17 : n0 ≤ a1) (H18 : n0 ≤ ak) (H19 : n0 ≤ al) (H20 : n0 ≤ ar) (H21 : n0 ≤ ac) (H22 : n0 ≤ au) (H23 : n0 ≤ ah) (H24 : al ≠ ar) (H25 : al ≠ ac) (H26 : ar ≠ ac) (H27 : al ≠ au) (H28 : ar ≠ au) (H29 : ac ≠ au) (H30 : own_rng lL) (H31 : own_rng lR) (H32 : lC.length = 16) (H33 : lT.length = 16) (H34 : lH.length = 16) (H35 : own_in p2) (H36 : own_hit1 (cc xi) kK lL lR lC p2 = true) (H37 : own_cv cc val) (H38 : xi < 5) (H39 : xv = val xi) :
    own_MF l (⟨"com/example/prequential/prequential/measure/ScoreMultiset", "delete", "(ID)I"⟩ : MethodName) (Jvm.Cond.code (⟨"com/example/prequential/prequential/measure/ScoreMultiset", "delete", "(ID)I"⟩ : MethodName) prog_108_method_12_code 4 (some .int) :: ws) ({ frames := 7, cells := 0, slots := 0, locals := 106 } : Room) #[(.ref a1), (.int p2), (.double xv)] Z h0 (Q13d1 Z a1 p2 xv ak ro u_ rs al kl lL ar kr lR ac kc lC au ku lT ah kh lH kk kK val cc xi h0 n0) := by
  refine MetFree.of_bodySF (plainFor_of_name pn_com_example_prequential_prequential_measure_ScoreMultiset) hisR ?_
  intro p e s m args below meth c s₁ Bd hml0 hP hK
  obtain ⟨rfl, hZ, hh⟩ := hP
  have hx := Bd.exec
  have hby := Bd.bytes
  have hml : c.maxLocals = 4 := hml0
  have hown : s.vm.findClass "com/example/prequential/prequential/measure/ScoreMultiset" = some m.cls := findClass_of_methodNamed Bd.named
  have hnm := (name_of_methodNamed Bd.named Bd.method).1
  have X0 : Stand p l e ({ frames := 7, cells := 0, slots := 0, locals := 106 } : Room) s m #[(.ref a1), (.int p2), (.double xv)] below meth c s₁ [] 0 0 := Stand.of_body Bd
  have e0 : s₁.heap = h0 := by rw [← hh, Bd.state]; rfl
  have N0 := Fr.nil n0
  have pre0 : ∀ t, Steps p.tables e below (s₁.setTop (mkF m 0 #[.val (.ref a1), .val (.int p2), .val (.double xv), .second] [])) t → Steps p.tables e below (s₁.setTop (entryFrame m #[(.ref a1), (.int p2), (.double xv)] 4)) t := fun t k => castTop (ef_13d1 m a1 p2 xv) k
  obtain ⟨T101, X101, e101, st101⟩ := getF X0 hx hZ hown (host := "") (Or.inl (own_w hw 11 rfl)) Via.refl e0 H1 (g := (mkF m 20 #[.val (.ref a1), .val (.int p2), .val (.double xv), .second] [(.ref a1), (.double xv)])) rfl rfl (hb hby d13_20)
  have dq103 : cmpValue (FP.dcmp xv (val (own_gk kK p2))) .g = (cc xi (own_gk kK p2)) := (own_dc H37 H39 H38 (own_hit_k H36))
  have pre104 : ∀ t, Steps p.tables e below (T101.setTop (mkF m 26 #[.val (.ref a1), .val (.int p2), .val (.double xv), .second] [(.int (cc xi (own_gk kK p2)))])) t → Steps p.tables e below (s₁.setTop (entryFrame m #[(.ref a1), (.int p2), (.double xv)] 4)) t := fun t kt => by
    refine pre0 t ?_
    show Steps p.tables e below (s₁.setTop (mkF m 0 #[.val (.ref a1), .val (.int p2), .val (.double xv), .second] [])) _
    refine XS.iloadN X0.here hx rfl (hb hby d13_0) rfl ?_
    refine XS.ifYes X0.here hx rfl (pc0 := 1) (pc' := 18) rfl (hb hby d13_1) rfl ((if0 _ _).trans (feq (own_hit_n H36 : ¬ (p2 = (0 : Int32)))).2) (by decide) (by decide) ?_
    refine XS.dloadN X0.here hx rfl (hb hby d13_18) rfl ?_
    refine XS.aloadN X0.here hx rfl (hb hby d13_19) rfl rfl ?_
    refine st101 _ ?_
    refine XS.iloadN X101.here hx rfl (hb hby d13_23) rfl ?_
    show Steps p.tables e below (T101.setTop (mkF m 24 #[.val (.ref a1), .val (.int p2), .val (.double xv), .second] [(.int p2), (.ref ak), (.double xv)])) _
    refine own_da X101 hx hZ e101 H16 H35 (hb hby d13_24) ?_
    show Steps p.tables e below (T101.setTop (mkF m 25 #[.val (.ref a1), .val (.int p2), .val (.double xv), .second] [(.double (val (own_gk kK p2))), (.double xv)])) _
    refine XS.dcmpS X101.here hx rfl (hb hby d13_25) rfl dq103 ?_
    show Steps p.tables e below (T101.setTop (mkF m 26 #[.val (.ref a1), .val (.int p2), .val (.double xv), .second] [(.int (cc xi (own_gk kK p2)))])) _
    exact kt
  by_cases hc26_105 : (cc xi (own_gk kK p2)) < (0 : Int32)
  · skip
    exact absurd (own_hit_l H36 hc26_105) Bool.false_ne_true
  · skip
    obtain ⟨T106, X106, e106, st106⟩ := getF X101 hx hZ hown (host := "") (Or.inl (own_w hw 11 rfl)) Via.refl e101 H1 (g := (mkF m 51 #[.val (.ref a1), .val (.int p2), .val (.double xv), .second] [(.ref a1), (.double xv)])) rfl rfl (hb hby d13_51)
    have dq108 : cmpValue (FP.dcmp xv (val (own_gk kK p2))) .l = (cc xi (own_gk kK p2)) := (own_dc H37 H39 H38 (own_hit_k H36))
    have pre109 : ∀ t, Steps p.tables e below (T106.setTop (mkF m 57 #[.val (.ref a1), .val (.int p2), .val (.double xv), .second] [(.int (cc xi (own_gk kK p2)))])) t → Steps p.tables e below (s₁.setTop (entryFrame m #[(.ref a1), (.int p2), (.double xv)] 4)) t := fun t kt => by
      refine pre104 t ?_
      show Steps p.tables e below (T101.setTop (mkF m 26 #[.val (.ref a1), .val (.int p2), .val (.double xv), .second] [(.int (cc xi (own_gk kK p2)))])) _
      refine XS.ifYes X101.here hx rfl (pc0 := 26) (pc' := 49) rfl (hb hby d13_26) rfl ((if0 _ _).trans (flt (hc26_105 : ¬ ((cc xi (own_gk kK p2)) < (0 : Int32)))).2.1) (by decide) (by decide) ?_
      refine XS.dloadN X101.here hx rfl (hb hby d13_49) rfl ?_
      refine XS.aloadN X101.here hx rfl (hb hby d13_50) rfl rfl ?_
      refine st106 _ ?_
      refine XS.iloadN X106.here hx rfl (hb hby d13_54) rfl ?_
      show Steps p.tables e below (T106.setTop (mkF m 55 #[.val (.ref a1), .val (.int p2), .val (.double xv), .second] [(.int p2), (.ref ak), (.double xv)])) _
      refine own_da X106 hx hZ e106 H16 H35 (hb hby d13_55) ?_
      show Steps p.tables e below (T106.setTop (mkF m 56 #[.val (.ref a1), .val (.int p2), .val (.double xv), .second] [(.double (val (own_gk kK p2))), (.double xv)])) _
      refine XS.dcmpS X106.here hx rfl (hb hby d13_56) rfl dq108 ?_
      show Steps p.tables e below (T106.setTop (mkF m 57 #[.val (.ref a1), .val (.int p2), .val (.double xv), .second] [(.int (cc xi (own_gk kK p2)))])) _
      exact kt
    by_cases hc57_110 : (0 : Int32) < (cc xi (own_gk kK p2))
    · skip
      exact absurd (own_hit_r H36 hc26_105 hc57_110) Bool.false_ne_true
    · skip
      obtain ⟨T111, X111, e111, st111⟩ := getF X106 hx hZ hown (host := "") (Or.inl (own_w hw 18 rfl)) Via.refl e106 H4 (g := (mkF m 81 #[.val (.ref a1), .val (.int p2), .val (.double xv), .second] [(.ref a1)])) rfl rfl (hb hby d13_81)
      have pre113 : ∀ t, Steps p.tables e below (T111.setTop (mkF m 87 #[.val (.ref a1), .val (.int p2), .val (.double xv), .second] [(.int (1 : Int32)), (.int (own_g lC p2))])) t → Steps p.tables e below (s₁.setTop (entryFrame m #[(.ref a1), (.int p2), (.double xv)] 4)) t := fun t kt => by
        refine pre109 t ?_
        show Steps p.tables e below (T106.setTop (mkF m 57 #[.val (.ref a1), .val (.int p2), .val (.double xv), .second] [(.int (cc xi (own_gk kK p2)))])) _
        refine XS.ifYes X106.here hx rfl (pc0 := 57) (pc' := 80) rfl (hb hby d13_57) rfl ((if0 _ _).trans (flt (hc57_110 : ¬ ((0 : Int32) < (cc xi (own_gk kK p2))))).2.2.2) (by decide) (by decide) ?_
        refine XS.aloadN X106.here hx rfl (hb hby d13_80) rfl rfl ?_
        refine st111 _ ?_
        refine XS.iloadN X111.here hx rfl (hb hby d13_84) rfl ?_
        show Steps p.tables e below (T111.setTop (mkF m 85 #[.val (.ref a1), .val (.int p2), .val (.double xv), .second] [(.int p2), (.ref ac)])) _
        refine own_ia X111 hx hZ e111 H13 H35 (hb hby d13_85) ?_
        show Steps p.tables e below (T111.setTop (mkF m 86 #[.val (.ref a1), .val (.int p2), .val (.double xv), .second] [(.int (own_g lC p2))])) _
        refine XS.iconst X111.here hx rfl (hb hby d13_86) ?_
        show Steps p.tables e below (T111.setTop (mkF m 87 #[.val (.ref a1), .val (.int p2), .val (.double xv), .second] [(.int (1 : Int32)), (.int (own_g lC p2))])) _
        exact kt
      by_cases hc87_114 : (1 : Int32) < (own_g lC p2)
      · skip
        obtain ⟨T115, X115, e115, st115⟩ := getF X111 hx hZ hown (host := "") (Or.inl (own_w hw 18 rfl)) Via.refl e111 H4 (g := (mkF m 91 #[.val (.ref a1), .val (.int p2), .val (.double xv), .second] [(.ref a1)])) rfl rfl (hb hby d13_91)
        obtain ⟨cl117, Ar117, qc117, S117, M117, Hh117, G117⟩ := id H13
        have hin117 : ¬ (p2 < 0 ∨ cl117.slots.size ≤ (p2).toNatClampNeg) := inb_of S117 H35
        obtain ⟨T117, h117, X117, e117, W117, st117⟩ := stI X115 hx hZ e115 Ar117 (j := p2) hin117 (g := (mkF m 99 #[.val (.ref a1), .val (.int p2), .val (.double xv), .second] [(.int ((own_g lC p2) - (1 : Int32))), (.int p2), (.ref ac)])) rfl rfl (hb hby d13_99)
        have V117 : Arv Z h117 ac kc .int (16 : Int32) (own_v (own_p lC p2 ((own_g lC p2) - (1 : Int32)))) (.int (0 : Int32)) := by rw [own_vp]; exact Arv.set Ar117 qc117 S117 M117 Hh117 G117 rfl W117 p2.toNatClampNeg (rfl) (own_vlt H35 H32)
        have N117 := Fr.snoc X117 N0 H21
        have f118 := (H0.wr W117)
        have ne119 : a1 ≠ ac := Exa.neArv f118 V117 (own_w hw 2 rfl)
        have f120 := (H1.other W117 (Or.inl ne119))
        have f121 := (H2.other W117 (Or.inl ne119))
        have f122 := (H3.other W117 (Or.inl ne119))
        have f123 := (H4.other W117 (Or.inl ne119))
        have f124 := (H5.other W117 (Or.inl ne119))
        have f125 := (H6.other W117 (Or.inl ne119))
        have f126 := (H7.other W117 (Or.inl ne119))
        have f127 := (H8.other W117 (Or.inl ne119))
        have f128 := (H9.other W117 (Or.inl ne119))
        have f129 := (H10.other W117 (Or.inl ne119))
        have f130 := (H11.other W117 H25)
        have f131 := (H12.other W117 H26)
        have f132 := (H14.other W117 (Ne.symm H29))
        have ne133 : ah ≠ ac := own_ne_arv H15 H13 (by decide)
        have f134 := (H15.other W117 ne133)
        have z136 : n0 ≤ h117.size := (Nat.le_trans Z0 (Nat.le_of_eq W117.size.symm))
        obtain ⟨cq135, q135, q135'⟩ := f118.cell
        obtain ⟨_, _, ⟨T135, L135, k135, n135⟩, -, X135, ⟨Lc135, hQ135, l135, y135, z135⟩, st135⟩ := X117.privateBack hx (y := (⟨"com/example/prequential/prequential/measure/ScoreMultiset", "settle", "(II)I"⟩ : MethodName)) hown (mvT hZ (own_w hw 46 rfl)) (mvT hZ (own_w hw 47 rfl)) (mvT hZ (own_selp (by decide) (own_w hw 2 rfl) (own_w hw 48 rfl) (own_w hw 47 rfl))) (Cond.privateMethod_at (mvP hZ (own_w hw 48 rfl) (args := #[]))) (mvT hZ (own_w hw 49 rfl)) (by decide) (backOf (W := 0) (rm6 l Z a0 hw [] a1 p2 (-1 : Int32) ak ro u_ (0 : Int32) rs al kl lL ar kr lR ac kc (own_p lC p2 ((own_g lC p2) - (1 : Int32))) au ku lT ah kh lH h117 n0 z136 f118 f120 f121 f122 f123 f124 f125 f126 f127 f128 f129 f130 f131 V117 f132 f134 H19 H20 H22 H23 H17 H24 H25 H26 H27 H28 H29 H35 H30 H31 (own_16p H32) H33 H34) hZ (own_w hw 49 rfl) (own_w hw 3 rfl) (by decide) (by decide)) (g := (mkF m 112 #[.val (.ref a1), .val (.int p2), .val (.double xv), .second] [(.int (-1 : Int32)), (.int p2), (.ref a1)])) rfl (by rw [hml]; rfl) (Steps.refl _) (a := a1) (by rw [e117]; exact q135) q135' (argsL := [(.int p2), (.int (-1 : Int32))]) (rest := []) (lenOf pd_0 rfl) rfl (by show 2 * 0 + _ ≤ _; exact Nat.le_of_eq rfl) (hb hby d13_112) (fun _ _ => ⟨rfl, e117, (by decide : 0 + 0 ≤ _), (by decide : 0 + 0 ≤ _)⟩)
        dsimp only [Pt.U, Pt.locs, Pt.cells, Pt.slots] at X135 l135 y135 z135 st135 hQ135
        subst l135 y135 z135
        obtain ⟨rfl, Nq135, K135, R135_1, R135_2, R135_3, R135_4, R135_5, R135_6, R135_7, R135_8, R135_9, R135_10, R135_11, R135_12, R135_13, R135_14, R135_15, R135_16, R135_17, R135_18, R135_19⟩ := hQ135
        have N135 := Fr.app N117 Nq135
        have f137 := (V117.keep K135 (ninS (Ne.symm ne119) (ninS (Ne.symm H25) (ninS (Ne.symm H26) (ninS H29 (ninS (Ne.symm ne133) nin0))))))
        have ne138 : ac ≠ ak := own_ne_kv H13 H16 (by decide)
        have ne139 : ah ≠ ak := own_ne_kv H15 H16 (by decide)
        have ne140 : au ≠ ak := own_ne_kv H14 H16 (by decide)
        have ne141 : ar ≠ ak := own_ne_kv H12 H16 (by decide)
        have ne142 : al ≠ ak := own_ne_kv H11 H16 (by decide)
        have ne143 : a1 ≠ ak := own_ne_kar H0 (own_w hw 2 rfl) H16
        have f144 := ((H16.other W117 (Ne.symm ne138)).keep K135 (ninS (Ne.symm ne143) (ninS (Ne.symm ne142) (ninS (Ne.symm ne141) (ninS (Ne.symm ne140) (ninS (Ne.symm ne139) nin0))))))
        obtain ⟨fs, hr, hrun, hended, hW, hsame⟩ := X135.leave (v := some (.int (own_set lL lR (own_p lC p2 ((own_g lC p2) - (1 : Int32))) lT lH rs p2 (-1 : Int32)).2)) (fun h => by rw [Bd.returns] at h; cases h) (BodyLoose.notSynchronized Bd)
        refine ⟨_, _, pre113 _ ?_, hrun, hended, _, _, rfl, ?_, ⟨_, rfl⟩, hW, hsame.mono (by decide) (by decide)⟩
        · skip
          show Steps p.tables e below (T111.setTop (mkF m 87 #[.val (.ref a1), .val (.int p2), .val (.double xv), .second] [(.int (1 : Int32)), (.int (own_g lC p2))])) _
          refine XS.icmpNo X111.here hx rfl (hb hby d13_87) rfl (tlt (hc87_114 : (1 : Int32) < (own_g lC p2))).2.2.2 ?_
          refine XS.aloadN X111.here hx rfl (hb hby d13_90) rfl rfl ?_
          refine st115 _ ?_
          refine XS.iloadN X115.here hx rfl (hb hby d13_94) rfl ?_
          show Steps p.tables e below (T115.setTop (mkF m 95 #[.val (.ref a1), .val (.int p2), .val (.double xv), .second] [(.int p2), (.ref ac)])) _
          refine XT.dup2 X115.here hx rfl (hb hby d13_95) rfl rfl rfl ?_
          show Steps p.tables e below (T115.setTop (mkF m 96 #[.val (.ref a1), .val (.int p2), .val (.double xv), .second] [(.int p2), (.ref ac), (.int p2), (.ref ac)])) _
          refine own_ia X115 hx hZ e115 H13 H35 (hb hby d13_96) ?_
          show Steps p.tables e below (T115.setTop (mkF m 97 #[.val (.ref a1), .val (.int p2), .val (.double xv), .second] [(.int (own_g lC p2)), (.int p2), (.ref ac)])) _
          refine XS.iconst X115.here hx rfl (hb hby d13_97) ?_
          refine XS.isub X115.here hx rfl (hb hby d13_98) rfl ?_
          refine st117 _ ?_
          refine XS.goto X117.here hx rfl (pc0 := 100) (pc' := 109) rfl (hb hby d13_100) (by decide) (by decide) ?_
          refine XS.aloadN X117.here hx rfl (hb hby d13_109) rfl rfl ?_
          refine XS.iloadN X117.here hx rfl (hb hby d13_110) rfl ?_
          refine XS.iconst X117.here hx rfl (hb hby d13_111) ?_
          show Steps p.tables e below (T117.setTop (mkF m 112 #[.val (.ref a1), .val (.int p2), .val (.double xv), .second] [(.int (-1 : Int32)), (.int p2), (.ref a1)])) _
          refine st135.trans ?_
          show Steps p.tables e below (T135.setTop (mkF m 115 #[.val (.ref a1), .val (.int p2), .val (.double xv), .second] [(.int (own_set lL lR (own_p lC p2 ((own_g lC p2) - (1 : Int32))) lT lH rs p2 (-1 : Int32)).2)])) _
          exact retI X135 hx Bd.returns (hb hby d13_115) hr
        · show Q13d1 Z a1 p2 xv ak ro u_ rs al kl lL ar kr lR ac kc lC au ku lT ah kh lH kk kK val cc xi h0 n0 _ T135.heap _
          exact ⟨((own_set lL lR (own_p lC p2 ((own_g lC p2) - (1 : Int32))) lT lH rs p2 (-1 : Int32)).1.1.1), ((own_set lL lR (own_p lC p2 ((own_g lC p2) - (1 : Int32))) lT lH rs p2 (-1 : Int32)).1.1.2.1), (own_p lC p2 ((own_g lC p2) - (1 : Int32))), ((own_set lL lR (own_p lC p2 ((own_g lC p2) - (1 : Int32))) lT lH rs p2 (-1 : Int32)).1.1.2.2.1), ((own_set lL lR (own_p lC p2 ((own_g lC p2) - (1 : Int32))) lT lH rs p2 (-1 : Int32)).1.1.2.2.2), kK, u_, (0 : Int32), ((own_set lL lR (own_p lC p2 ((own_g lC p2) - (1 : Int32))) lT lH rs p2 (-1 : Int32)).1.2), ((own_set lL lR (own_p lC p2 ((own_g lC p2) - (1 : Int32))) lT lH rs p2 (-1 : Int32)).2), rfl, N135, (((Keep.refl h0 [a1, ak, al, ar, ac, au, ah]).wr W117 (Or.inl (List.mem_of_getElem? (i := 4) rfl))).trans K135 (allS (P := (fun x => x ∈ [a1, ak, al, ar, ac, au, ah] ∨ h0.size ≤ x)) (Or.inl (List.mem_of_getElem? (i := 0) rfl)) (allS (P := (fun x => x ∈ [a1, ak, al, ar, ac, au, ah] ∨ h0.size ≤ x)) (Or.inl (List.mem_of_getElem? (i := 2) rfl)) (allS (P := (fun x => x ∈ [a1, ak, al, ar, ac, au, ah] ∨ h0.size ≤ x)) (Or.inl (List.mem_of_getElem? (i := 3) rfl)) (allS (P := (fun x => x ∈ [a1, ak, al, ar, ac, au, ah] ∨ h0.size ≤ x)) (Or.inl (List.mem_of_getElem? (i := 5) rfl)) (allS (P := (fun x => x ∈ [a1, ak, al, ar, ac, au, ah] ∨ h0.size ≤ x)) (Or.inl (List.mem_of_getElem? (i := 6) rfl)) all0)))))), R135_1, R135_2, R135_3, R135_4, R135_5, R135_6, R135_7, R135_8, R135_9, R135_10, R135_11, R135_12, f137, R135_13, R135_14, f144, R135_15, R135_16, (own_16p H32), R135_17, R135_18, R135_19, (by simp only [own_del1, own_delS, own_il, own_ir, own_fin, own_fw, eq_false hc26_105, eq_false hc57_110, eq_true hc87_114, if_true, if_false])⟩
      · skip
        obtain ⟨cq145, q145, q145'⟩ := H0.cell
        obtain ⟨_, _, ⟨T145, L145, k145, n145⟩, -, X145, ⟨Lc145, hQ145, l145, y145, z145⟩, st145⟩ := X111.privateBack hx (y := (⟨"com/example/prequential/prequential/measure/ScoreMultiset", "unlink", "(I)I"⟩ : MethodName)) hown (mvT hZ (own_w hw 88 rfl)) (mvT hZ (own_w hw 89 rfl)) (mvT hZ (own_selp (by decide) (own_w hw 2 rfl) (own_w hw 90 rfl) (own_w hw 89 rfl))) (Cond.privateMethod_at (mvP hZ (own_w hw 90 rfl) (args := #[]))) (mvT hZ (own_w hw 91 rfl)) (by decide) (backOf (W := 0) (rm16 l Z a0 hw [] a1 p2 ak ro u_ rs al kl lL ar kr lR ac kc lC au ku lT ah kh lH kk kK val h0 n0 Z0 H0 H1 H2 H3 H4 H5 H6 H7 H8 H9 H10 H11 H12 H13 H14 H15 H16 H17 H18 H19 H20 H21 H22 H23 H24 H25 H26 H27 H28 H29 H30 H31 H32 H33 H34 H35 (own_hit_u H36 hc26_105 hc57_110 hc87_114)) hZ (own_w hw 91 rfl) (own_w hw 3 rfl) (by decide) (by decide)) (g := (mkF m 105 #[.val (.ref a1), .val (.int p2), .val (.double xv), .second] [(.int p2), (.ref a1)])) rfl (by rw [hml]; rfl) (Steps.refl _) (a := a1) (by rw [e111]; exact q145) q145' (argsL := [(.int p2)]) (rest := []) (lenOf pd_2 rfl) rfl (by show 2 * 0 + _ ≤ _; exact Nat.le_of_eq rfl) (hb hby d13_105) (fun _ _ => ⟨rfl, e111, (by decide : 0 + 0 ≤ _), (by decide : 0 + 0 ≤ _)⟩)
        dsimp only [Pt.U, Pt.locs, Pt.cells, Pt.slots] at X145 l145 y145 z145 st145 hQ145
        subst l145 y145 z145
        obtain ⟨lL2145, lR2145, lC2145, lT2145, lH2145, kK2145, u2145, f2145, r2145, v2145, rfl, Nq145, K145, R145_1, R145_2, R145_3, R145_4, R145_5, R145_6, R145_7, R145_8, R145_9, R145_10, R145_11, R145_12, R145_13, R145_14, R145_15, R145_16, R145_17, R145_18, R145_19, R145_20, R145_21, R145_22, R145_23⟩ := hQ145
        have N145 := Fr.app N0 Nq145
        obtain ⟨fs, hr, hrun, hended, hW, hsame⟩ := X145.leave (v := some (.int v2145)) (fun h => by rw [Bd.returns] at h; cases h) (BodyLoose.notSynchronized Bd)
        refine ⟨_, _, pre113 _ ?_, hrun, hended, _, _, rfl, ?_, ⟨_, rfl⟩, hW, hsame.mono (by decide) (by decide)⟩
        · skip
          show Steps p.tables e below (T111.setTop (mkF m 87 #[.val (.ref a1), .val (.int p2), .val (.double xv), .second] [(.int (1 : Int32)), (.int (own_g lC p2))])) _
          refine XS.icmpYes X111.here hx rfl (pc0 := 87) (pc' := 103) rfl (hb hby d13_87) rfl (flt (hc87_114 : ¬ ((1 : Int32) < (own_g lC p2)))).2.2.2 (by decide) (by decide) ?_
          refine XS.aloadN X111.here hx rfl (hb hby d13_103) rfl rfl ?_
          refine XS.iloadN X111.here hx rfl (hb hby d13_104) rfl ?_
          show Steps p.tables e below (T111.setTop (mkF m 105 #[.val (.ref a1), .val (.int p2), .val (.double xv), .second] [(.int p2), (.ref a1)])) _
          refine st145.trans ?_
          show Steps p.tables e below (T145.setTop (mkF m 108 #[.val (.ref a1), .val (.int p2), .val (.double xv), .second] [(.int v2145)])) _
          exact retI X145 hx Bd.returns (hb hby d13_108) hr
        · show Q13d1 Z a1 p2 xv ak ro u_ rs al kl lL ar kr lR ac kc lC au ku lT ah kh lH kk kK val cc xi h0 n0 _ T145.heap _
          exact ⟨lL2145, lR2145, lC2145, lT2145, lH2145, kK2145, u2145, f2145, r2145, v2145, rfl, N145, ((Keep.refl h0 [a1, ak, al, ar, ac, au, ah]).trans K145 (allS (P := (fun x => x ∈ [a1, ak, al, ar, ac, au, ah] ∨ h0.size ≤ x)) (Or.inl (List.mem_of_getElem? (i := 0) rfl)) (allS (P := (fun x => x ∈ [a1, ak, al, ar, ac, au, ah] ∨ h0.size ≤ x)) (Or.inl (List.mem_of_getElem? (i := 1) rfl)) (allS (P := (fun x => x ∈ [a1, ak, al, ar, ac, au, ah] ∨ h0.size ≤ x)) (Or.inl (List.mem_of_getElem? (i := 2) rfl)) (allS (P := (fun x => x ∈ [a1, ak, al, ar, ac, au, ah] ∨ h0.size ≤ x)) (Or.inl (List.mem_of_getElem? (i := 3) rfl)) (allS (P := (fun x => x ∈ [a1, ak, al, ar, ac, au, ah] ∨ h0.size ≤ x)) (Or.inl (List.mem_of_getElem? (i := 4) rfl)) (allS (P := (fun x => x ∈ [a1, ak, al, ar, ac, au, ah] ∨ h0.size ≤ x)) (Or.inl (List.mem_of_getElem? (i := 5) rfl)) (allS (P := (fun x => x ∈ [a1, ak, al, ar, ac, au, ah] ∨ h0.size ≤ x)) (Or.inl (List.mem_of_getElem? (i := 6) rfl)) all0)))))))), R145_1, R145_2, R145_3, R145_4, R145_5, R145_6, R145_7, R145_8, R145_9, R145_10, R145_11, R145_12, R145_13, R145_14, R145_15, R145_16, R145_17, R145_18, R145_19, R145_20, R145_21, R145_22, (by simp only [own_del1, own_delS, own_il, own_ir, own_fin, own_fw, eq_false hc26_105, eq_false hc57_110, eq_false hc87_114, R145_23, if_true, if_false])⟩
theorem d13_29 : own_e13 29 (.aload_n 0) 1 := by decide +kernel
theorem d13_30 : own_e13 30 (.getfield 13) 3 := by decide +kernel
theorem d13_33 : own_e13 33 (.iload_n 1) 1 := by decide +kernel
theorem d13_34 : own_e13 34 (.aload_n 0) 1 := by decide +kernel
theorem d13_35 : own_e13 35 (.aload_n 0) 1 := by decide +kernel
theorem d13_36 : own_e13 36 (.getfield 13) 3 := by decide +kernel
theorem d13_39 : own_e13 39 (.iload_n 1) 1 := by decide +kernel
theorem d13_40 : own_e13 40 .iaload 1 := by decide +kernel
theorem d13_41 : own_e13 41 (.dload_n 2) 1 := by decide +kernel
theorem d13_42 : own_e13 42 (.invokevirtual 48) 3 := by decide +kernel
theorem d13_45 : own_e13 45 .iastore 1 := by decide +kernel
theorem d13_46 : own_e13 46 (.goto 63) 3 := by decide +kernel
theorem d13_60 : own_e13 60 (.aload_n 0) 1 := by decide +kernel
theorem d13_61 : own_e13 61 (.getfield 17) 3 := by decide +kernel
theorem d13_64 : own_e13 64 (.iload_n 1) 1 := by decide +kernel
theorem d13_65 : own_e13 65 (.aload_n 0) 1 := by decide +kernel
theorem d13_66 : own_e13 66 (.aload_n 0) 1 := by decide +kernel
theorem d13_67 : own_e13 67 (.getfield 17) 3 := by decide +kernel
theorem d13_70 : own_e13 70 (.iload_n 1) 1 := by decide +kernel
theorem d13_71 : own_e13 71 .iaload 1 := by decide +kernel
theorem d13_72 : own_e13 72 (.dload_n 2) 1 := by decide +kernel
theorem d13_73 : own_e13 73 (.invokevirtual 48) 3 := by decide +kernel
theorem d13_76 : own_e13 76 .iastore 1 := by decide +kernel
theorem d13_77 : own_e13 77 (.goto 32) 3 := by decide +kernel
theorem ef_13d2 (m : MethodId) (a1 : Addr) (p2 : Int32) (xv : UInt64) : entryFrame m #[(.ref a1), (.int p2), (.double xv)] 4 = mkF m 0 #[.val (.ref a1), .val (.int p2), .val (.double xv), .second] [] := by first | (simp [entryFrame, mkF, argsToLocals, Value.category]; done) | rfl
def Q13d2 (Z : State) (a1 : Addr) (p2 : Int32) (xv : UInt64) (ak : Addr) (ro : Int32) (u_ : Int32) (rs : Int32) (al : Addr) (kl : ClassId) (lL : List Int32) (ar : Addr) (kr : ClassId) (lR : List Int32) (ac : Addr) (kc : ClassId) (lC : List Int32) (au : Addr) (ku : ClassId) (lT : List Int32) (ah : Addr) (kh : ClassId) (lH : List Int32) (kk : ClassId) (kK : List Nat) (val : Nat → UInt64) (cc : Nat → Nat → Int32) (xi : Nat) (h0 : Heap) (n0 : Nat) (v : Option Value) (h : Heap) (L : List Loc) : Prop := ∃ (lL2 : List Int32) (lR2 : List Int32) (lC2 : List Int32) (lT2 : List Int32) (lH2 : List Int32) (kK2 : List Nat) (u2 : Int32) (f2 : Int32) (r2 : Int32) (v2 : Int32), v = some (.int v2) ∧ Fr n0 L ∧ Keep h0 h [a1, ak, al, ar, ac, au, ah] ∧ Fld Z h a1 "com/example/prequential/prequential/measure/ScoreMultiset" "key" "[D" (.ref ak) ∧ Fld Z h a1 "com/example/prequential/prequential/measure/ScoreMultiset" "left" "[I" (.ref al) ∧ Fld Z h a1 "com/example/prequential/prequential/measure/ScoreMultiset" "right" "[I" (.ref ar) ∧ Fld Z h a1 "com/example/prequential/prequential/measure/ScoreMultiset" "count" "[I" (.ref ac) ∧ Fld Z h a1 "com/example/prequential/prequential/measure/ScoreMultiset" "total" "[I" (.ref au) ∧ Fld Z h a1 "com/example/prequential/prequential/measure/ScoreMultiset" "height" "[B" (.ref ah) ∧ Fld Z h a1 "com/example/prequential/prequential/measure/ScoreMultiset" "root" "I" (.int ro) ∧ Fld Z h a1 "com/example/prequential/prequential/measure/ScoreMultiset" "unused" "I" (.int u2) ∧ Fld Z h a1 "com/example/prequential/prequential/measure/ScoreMultiset" "freed" "I" (.int f2) ∧ Fld Z h a1 "com/example/prequential/prequential/measure/ScoreMultiset" "reshaped" "Z" (.int r2) ∧ Arv Z h al kl .int (16 : Int32) (own_v lL2) (.int (0 : Int32)) ∧ Arv Z h ar kr .int (16 : Int32) (own_v lR2) (.int (0 : Int32)) ∧ Arv Z h ac kc .int (16 : Int32) (own_v lC2) (.int (0 : Int32)) ∧ Arv Z h au ku .int (16 : Int32) (own_v lT2) (.int (0 : Int32)) ∧ Arv Z h ah kh .byte (16 : Int32) (own_v lH2) (.int (0 : Int32)) ∧ own_Kar Z h ak kk kK2 val ∧ own_rng lL2 ∧ own_rng lR2 ∧ lC2.length = 16 ∧ lT2.length = 16 ∧ lH2.length = 16 ∧ own_in v2 ∧ own_del2 cc xi (lL, lR, lC, lT, lH, kK, u_, (0 : Int32), rs) p2 = ((lL2, lR2, lC2, lT2, lH2, kK2, u2, f2, r2), v2)
set_option maxRecDepth 65536 in
set_option maxHeartbeats 40000000 in
theorem rm13d2 (l : Launch) (Z : State) (a0 : Array Value) (hw : ∀ d ∈ tables_1, d.before a0 Z = true) (ws : List Jvm.Cond) (a1 : Addr) (p2 : Int32) (xv : UInt64) (ak : Addr) (ro : Int32) (u_ : Int32) (rs : Int32) (al : Addr) (kl : ClassId) (lL : List Int32) (ar : Addr) (kr : ClassId) (lR : List Int32) (ac : Addr) (kc : ClassId) (lC : List Int32) (au : Addr) (ku : ClassId) (lT : List Int32) (ah : Addr) (kh : ClassId) (lH : List Int32) (kk : ClassId) (kK : List Nat) (val : Nat → UInt64) (cc : Nat → Nat → Int32) (xi : Nat) (h0 : Heap) (n0 : Nat) (Z0 : n0 ≤ h0.size) (H0 : Exa Z h0 a1 "com/example/prequential/prequential/measure/ScoreMultiset") (H1 : Fld Z h0 a1 "com/example/prequential/prequential/measure/ScoreMultiset" "key" "[D" (.ref ak)) (H2 : Fld Z h0 a1 "com/example/prequential/prequential/measure/ScoreMultiset" "left" "[I" (.ref al)) (H3 : Fld Z h0 a1 "com/example/prequential/prequential/measure/ScoreMultiset" "right" "[I" (.ref ar)) (H4 : Fld Z h0 a1 "com/example/prequential/prequential/measure/ScoreMultiset" "count" "[I" (.ref ac)) (H5 : Fld Z h0 a1 "com/example/prequential/prequential/measure/ScoreMultiset" "total" "[I" (.ref au)) (H6 : Fld Z h0 a1 "com/example/prequential/prequential/measure/ScoreMultiset" "height" "[B" (.ref ah)) (H7 : Fld Z h0 a1 "com/example/prequential/prequential/measure/ScoreMultiset" "root" "I" (.int ro)) (H8 : Fld Z h0 a1 "com/example/prequential/prequential/measure/ScoreMultiset" "unused" "I" (.int u_)) (H9 : Fld Z h0 a1 "com/example/prequential/prequential/measure/ScoreMultiset" "freed" "I" (.int (0 : Int32))) (H10 : Fld Z h0 a1 "com/example/prequential/prequential/measure/ScoreMultiset" "reshaped" "Z" (.int rs)) (H11 : Arv Z h0 al kl .int (16 : Int32) (own_v lL) (.int (0 : Int32))) (H12 : Arv Z h0 ar kr .int (16 : Int32) (own_v lR) (.int (0 : Int32))) (H13 : Arv Z h0 ac kc .int (16 : Int32) (own_v lC) (.int (0 : Int32))) (H14 : Arv Z h0 au ku .int (16 : Int32) (own_v lT) (.int (0 : Int32))) (H15 : Arv Z h0 ah kh .byte (16 : Int32) (own_v lH) (.int (0 : Int32))) (H16 : own_Kar Z h0 ak kk kK val) (H17 : n0 ≤ a1) (H18 : n0 ≤ ak) (H19 : n0 ≤ al) (H20 : n0 ≤ ar) (H21 : n0 ≤ ac) (H22 : n0 ≤ au) (H23 : n0 ≤ ah) (H24 : al ≠ ar) (H25 : al ≠ ac) (H26 : ar ≠ ac) (H27 : al ≠ au) (H28 : ar ≠ au) (H29 : ac ≠ au) (H30 : own_rng lL) (H31 : own_rng lR) (H32 : lC.length = 16) (H33 : lT.length = 16) (H34 : lH.length = 16) (H35 : own_in p2) (H36 : own_hit2 (cc xi) kK lL lR lC p2 = true) (H37 : own_cv cc val) (H38 : xi < 5) (H39 : xv = val xi) :
    own_MF l (⟨"com/example/prequential/prequential/measure/ScoreMultiset", "delete", "(ID)I"⟩ : MethodName) (Jvm.Cond.code (⟨"com/example/prequential/prequential/measure/ScoreMultiset", "delete", "(ID)I"⟩ : MethodName) prog_108_method_12_code 4 (some .int) :: ws) ({ frames := 8, cells := 0, slots := 0, locals := 123 } : Room) #[(.ref a1), (.int p2), (.double xv)] Z h0 (Q13d2 Z a1 p2 xv ak ro u_ rs al kl lL ar kr lR ac kc lC au ku lT ah kh lH kk kK val cc xi h0 n0) := by
  refine MetFree.of_bodySF (plainFor_of_name pn_com_example_prequential_prequential_measure_ScoreMultiset) hisR ?_
  intro p e s m args below meth c s₁ Bd hml0 hP hK
  obtain ⟨rfl, hZ, hh⟩ := hP
  have hx := Bd.exec
  have hby := Bd.bytes
  have hml : c.maxLocals = 4 := hml0
  have hown : s.vm.findClass "com/example/prequential/prequential/measure/ScoreMultiset" = some m.cls := findClass_of_methodNamed Bd.named
  have hnm := (name_of_methodNamed Bd.named Bd.method).1
  have X0 : Stand p l e ({ frames := 8, cells := 0, slots := 0, locals := 123 } : Room) s m #[(.ref a1), (.int p2), (.double xv)] below meth c s₁ [] 0 0 := Stand.of_body Bd
  have e0 : s₁.heap = h0 := by rw [← hh, Bd.state]; rfl
  have N0 := Fr.nil n0
  have pre0 : ∀ t, Steps p.tables e below (s₁.setTop (mkF m 0 #[.val (.ref a1), .val (.int p2), .val (.double xv), .second] [])) t → Steps p.tables e below (s₁.setTop (entryFrame m #[(.ref a1), (.int p2), (.double xv)] 4)) t := fun t k => castTop (ef_13d2 m a1 p2 xv) k
  obtain ⟨T101, X101, e101, st101⟩ := getF X0 hx hZ hown (host := "") (Or.inl (own_w hw 11 rfl)) Via.refl e0 H1 (g := (mkF m 20 #[.val (.ref a1), .val (.int p2), .val (.double xv), .second] [(.ref a1), (.double xv)])) rfl rfl (hb hby d13_20)
  have dq103 : cmpValue (FP.dcmp xv (val (own_gk kK p2))) .g = (cc xi (own_gk kK p2)) := (own_dc H37 H39 H38 (own_hit_k H36))
  have pre104 : ∀ t, Steps p.tables e below (T101.setTop (mkF m 26 #[.val (.ref a1), .val (.int p2), .val (.double xv), .second] [(.int (cc xi (own_gk kK p2)))])) t → Steps p.tables e below (s₁.setTop (entryFrame m #[(.ref a1), (.int p2), (.double xv)] 4)) t := fun t kt => by
    refine pre0 t ?_
    show Steps p.tables e below (s₁.setTop (mkF m 0 #[.val (.ref a1), .val (.int p2), .val (.double xv), .second] [])) _
    refine XS.iloadN X0.here hx rfl (hb hby d13_0) rfl ?_
    refine XS.ifYes X0.here hx rfl (pc0 := 1) (pc' := 18) rfl (hb hby d13_1) rfl ((if0 _ _).trans (feq (own_hit_n H36 : ¬ (p2 = (0 : Int32)))).2) (by decide) (by decide) ?_
    refine XS.dloadN X0.here hx rfl (hb hby d13_18) rfl ?_
    refine XS.aloadN X0.here hx rfl (hb hby d13_19) rfl rfl ?_
    refine st101 _ ?_
    refine XS.iloadN X101.here hx rfl (hb hby d13_23) rfl ?_
    show Steps p.tables e below (T101.setTop (mkF m 24 #[.val (.ref a1), .val (.int p2), .val (.double xv), .second] [(.int p2), (.ref ak), (.double xv)])) _
    refine own_da X101 hx hZ e101 H16 H35 (hb hby d13_24) ?_
    show Steps p.tables e below (T101.setTop (mkF m 25 #[.val (.ref a1), .val (.int p2), .val (.double xv), .second] [(.double (val (own_gk kK p2))), (.double xv)])) _
    refine XS.dcmpS X101.here hx rfl (hb hby d13_25) rfl dq103 ?_
    show Steps p.tables e below (T101.setTop (mkF m 26 #[.val (.ref a1), .val (.int p2), .val (.double xv), .second] [(.int (cc xi (own_gk kK p2)))])) _
    exact kt
  by_cases hc26_105 : (cc xi (own_gk kK p2)) < (0 : Int32)
  · skip
    obtain ⟨T106, X106, e106, st106⟩ := getF X101 hx hZ hown (host := "") (Or.inl (own_w hw 14 rfl)) Via.refl e101 H2 (g := (mkF m 30 #[.val (.ref a1), .val (.int p2), .val (.double xv), .second] [(.ref a1)])) rfl rfl (hb hby d13_30)
    obtain ⟨T107, X107, e107, st107⟩ := getF X106 hx hZ hown (host := "") (Or.inl (own_w hw 14 rfl)) Via.refl e106 H2 (g := (mkF m 36 #[.val (.ref a1), .val (.int p2), .val (.double xv), .second] [(.ref a1), (.ref a1), (.int p2), (.ref al)])) rfl rfl (hb hby d13_36)
    obtain ⟨cq109, q109, q109'⟩ := H0.cell
    obtain ⟨_, _, ⟨T109, L109, k109, n109⟩, -, X109, ⟨Lc109, hQ109, l109, y109, z109⟩, st109⟩ := X107.privateBack hx (y := (⟨"com/example/prequential/prequential/measure/ScoreMultiset", "delete", "(ID)I"⟩ : MethodName)) hown (mvT hZ (own_w hw 75 rfl)) (mvT hZ (own_w hw 76 rfl)) (mvT hZ (own_selp (by decide) (own_w hw 2 rfl) (own_w hw 77 rfl) (own_w hw 76 rfl))) (Cond.privateMethod_at (mvP hZ (own_w hw 77 rfl) (args := #[]))) (mvT hZ (own_w hw 78 rfl)) (by decide) (backOf (W := 2) (rm13d1 l Z a0 hw [] a1 (own_g lL p2) xv ak ro u_ rs al kl lL ar kr lR ac kc lC au ku lT ah kh lH kk kK val cc xi h0 n0 Z0 H0 H1 H2 H3 H4 H5 H6 H7 H8 H9 H10 H11 H12 H13 H14 H15 H16 H17 H18 H19 H20 H21 H22 H23 H24 H25 H26 H27 H28 H29 H30 H31 H32 H33 H34 (H30.2 _) (own_hit_l H36 hc26_105) H37 H38 H39) hZ (own_w hw 78 rfl) (own_w hw 3 rfl) (by decide) (by decide)) (g := (mkF m 42 #[.val (.ref a1), .val (.int p2), .val (.double xv), .second] [(.double xv), (.int (own_g lL p2)), (.ref a1), (.int p2), (.ref al)])) rfl (by rw [hml]; rfl) (Steps.refl _) (a := a1) (by rw [e107]; exact q109) q109' (argsL := [(.int (own_g lL p2)), (.double xv)]) (rest := [(.int p2), (.ref al)]) (lenOf pd_4 rfl) rfl (by show 2 * 0 + _ ≤ _; exact Nat.le_of_eq rfl) (hb hby d13_42) (fun _ _ => ⟨rfl, e107, (by decide : 0 + 0 ≤ _), (by decide : 0 + 0 ≤ _)⟩)
    dsimp only [Pt.U, Pt.locs, Pt.cells, Pt.slots] at X109 l109 y109 z109 st109 hQ109
    subst l109 y109 z109
    obtain ⟨lL2109, lR2109, lC2109, lT2109, lH2109, kK2109, u2109, f2109, r2109, v2109, rfl, Nq109, K109, R109_1, R109_2, R109_3, R109_4, R109_5, R109_6, R109_7, R109_8, R109_9, R109_10, R109_11, R109_12, R109_13, R109_14, R109_15, R109_16, R109_17, R109_18, R109_19, R109_20, R109_21, R109_22, R109_23⟩ := hQ109
    have N109 := Fr.app N0 Nq109
    obtain ⟨cl110, Ar110, qc110, S110, M110, Hh110, G110⟩ := id R109_11
    have hin110 : ¬ (p2 < 0 ∨ cl110.slots.size ≤ (p2).toNatClampNeg) := inb_of S110 H35
    obtain ⟨T110, h110, X110, e110, W110, st110⟩ := stI X109 hx hZ rfl Ar110 (j := p2) hin110 (g := (mkF m 45 #[.val (.ref a1), .val (.int p2), .val (.double xv), .second] [(.int v2109), (.int p2), (.ref al)])) rfl rfl (hb hby d13_45)
    have V110 : Arv Z h110 al kl .int (16 : Int32) (own_v (own_p lL2109 p2 v2109)) (.int (0 : Int32)) := by rw [own_vp]; exact Arv.set Ar110 qc110 S110 M110 Hh110 G110 rfl W110 p2.toNatClampNeg (rfl) (own_vlt H35 R109_17.1)
    have N110 := Fr.snoc X110 N109 H19
    have f111 := ((H0.keep K109).wr W110)
    have ne112 : a1 ≠ al := Exa.neArv f111 V110 (own_w hw 2 rfl)
    have f113 := (R109_1.other W110 (Or.inl ne112))
    have f114 := (R109_2.other W110 (Or.inl ne112))
    have f115 := (R109_3.other W110 (Or.inl ne112))
    have f116 := (R109_4.other W110 (Or.inl ne112))
    have f117 := (R109_5.other W110 (Or.inl ne112))
    have f118 := (R109_6.other W110 (Or.inl ne112))
    have f119 := (R109_7.other W110 (Or.inl ne112))
    have f120 := (R109_8.other W110 (Or.inl ne112))
    have f121 := (R109_9.other W110 (Or.inl ne112))
    have f122 := (R109_10.other W110 (Or.inl ne112))
    have f123 := (R109_12.other W110 (Ne.symm H24))
    have f124 := (R109_13.other W110 (Ne.symm H25))
    have f125 := (R109_14.other W110 (Ne.symm H27))
    have ne126 : ah ≠ al := own_ne_arv H15 H11 (by decide)
    have f127 := (R109_15.other W110 ne126)
    have z129 : n0 ≤ h110.size := (Nat.le_trans (Nat.le_trans Z0 K109.1) (Nat.le_of_eq W110.size.symm))
    obtain ⟨cq128, q128, q128'⟩ := f111.cell
    obtain ⟨_, _, ⟨T128, L128, k128, n128⟩, -, X128, ⟨Lc128, hQ128, l128, y128, z128⟩, st128⟩ := X110.privateBack hx (y := (⟨"com/example/prequential/prequential/measure/ScoreMultiset", "settle", "(II)I"⟩ : MethodName)) hown (mvT hZ (own_w hw 46 rfl)) (mvT hZ (own_w hw 47 rfl)) (mvT hZ (own_selp (by decide) (own_w hw 2 rfl) (own_w hw 48 rfl) (own_w hw 47 rfl))) (Cond.privateMethod_at (mvP hZ (own_w hw 48 rfl) (args := #[]))) (mvT hZ (own_w hw 49 rfl)) (by decide) (backOf (W := 0) (rm6 l Z a0 hw [] a1 p2 (-1 : Int32) ak ro u2109 f2109 r2109 al kl (own_p lL2109 p2 v2109) ar kr lR2109 ac kc lC2109 au ku lT2109 ah kh lH2109 h110 n0 z129 f111 f113 f114 f115 f116 f117 f118 f119 f120 f121 f122 V110 f123 f124 f125 f127 H19 H20 H22 H23 H17 H24 H25 H26 H27 H28 H29 H35 (own_rngp R109_17 R109_22) R109_18 R109_19 R109_20 R109_21) hZ (own_w hw 49 rfl) (own_w hw 3 rfl) (by decide) (by decide)) (g := (mkF m 112 #[.val (.ref a1), .val (.int p2), .val (.double xv), .second] [(.int (-1 : Int32)), (.int p2), (.ref a1)])) rfl (by rw [hml]; rfl) (Steps.refl _) (a := a1) (by rw [e110]; exact q128) q128' (argsL := [(.int p2), (.int (-1 : Int32))]) (rest := []) (lenOf pd_0 rfl) rfl (by show 2 * 0 + _ ≤ _; exact Nat.le_of_eq rfl) (hb hby d13_112) (fun _ _ => ⟨rfl, e110, (by decide : 0 + 0 ≤ _), (by decide : 0 + 0 ≤ _)⟩)
    dsimp only [Pt.U, Pt.locs, Pt.cells, Pt.slots] at X128 l128 y128 z128 st128 hQ128
    subst l128 y128 z128
    obtain ⟨rfl, Nq128, K128, R128_1, R128_2, R128_3, R128_4, R128_5, R128_6, R128_7, R128_8, R128_9, R128_10, R128_11, R128_12, R128_13, R128_14, R128_15, R128_16, R128_17, R128_18, R128_19⟩ := hQ128
    have N128 := Fr.app N110 Nq128
    have ne130 : ac ≠ ah := own_ne_arv H13 H15 (by decide)
    have ne131 : a1 ≠ ac := Exa.neArv f111 f124 (own_w hw 2 rfl)
    have f132 := (f124.keep K128 (ninS (Ne.symm ne131) (ninS (Ne.symm H25) (ninS (Ne.symm H26) (ninS H29 (ninS ne130 nin0))))))
    have ne133 : al ≠ ak := own_ne_kv H11 H16 (by decide)
    have ne134 : ah ≠ ak := own_ne_kv H15 H16 (by decide)
    have ne135 : au ≠ ak := own_ne_kv H14 H16 (by decide)
    have ne136 : ar ≠ ak := own_ne_kv H12 H16 (by decide)
    have ne137 : a1 ≠ ak := own_ne_kar (H0.keep K109) (own_w hw 2 rfl) R109_16
    have f138 := ((R109_16.other W110 (Ne.symm ne133)).keep K128 (ninS (Ne.symm ne137) (ninS (Ne.symm ne133) (ninS (Ne.symm ne136) (ninS (Ne.symm ne135) (ninS (Ne.symm ne134) nin0))))))
    obtain ⟨fs, hr, hrun, hended, hW, hsame⟩ := X128.leave (v := some (.int (own_set (own_p lL2109 p2 v2109) lR2109 lC2109 lT2109 lH2109 r2109 p2 (-1 : Int32)).2)) (fun h => by rw [Bd.returns] at h; cases h) (BodyLoose.notSynchronized Bd)
    refine ⟨_, _, pre104 _ ?_, hrun, hended, _, _, rfl, ?_, ⟨_, rfl⟩, hW, hsame.mono (by decide) (by decide)⟩
    · skip
      show Steps p.tables e below (T101.setTop (mkF m 26 #[.val (.ref a1), .val (.int p2), .val (.double xv), .second] [(.int (cc xi (own_gk kK p2)))])) _
      refine XS.ifNo X101.here hx rfl (hb hby d13_26) rfl ((if0 _ _).trans (tlt (hc26_105 : (cc xi (own_gk kK p2)) < (0 : Int32))).2.1) ?_
      refine XS.aloadN X101.here hx rfl (hb hby d13_29) rfl rfl ?_
      refine st106 _ ?_
      refine XS.iloadN X106.here hx rfl (hb hby d13_33) rfl ?_
      refine XS.aloadN X106.here hx rfl (hb hby d13_34) rfl rfl ?_
      refine XS.aloadN X106.here hx rfl (hb hby d13_35) rfl rfl ?_
      refine st107 _ ?_
      refine XS.iloadN X107.here hx rfl (hb hby d13_39) rfl ?_
      show Steps p.tables e below (T107.setTop (mkF m 40 #[.val (.ref a1), .val (.int p2), .val (.double xv), .second] [(.int p2), (.ref al), (.ref a1), (.int p2), (.ref al)])) _
      refine own_ia X107 hx hZ e107 H11 H35 (hb hby d13_40) ?_
      show Steps p.tables e below (T107.setTop (mkF m 41 #[.val (.ref a1), .val (.int p2), .val (.double xv), .second] [(.int (own_g lL p2)), (.ref a1), (.int p2), (.ref al)])) _
      refine XS.dloadN X107.here hx rfl (hb hby d13_41) rfl ?_
      show Steps p.tables e below (T107.setTop (mkF m 42 #[.val (.ref a1), .val (.int p2), .val (.double xv), .second] [(.double xv), (.int (own_g lL p2)), (.ref a1), (.int p2), (.ref al)])) _
      refine st109.trans ?_
      show Steps p.tables e below (T109.setTop (mkF m 45 #[.val (.ref a1), .val (.int p2), .val (.double xv), .second] [(.int v2109), (.int p2), (.ref al)])) _
      refine st110 _ ?_
      refine XS.goto X110.here hx rfl (pc0 := 46) (pc' := 109) rfl (hb hby d13_46) (by decide) (by decide) ?_
      refine XS.aloadN X110.here hx rfl (hb hby d13_109) rfl rfl ?_
      refine XS.iloadN X110.here hx rfl (hb hby d13_110) rfl ?_
      refine XS.iconst X110.here hx rfl (hb hby d13_111) ?_
      show Steps p.tables e below (T110.setTop (mkF m 112 #[.val (.ref a1), .val (.int p2), .val (.double xv), .second] [(.int (-1 : Int32)), (.int p2), (.ref a1)])) _
      refine st128.trans ?_
      show Steps p.tables e below (T128.setTop (mkF m 115 #[.val (.ref a1), .val (.int p2), .val (.double xv), .second] [(.int (own_set (own_p lL2109 p2 v2109) lR2109 lC2109 lT2109 lH2109 r2109 p2 (-1 : Int32)).2)])) _
      exact retI X128 hx Bd.returns (hb hby d13_115) hr
    · show Q13d2 Z a1 p2 xv ak ro u_ rs al kl lL ar kr lR ac kc lC au ku lT ah kh lH kk kK val cc xi h0 n0 _ T128.heap _
      exact ⟨((own_set (own_p lL2109 p2 v2109) lR2109 lC2109 lT2109 lH2109 r2109 p2 (-1 : Int32)).1.1.1), ((own_set (own_p lL2109 p2 v2109) lR2109 lC2109 lT2109 lH2109 r2109 p2 (-1 : Int32)).1.1.2.1), lC2109, ((own_set (own_p lL2109 p2 v2109) lR2109 lC2109 lT2109 lH2109 r2109 p2 (-1 : Int32)).1.1.2.2.1), ((own_set (own_p lL2109 p2 v2109) lR2109 lC2109 lT2109 lH2109 r2109 p2 (-1 : Int32)).1.1.2.2.2), kK2109, u2109, f2109, ((own_set (own_p lL2109 p2 v2109) lR2109 lC2109 lT2109 lH2109 r2109 p2 (-1 : Int32)).1.2), ((own_set (own_p lL2109 p2 v2109) lR2109 lC2109 lT2109 lH2109 r2109 p2 (-1 : Int32)).2), rfl, N128, ((((Keep.refl h0 [a1, ak, al, ar, ac, au, ah]).trans K109 (allS (P := (fun x => x ∈ [a1, ak, al, ar, ac, au, ah] ∨ h0.size ≤ x)) (Or.inl (List.mem_of_getElem? (i := 0) rfl)) (allS (P := (fun x => x ∈ [a1, ak, al, ar, ac, au, ah] ∨ h0.size ≤ x)) (Or.inl (List.mem_of_getElem? (i := 1) rfl)) (allS (P := (fun x => x ∈ [a1, ak, al, ar, ac, au, ah] ∨ h0.size ≤ x)) (Or.inl (List.mem_of_getElem? (i := 2) rfl)) (allS (P := (fun x => x ∈ [a1, ak, al, ar, ac, au, ah] ∨ h0.size ≤ x)) (Or.inl (List.mem_of_getElem? (i := 3) rfl)) (allS (P := (fun x => x ∈ [a1, ak, al, ar, ac, au, ah] ∨ h0.size ≤ x)) (Or.inl (List.mem_of_getElem? (i := 4) rfl)) (allS (P := (fun x => x ∈ [a1, ak, al, ar, ac, au, ah] ∨ h0.size ≤ x)) (Or.inl (List.mem_of_getElem? (i := 5) rfl)) (allS (P := (fun x => x ∈ [a1, ak, al, ar, ac, au, ah] ∨ h0.size ≤ x)) (Or.inl (List.mem_of_getElem? (i := 6) rfl)) all0)))))))).wr W110 (Or.inl (List.mem_of_getElem? (i := 2) rfl))).trans K128 (allS (P := (fun x => x ∈ [a1, ak, al, ar, ac, au, ah] ∨ h0.size ≤ x)) (Or.inl (List.mem_of_getElem? (i := 0) rfl)) (allS (P := (fun x => x ∈ [a1, ak, al, ar, ac, au, ah] ∨ h0.size ≤ x)) (Or.inl (List.mem_of_getElem? (i := 2) rfl)) (allS (P := (fun x => x ∈ [a1, ak, al, ar, ac, au, ah] ∨ h0.size ≤ x)) (Or.inl (List.mem_of_getElem? (i := 3) rfl)) (allS (P := (fun x => x ∈ [a1, ak, al, ar, ac, au, ah] ∨ h0.size ≤ x)) (Or.inl (List.mem_of_getElem? (i := 5) rfl)) (allS (P := (fun x => x ∈ [a1, ak, al, ar, ac, au, ah] ∨ h0.size ≤ x)) (Or.inl (List.mem_of_getElem? (i := 6) rfl)) all0)))))), R128_1, R128_2, R128_3, R128_4, R128_5, R128_6, R128_7, R128_8, R128_9, R128_10, R128_11, R128_12, f132, R128_13, R128_14, f138, R128_15, R128_16, R109_19, R128_17, R128_18, R128_19, (by simp only [own_del2, own_delS, own_il, own_ir, own_fin, own_fw, eq_true hc26_105, R109_23, if_true, if_false])⟩
  · skip
    obtain ⟨T139, X139, e139, st139⟩ := getF X101 hx hZ hown (host := "") (Or.inl (own_w hw 11 rfl)) Via.refl e101 H1 (g := (mkF m 51 #[.val (.ref a1), .val (.int p2), .val (.double xv), .second] [(.ref a1), (.double xv)])) rfl rfl (hb hby d13_51)
    have dq141 : cmpValue (FP.dcmp xv (val (own_gk kK p2))) .l = (cc xi (own_gk kK p2)) := (own_dc H37 H39 H38 (own_hit_k H36))
    have pre142 : ∀ t, Steps p.tables e below (T139.setTop (mkF m 57 #[.val (.ref a1), .val (.int p2), .val (.double xv), .second] [(.int (cc xi (own_gk kK p2)))])) t → Steps p.tables e below (s₁.setTop (entryFrame m #[(.ref a1), (.int p2), (.double xv)] 4)) t := fun t kt => by
      refine pre104 t ?_
      show Steps p.tables e below (T101.setTop (mkF m 26 #[.val (.ref a1), .val (.int p2), .val (.double xv), .second] [(.int (cc xi (own_gk kK p2)))])) _
      refine XS.ifYes X101.here hx rfl (pc0 := 26) (pc' := 49) rfl (hb hby d13_26) rfl ((if0 _ _).trans (flt (hc26_105 : ¬ ((cc xi (own_gk kK p2)) < (0 : Int32)))).2.1) (by decide) (by decide) ?_
      refine XS.dloadN X101.here hx rfl (hb hby d13_49) rfl ?_
      refine XS.aloadN X101.here hx rfl (hb hby d13_50) rfl rfl ?_
      refine st139 _ ?_
      refine XS.iloadN X139.here hx rfl (hb hby d13_54) rfl ?_
      show Steps p.tables e below (T139.setTop (mkF m 55 #[.val (.ref a1), .val (.int p2), .val (.double xv), .second] [(.int p2), (.ref ak), (.double xv)])) _
      refine own_da X139 hx hZ e139 H16 H35 (hb hby d13_55) ?_
      show Steps p.tables e below (T139.setTop (mkF m 56 #[.val (.ref a1), .val (.int p2), .val (.double xv), .second] [(.double (val (own_gk kK p2))), (.double xv)])) _
      refine XS.dcmpS X139.here hx rfl (hb hby d13_56) rfl dq141 ?_
      show Steps p.tables e below (T139.setTop (mkF m 57 #[.val (.ref a1), .val (.int p2), .val (.double xv), .second] [(.int (cc xi (own_gk kK p2)))])) _
      exact kt
    by_cases hc57_143 : (0 : Int32) < (cc xi (own_gk kK p2))
    · skip
      obtain ⟨T144, X144, e144, st144⟩ := getF X139 hx hZ hown (host := "") (Or.inl (own_w hw 16 rfl)) Via.refl e139 H3 (g := (mkF m 61 #[.val (.ref a1), .val (.int p2), .val (.double xv), .second] [(.ref a1)])) rfl rfl (hb hby d13_61)
      obtain ⟨T145, X145, e145, st145⟩ := getF X144 hx hZ hown (host := "") (Or.inl (own_w hw 16 rfl)) Via.refl e144 H3 (g := (mkF m 67 #[.val (.ref a1), .val (.int p2), .val (.double xv), .second] [(.ref a1), (.ref a1), (.int p2), (.ref ar)])) rfl rfl (hb hby d13_67)
      obtain ⟨cq147, q147, q147'⟩ := H0.cell
      obtain ⟨_, _, ⟨T147, L147, k147, n147⟩, -, X147, ⟨Lc147, hQ147, l147, y147, z147⟩, st147⟩ := X145.privateBack hx (y := (⟨"com/example/prequential/prequential/measure/ScoreMultiset", "delete", "(ID)I"⟩ : MethodName)) hown (mvT hZ (own_w hw 75 rfl)) (mvT hZ (own_w hw 76 rfl)) (mvT hZ (own_selp (by decide) (own_w hw 2 rfl) (own_w hw 77 rfl) (own_w hw 76 rfl))) (Cond.privateMethod_at (mvP hZ (own_w hw 77 rfl) (args := #[]))) (mvT hZ (own_w hw 78 rfl)) (by decide) (backOf (W := 2) (rm13d1 l Z a0 hw [] a1 (own_g lR p2) xv ak ro u_ rs al kl lL ar kr lR ac kc lC au ku lT ah kh lH kk kK val cc xi h0 n0 Z0 H0 H1 H2 H3 H4 H5 H6 H7 H8 H9 H10 H11 H12 H13 H14 H15 H16 H17 H18 H19 H20 H21 H22 H23 H24 H25 H26 H27 H28 H29 H30 H31 H32 H33 H34 (H31.2 _) (own_hit_r H36 hc26_105 hc57_143) H37 H38 H39) hZ (own_w hw 78 rfl) (own_w hw 3 rfl) (by decide) (by decide)) (g := (mkF m 73 #[.val (.ref a1), .val (.int p2), .val (.double xv), .second] [(.double xv), (.int (own_g lR p2)), (.ref a1), (.int p2), (.ref ar)])) rfl (by rw [hml]; rfl) (Steps.refl _) (a := a1) (by rw [e145]; exact q147) q147' (argsL := [(.int (own_g lR p2)), (.double xv)]) (rest := [(.int p2), (.ref ar)]) (lenOf pd_4 rfl) rfl (by show 2 * 0 + _ ≤ _; exact Nat.le_of_eq rfl) (hb hby d13_73) (fun _ _ => ⟨rfl, e145, (by decide : 0 + 0 ≤ _), (by decide : 0 + 0 ≤ _)⟩)
      dsimp only [Pt.U, Pt.locs, Pt.cells, Pt.slots] at X147 l147 y147 z147 st147 hQ147
      subst l147 y147 z147
      obtain ⟨lL2147, lR2147, lC2147, lT2147, lH2147, kK2147, u2147, f2147, r2147, v2147, rfl, Nq147, K147, R147_1, R147_2, R147_3, R147_4, R147_5, R147_6, R147_7, R147_8, R147_9, R147_10, R147_11, R147_12, R147_13, R147_14, R147_15, R147_16, R147_17, R147_18, R147_19, R147_20, R147_21, R147_22, R147_23⟩ := hQ147
      have N147 := Fr.app N0 Nq147
      obtain ⟨cl148, Ar148, qc148, S148, M148, Hh148, G148⟩ := id R147_12
      have hin148 : ¬ (p2 < 0 ∨ cl148.slots.size ≤ (p2).toNatClampNeg) := inb_of S148 H35
      obtain ⟨T148, h148, X148, e148, W148, st148⟩ := stI X147 hx hZ rfl Ar148 (j := p2) hin148 (g := (mkF m 76 #[.val (.ref a1), .val (.int p2), .val (.double xv), .second] [(.int v2147), (.int p2), (.ref ar)])) rfl rfl (hb hby d13_76)
      have V148 : Arv Z h148 ar kr .int (16 : Int32) (own_v (own_p lR2147 p2 v2147)) (.int (0 : Int32)) := by rw [own_vp]; exact Arv.set Ar148 qc148 S148 M148 Hh148 G148 rfl W148 p2.toNatClampNeg (rfl) (own_vlt H35 R147_18.1)
      have N148 := Fr.snoc X148 N147 H20
      have f149 := ((H0.keep K147).wr W148)
      have ne150 : a1 ≠ ar := Exa.neArv f149 V148 (own_w hw 2 rfl)
      have f151 := (R147_1.other W148 (Or.inl ne150))
      have f152 := (R147_2.other W148 (Or.inl ne150))
      have f153 := (R147_3.other W148 (Or.inl ne150))
      have f154 := (R147_4.other W148 (Or.inl ne150))
      have f155 := (R147_5.other W148 (Or.inl ne150))
      have f156 := (R147_6.other W148 (Or.inl ne150))
      have f157 := (R147_7.other W148 (Or.inl ne150))
      have f158 := (R147_8.other W148 (Or.inl ne150))
      have f159 := (R147_9.other W148 (Or.inl ne150))
      have f160 := (R147_10.other W148 (Or.inl ne150))
      have f161 := (R147_11.other W148 H24)
      have f162 := (R147_13.other W148 (Ne.symm H26))
      have f163 := (R147_14.other W148 (Ne.symm H28))
      have ne164 : ah ≠ ar := own_ne_arv H15 H12 (by decide)
      have f165 := (R147_15.other W148 ne164)
      have z167 : n0 ≤ h148.size := (Nat.le_trans (Nat.le_trans Z0 K147.1) (Nat.le_of_eq W148.size.symm))
      obtain ⟨cq166, q166, q166'⟩ := f149.cell
      obtain ⟨_, _, ⟨T166, L166, k166, n166⟩, -, X166, ⟨Lc166, hQ166, l166, y166, z166⟩, st166⟩ := X148.privateBack hx (y := (⟨"com/example/prequential/prequential/measure/ScoreMultiset", "settle", "(II)I"⟩ : MethodName)) hown (mvT hZ (own_w hw 46 rfl)) (mvT hZ (own_w hw 47 rfl)) (mvT hZ (own_selp (by decide) (own_w hw 2 rfl) (own_w hw 48 rfl) (own_w hw 47 rfl))) (Cond.privateMethod_at (mvP hZ (own_w hw 48 rfl) (args := #[]))) (mvT hZ (own_w hw 49 rfl)) (by decide) (backOf (W := 0) (rm6 l Z a0 hw [] a1 p2 (-1 : Int32) ak ro u2147 f2147 r2147 al kl lL2147 ar kr (own_p lR2147 p2 v2147) ac kc lC2147 au ku lT2147 ah kh lH2147 h148 n0 z167 f149 f151 f152 f153 f154 f155 f156 f157 f158 f159 f160 f161 V148 f162 f163 f165 H19 H20 H22 H23 H17 H24 H25 H26 H27 H28 H29 H35 R147_17 (own_rngp R147_18 R147_22) R147_19 R147_20 R147_21) hZ (own_w hw 49 rfl) (own_w hw 3 rfl) (by decide) (by decide)) (g := (mkF m 112 #[.val (.ref a1), .val (.int p2), .val (.double xv), .second] [(.int (-1 : Int32)), (.int p2), (.ref a1)])) rfl (by rw [hml]; rfl) (Steps.refl _) (a := a1) (by rw [e148]; exact q166) q166' (argsL := [(.int p2), (.int (-1 : Int32))]) (rest := []) (lenOf pd_0 rfl) rfl (by show 2 * 0 + _ ≤ _; exact Nat.le_of_eq rfl) (hb hby d13_112) (fun _ _ => ⟨rfl, e148, (by decide : 0 + 0 ≤ _), (by decide : 0 + 0 ≤ _)⟩)
      dsimp only [Pt.U, Pt.locs, Pt.cells, Pt.slots] at X166 l166 y166 z166 st166 hQ166
      subst l166 y166 z166
      obtain ⟨rfl, Nq166, K166, R166_1, R166_2, R166_3, R166_4, R166_5, R166_6, R166_7, R166_8, R166_9, R166_10, R166_11, R166_12, R166_13, R166_14, R166_15, R166_16, R166_17, R166_18, R166_19⟩ := hQ166
      have N166 := Fr.app N148 Nq166
      have ne168 : ac ≠ ah := own_ne_arv H13 H15 (by decide)
      have ne169 : a1 ≠ ac := Exa.neArv f149 f162 (own_w hw 2 rfl)
      have f170 := (f162.keep K166 (ninS (Ne.symm ne169) (ninS (Ne.symm H25) (ninS (Ne.symm H26) (ninS H29 (ninS ne168 nin0))))))
      have ne171 : ar ≠ ak := own_ne_kv H12 H16 (by decide)
      have ne172 : ah ≠ ak := own_ne_kv H15 H16 (by decide)
      have ne173 : au ≠ ak := own_ne_kv H14 H16 (by decide)
      have ne174 : al ≠ ak := own_ne_kv H11 H16 (by decide)
      have ne175 : a1 ≠ ak := own_ne_kar (H0.keep K147) (own_w hw 2 rfl) R147_16
      have f176 := ((R147_16.other W148 (Ne.symm ne171)).keep K166 (ninS (Ne.symm ne175) (ninS (Ne.symm ne174) (ninS (Ne.symm ne171) (ninS (Ne.symm ne173) (ninS (Ne.symm ne172) nin0))))))
      obtain ⟨fs, hr, hrun, hended, hW, hsame⟩ := X166.leave (v := some (.int (own_set lL2147 (own_p lR2147 p2 v2147) lC2147 lT2147 lH2147 r2147 p2 (-1 : Int32)).2)) (fun h => by rw [Bd.returns] at h; cases h) (BodyLoose.notSynchronized Bd)
      refine ⟨_, _, pre142 _ ?_, hrun, hended, _, _, rfl, ?_, ⟨_, rfl⟩, hW, hsame.mono (by decide) (by decide)⟩
      · skip
        show Steps p.tables e below (T139.setTop (mkF m 57 #[.val (.ref a1), .val (.int p2), .val (.double xv), .second] [(.int (cc xi (own_gk kK p2)))])) _
        refine XS.ifNo X139.here hx rfl (hb hby d13_57) rfl ((if0 _ _).trans (tlt (hc57_143 : (0 : Int32) < (cc xi (own_gk kK p2)))).2.2.2) ?_
        refine XS.aloadN X139.here hx rfl (hb hby d13_60) rfl rfl ?_
        refine st144 _ ?_
        refine XS.iloadN X144.here hx rfl (hb hby d13_64) rfl ?_
        refine XS.aloadN X144.here hx rfl (hb hby d13_65) rfl rfl ?_
        refine XS.aloadN X144.here hx rfl (hb hby d13_66) rfl rfl ?_
        refine st145 _ ?_
        refine XS.iloadN X145.here hx rfl (hb hby d13_70) rfl ?_
        show Steps p.tables e below (T145.setTop (mkF m 71 #[.val (.ref a1), .val (.int p2), .val (.double xv), .second] [(.int p2), (.ref ar), (.ref a1), (.int p2), (.ref ar)])) _
        refine own_ia X145 hx hZ e145 H12 H35 (hb hby d13_71) ?_
        show Steps p.tables e below (T145.setTop (mkF m 72 #[.val (.ref a1), .val (.int p2), .val (.double xv), .second] [(.int (own_g lR p2)), (.ref a1), (.int p2), (.ref ar)])) _
        refine XS.dloadN X145.here hx rfl (hb hby d13_72) rfl ?_
        show Steps p.tables e below (T145.setTop (mkF m 73 #[.val (.ref a1), .val (.int p2), .val (.double xv), .second] [(.double xv), (.int (own_g lR p2)), (.ref a1), (.int p2), (.ref ar)])) _
        refine st147.trans ?_
        show Steps p.tables e below (T147.setTop (mkF m 76 #[.val (.ref a1), .val (.int p2), .val (.double xv), .second] [(.int v2147), (.int p2), (.ref ar)])) _
        refine st148 _ ?_
        refine XS.goto X148.here hx rfl (pc0 := 77) (pc' := 109) rfl (hb hby d13_77) (by decide) (by decide) ?_
        refine XS.aloadN X148.here hx rfl (hb hby d13_109) rfl rfl ?_
        refine XS.iloadN X148.here hx rfl (hb hby d13_110) rfl ?_
        refine XS.iconst X148.here hx rfl (hb hby d13_111) ?_
        show Steps p.tables e below (T148.setTop (mkF m 112 #[.val (.ref a1), .val (.int p2), .val (.double xv), .second] [(.int (-1 : Int32)), (.int p2), (.ref a1)])) _
        refine st166.trans ?_
        show Steps p.tables e below (T166.setTop (mkF m 115 #[.val (.ref a1), .val (.int p2), .val (.double xv), .second] [(.int (own_set lL2147 (own_p lR2147 p2 v2147) lC2147 lT2147 lH2147 r2147 p2 (-1 : Int32)).2)])) _
        exact retI X166 hx Bd.returns (hb hby d13_115) hr
      · show Q13d2 Z a1 p2 xv ak ro u_ rs al kl lL ar kr lR ac kc lC au ku lT ah kh lH kk kK val cc xi h0 n0 _ T166.heap _
        exact ⟨((own_set lL2147 (own_p lR2147 p2 v2147) lC2147 lT2147 lH2147 r2147 p2 (-1 : Int32)).1.1.1), ((own_set lL2147 (own_p lR2147 p2 v2147) lC2147 lT2147 lH2147 r2147 p2 (-1 : Int32)).1.1.2.1), lC2147, ((own_set lL2147 (own_p lR2147 p2 v2147) lC2147 lT2147 lH2147 r2147 p2 (-1 : Int32)).1.1.2.2.1), ((own_set lL2147 (own_p lR2147 p2 v2147) lC2147 lT2147 lH2147 r2147 p2 (-1 : Int32)).1.1.2.2.2), kK2147, u2147, f2147, ((own_set lL2147 (own_p lR2147 p2 v2147) lC2147 lT2147 lH2147 r2147 p2 (-1 : Int32)).1.2), ((own_set lL2147 (own_p lR2147 p2 v2147) lC2147 lT2147 lH2147 r2147 p2 (-1 : Int32)).2), rfl, N166, ((((Keep.refl h0 [a1, ak, al, ar, ac, au, ah]).trans K147 (allS (P := (fun x => x ∈ [a1, ak, al, ar, ac, au, ah] ∨ h0.size ≤ x)) (Or.inl (List.mem_of_getElem? (i := 0) rfl)) (allS (P := (fun x => x ∈ [a1, ak, al, ar, ac, au, ah] ∨ h0.size ≤ x)) (Or.inl (List.mem_of_getElem? (i := 1) rfl)) (allS (P := (fun x => x ∈ [a1, ak, al, ar, ac, au, ah] ∨ h0.size ≤ x)) (Or.inl (List.mem_of_getElem? (i := 2) rfl)) (allS (P := (fun x => x ∈ [a1, ak, al, ar, ac, au, ah] ∨ h0.size ≤ x)) (Or.inl (List.mem_of_getElem? (i := 3) rfl)) (allS (P := (fun x => x ∈ [a1, ak, al, ar, ac, au, ah] ∨ h0.size ≤ x)) (Or.inl (List.mem_of_getElem? (i := 4) rfl)) (allS (P := (fun x => x ∈ [a1, ak, al, ar, ac, au, ah] ∨ h0.size ≤ x)) (Or.inl (List.mem_of_getElem? (i := 5) rfl)) (allS (P := (fun x => x ∈ [a1, ak, al, ar, ac, au, ah] ∨ h0.size ≤ x)) (Or.inl (List.mem_of_getElem? (i := 6) rfl)) all0)))))))).wr W148 (Or.inl (List.mem_of_getElem? (i := 3) rfl))).trans K166 (allS (P := (fun x => x ∈ [a1, ak, al, ar, ac, au, ah] ∨ h0.size ≤ x)) (Or.inl (List.mem_of_getElem? (i := 0) rfl)) (allS (P := (fun x => x ∈ [a1, ak, al, ar, ac, au, ah] ∨ h0.size ≤ x)) (Or.inl (List.mem_of_getElem? (i := 2) rfl)) (allS (P := (fun x => x ∈ [a1, ak, al, ar, ac, au, ah] ∨ h0.size ≤ x)) (Or.inl (List.mem_of_getElem? (i := 3) rfl)) (allS (P := (fun x => x ∈ [a1, ak, al, ar, ac, au, ah] ∨ h0.size ≤ x)) (Or.inl (List.mem_of_getElem? (i := 5) rfl)) (allS (P := (fun x => x ∈ [a1, ak, al, ar, ac, au, ah] ∨ h0.size ≤ x)) (Or.inl (List.mem_of_getElem? (i := 6) rfl)) all0)))))), R166_1, R166_2, R166_3, R166_4, R166_5, R166_6, R166_7, R166_8, R166_9, R166_10, R166_11, R166_12, f170, R166_13, R166_14, f176, R166_15, R166_16, R147_19, R166_17, R166_18, R166_19, (by simp only [own_del2, own_delS, own_il, own_ir, own_fin, own_fw, eq_false hc26_105, eq_true hc57_143, R147_23, if_true, if_false])⟩
    · skip
      obtain ⟨T177, X177, e177, st177⟩ := getF X139 hx hZ hown (host := "") (Or.inl (own_w hw 18 rfl)) Via.refl e139 H4 (g := (mkF m 81 #[.val (.ref a1), .val (.int p2), .val (.double xv), .second] [(.ref a1)])) rfl rfl (hb hby d13_81)
      have pre179 : ∀ t, Steps p.tables e below (T177.setTop (mkF m 87 #[.val (.ref a1), .val (.int p2), .val (.double xv), .second] [(.int (1 : Int32)), (.int (own_g lC p2))])) t → Steps p.tables e below (s₁.setTop (entryFrame m #[(.ref a1), (.int p2), (.double xv)] 4)) t := fun t kt => by
        refine pre142 t ?_
        show Steps p.tables e below (T139.setTop (mkF m 57 #[.val (.ref a1), .val (.int p2), .val (.double xv), .second] [(.int (cc xi (own_gk kK p2)))])) _
        refine XS.ifYes X139.here hx rfl (pc0 := 57) (pc' := 80) rfl (hb hby d13_57) rfl ((if0 _ _).trans (flt (hc57_143 : ¬ ((0 : Int32) < (cc xi (own_gk kK p2))))).2.2.2) (by decide) (by decide) ?_
        refine XS.aloadN X139.here hx rfl (hb hby d13_80) rfl rfl ?_
        refine st177 _ ?_
        refine XS.iloadN X177.here hx rfl (hb hby d13_84) rfl ?_
        show Steps p.tables e below (T177.setTop (mkF m 85 #[.val (.ref a1), .val (.int p2), .val (.double xv), .second] [(.int p2), (.ref ac)])) _
        refine own_ia X177 hx hZ e177 H13 H35 (hb hby d13_85) ?_
        show Steps p.tables e below (T177.setTop (mkF m 86 #[.val (.ref a1), .val (.int p2), .val (.double xv), .second] [(.int (own_g lC p2))])) _
        refine XS.iconst X177.here hx rfl (hb hby d13_86) ?_
        show Steps p.tables e below (T177.setTop (mkF m 87 #[.val (.ref a1), .val (.int p2), .val (.double xv), .second] [(.int (1 : Int32)), (.int (own_g lC p2))])) _
        exact kt
      by_cases hc87_180 : (1 : Int32) < (own_g lC p2)
      · skip
        obtain ⟨T181, X181, e181, st181⟩ := getF X177 hx hZ hown (host := "") (Or.inl (own_w hw 18 rfl)) Via.refl e177 H4 (g := (mkF m 91 #[.val (.ref a1), .val (.int p2), .val (.double xv), .second] [(.ref a1)])) rfl rfl (hb hby d13_91)
        obtain ⟨cl183, Ar183, qc183, S183, M183, Hh183, G183⟩ := id H13
        have hin183 : ¬ (p2 < 0 ∨ cl183.slots.size ≤ (p2).toNatClampNeg) := inb_of S183 H35
        obtain ⟨T183, h183, X183, e183, W183, st183⟩ := stI X181 hx hZ e181 Ar183 (j := p2) hin183 (g := (mkF m 99 #[.val (.ref a1), .val (.int p2), .val (.double xv), .second] [(.int ((own_g lC p2) - (1 : Int32))), (.int p2), (.ref ac)])) rfl rfl (hb hby d13_99)
        have V183 : Arv Z h183 ac kc .int (16 : Int32) (own_v (own_p lC p2 ((own_g lC p2) - (1 : Int32)))) (.int (0 : Int32)) := by rw [own_vp]; exact Arv.set Ar183 qc183 S183 M183 Hh183 G183 rfl W183 p2.toNatClampNeg (rfl) (own_vlt H35 H32)
        have N183 := Fr.snoc X183 N0 H21
        have f184 := (H0.wr W183)
        have ne185 : a1 ≠ ac := Exa.neArv f184 V183 (own_w hw 2 rfl)
        have f186 := (H1.other W183 (Or.inl ne185))
        have f187 := (H2.other W183 (Or.inl ne185))
        have f188 := (H3.other W183 (Or.inl ne185))
        have f189 := (H4.other W183 (Or.inl ne185))
        have f190 := (H5.other W183 (Or.inl ne185))
        have f191 := (H6.other W183 (Or.inl ne185))
        have f192 := (H7.other W183 (Or.inl ne185))
        have f193 := (H8.other W183 (Or.inl ne185))
        have f194 := (H9.other W183 (Or.inl ne185))
        have f195 := (H10.other W183 (Or.inl ne185))
        have f196 := (H11.other W183 H25)
        have f197 := (H12.other W183 H26)
        have f198 := (H14.other W183 (Ne.symm H29))
        have ne199 : ah ≠ ac := own_ne_arv H15 H13 (by decide)
        have f200 := (H15.other W183 ne199)
        have z202 : n0 ≤ h183.size := (Nat.le_trans Z0 (Nat.le_of_eq W183.size.symm))
        obtain ⟨cq201, q201, q201'⟩ := f184.cell
        obtain ⟨_, _, ⟨T201, L201, k201, n201⟩, -, X201, ⟨Lc201, hQ201, l201, y201, z201⟩, st201⟩ := X183.privateBack hx (y := (⟨"com/example/prequential/prequential/measure/ScoreMultiset", "settle", "(II)I"⟩ : MethodName)) hown (mvT hZ (own_w hw 46 rfl)) (mvT hZ (own_w hw 47 rfl)) (mvT hZ (own_selp (by decide) (own_w hw 2 rfl) (own_w hw 48 rfl) (own_w hw 47 rfl))) (Cond.privateMethod_at (mvP hZ (own_w hw 48 rfl) (args := #[]))) (mvT hZ (own_w hw 49 rfl)) (by decide) (backOf (W := 0) (rm6 l Z a0 hw [] a1 p2 (-1 : Int32) ak ro u_ (0 : Int32) rs al kl lL ar kr lR ac kc (own_p lC p2 ((own_g lC p2) - (1 : Int32))) au ku lT ah kh lH h183 n0 z202 f184 f186 f187 f188 f189 f190 f191 f192 f193 f194 f195 f196 f197 V183 f198 f200 H19 H20 H22 H23 H17 H24 H25 H26 H27 H28 H29 H35 H30 H31 (own_16p H32) H33 H34) hZ (own_w hw 49 rfl) (own_w hw 3 rfl) (by decide) (by decide)) (g := (mkF m 112 #[.val (.ref a1), .val (.int p2), .val (.double xv), .second] [(.int (-1 : Int32)), (.int p2), (.ref a1)])) rfl (by rw [hml]; rfl) (Steps.refl _) (a := a1) (by rw [e183]; exact q201) q201' (argsL := [(.int p2), (.int (-1 : Int32))]) (rest := []) (lenOf pd_0 rfl) rfl (by show 2 * 0 + _ ≤ _; exact Nat.le_of_eq rfl) (hb hby d13_112) (fun _ _ => ⟨rfl, e183, (by decide : 0 + 0 ≤ _), (by decide : 0 + 0 ≤ _)⟩)
        dsimp only [Pt.U, Pt.locs, Pt.cells, Pt.slots] at X201 l201 y201 z201 st201 hQ201
        subst l201 y201 z201
        obtain ⟨rfl, Nq201, K201, R201_1, R201_2, R201_3, R201_4, R201_5, R201_6, R201_7, R201_8, R201_9, R201_10, R201_11, R201_12, R201_13, R201_14, R201_15, R201_16, R201_17, R201_18, R201_19⟩ := hQ201
        have N201 := Fr.app N183 Nq201
        have f203 := (V183.keep K201 (ninS (Ne.symm ne185) (ninS (Ne.symm H25) (ninS (Ne.symm H26) (ninS H29 (ninS (Ne.symm ne199) nin0))))))
        have ne204 : ac ≠ ak := own_ne_kv H13 H16 (by decide)
        have ne205 : ah ≠ ak := own_ne_kv H15 H16 (by decide)
        have ne206 : au ≠ ak := own_ne_kv H14 H16 (by decide)
        have ne207 : ar ≠ ak := own_ne_kv H12 H16 (by decide)
        have ne208 : al ≠ ak := own_ne_kv H11 H16 (by decide)
        have ne209 : a1 ≠ ak := own_ne_kar H0 (own_w hw 2 rfl) H16
        have f210 := ((H16.other W183 (Ne.symm ne204)).keep K201 (ninS (Ne.symm ne209) (ninS (Ne.symm ne208) (ninS (Ne.symm ne207) (ninS (Ne.symm ne206) (ninS (Ne.symm ne205) nin0))))))
        obtain ⟨fs, hr, hrun, hended, hW, hsame⟩ := X201.leave (v := some (.int (own_set lL lR (own_p lC p2 ((own_g lC p2) - (1 : Int32))) lT lH rs p2 (-1 : Int32)).2)) (fun h => by rw [Bd.returns] at h; cases h) (BodyLoose.notSynchronized Bd)
        refine ⟨_, _, pre179 _ ?_, hrun, hended, _, _, rfl, ?_, ⟨_, rfl⟩, hW, hsame.mono (by decide) (by decide)⟩
        · skip
          show Steps p.tables e below (T177.setTop (mkF m 87 #[.val (.ref a1), .val (.int p2), .val (.double xv), .second] [(.int (1 : Int32)), (.int (own_g lC p2))])) _
          refine XS.icmpNo X177.here hx rfl (hb hby d13_87) rfl (tlt (hc87_180 : (1 : Int32) < (own_g lC p2))).2.2.2 ?_
          refine XS.aloadN X177.here hx rfl (hb hby d13_90) rfl rfl ?_
          refine st181 _ ?_
          refine XS.iloadN X181.here hx rfl (hb hby d13_94) rfl ?_
          show Steps p.tables e below (T181.setTop (mkF m 95 #[.val (.ref a1), .val (.int p2), .val (.double xv), .second] [(.int p2), (.ref ac)])) _
          refine XT.dup2 X181.here hx rfl (hb hby d13_95) rfl rfl rfl ?_
          show Steps p.tables e below (T181.setTop (mkF m 96 #[.val (.ref a1), .val (.int p2), .val (.double xv), .second] [(.int p2), (.ref ac), (.int p2), (.ref ac)])) _
          refine own_ia X181 hx hZ e181 H13 H35 (hb hby d13_96) ?_
          show Steps p.tables e below (T181.setTop (mkF m 97 #[.val (.ref a1), .val (.int p2), .val (.double xv), .second] [(.int (own_g lC p2)), (.int p2), (.ref ac)])) _
          refine XS.iconst X181.here hx rfl (hb hby d13_97) ?_
          refine XS.isub X181.here hx rfl (hb hby d13_98) rfl ?_
          refine st183 _ ?_
          refine XS.goto X183.here hx rfl (pc0 := 100) (pc' := 109) rfl (hb hby d13_100) (by decide) (by decide) ?_
          refine XS.aloadN X183.here hx rfl (hb hby d13_109) rfl rfl ?_
          refine XS.iloadN X183.here hx rfl (hb hby d13_110) rfl ?_
          refine XS.iconst X183.here hx rfl (hb hby d13_111) ?_
          show Steps p.tables e below (T183.setTop (mkF m 112 #[.val (.ref a1), .val (.int p2), .val (.double xv), .second] [(.int (-1 : Int32)), (.int p2), (.ref a1)])) _
          refine st201.trans ?_
          show Steps p.tables e below (T201.setTop (mkF m 115 #[.val (.ref a1), .val (.int p2), .val (.double xv), .second] [(.int (own_set lL lR (own_p lC p2 ((own_g lC p2) - (1 : Int32))) lT lH rs p2 (-1 : Int32)).2)])) _
          exact retI X201 hx Bd.returns (hb hby d13_115) hr
        · show Q13d2 Z a1 p2 xv ak ro u_ rs al kl lL ar kr lR ac kc lC au ku lT ah kh lH kk kK val cc xi h0 n0 _ T201.heap _
          exact ⟨((own_set lL lR (own_p lC p2 ((own_g lC p2) - (1 : Int32))) lT lH rs p2 (-1 : Int32)).1.1.1), ((own_set lL lR (own_p lC p2 ((own_g lC p2) - (1 : Int32))) lT lH rs p2 (-1 : Int32)).1.1.2.1), (own_p lC p2 ((own_g lC p2) - (1 : Int32))), ((own_set lL lR (own_p lC p2 ((own_g lC p2) - (1 : Int32))) lT lH rs p2 (-1 : Int32)).1.1.2.2.1), ((own_set lL lR (own_p lC p2 ((own_g lC p2) - (1 : Int32))) lT lH rs p2 (-1 : Int32)).1.1.2.2.2), kK, u_, (0 : Int32), ((own_set lL lR (own_p lC p2 ((own_g lC p2) - (1 : Int32))) lT lH rs p2 (-1 : Int32)).1.2), ((own_set lL lR (own_p lC p2 ((own_g lC p2) - (1 : Int32))) lT lH rs p2 (-1 : Int32)).2), rfl, N201, (((Keep.refl h0 [a1, ak, al, ar, ac, au, ah]).wr W183 (Or.inl (List.mem_of_getElem? (i := 4) rfl))).trans K201 (allS (P := (fun x => x ∈ [a1, ak, al, ar, ac, au, ah] ∨ h0.size ≤ x)) (Or.inl (List.mem_of_getElem? (i := 0) rfl)) (allS (P := (fun x => x ∈ [a1, ak, al, ar, ac, au, ah] ∨ h0.size ≤ x)) (Or.inl (List.mem_of_getElem? (i := 2) rfl)) (allS (P := (fun x => x ∈ [a1, ak, al, ar, ac, au, ah] ∨ h0.size ≤ x)) (Or.inl (List.mem_of_getElem? (i := 3) rfl)) (allS (P := (fun x => x ∈ [a1, ak, al, ar, ac, au, ah] ∨ h0.size ≤ x)) (Or.inl (List.mem_of_getElem? (i := 5) rfl)) (allS (P := (fun x => x ∈ [a1, ak, al, ar, ac, au, ah] ∨ h0.size ≤ x)) (Or.inl (List.mem_of_getElem? (i := 6) rfl)) all0)))))), R201_1, R201_2, R201_3, R201_4, R201_5, R201_6, R201_7, R201_8, R201_9, R201_10, R201_11, R201_12, f203, R201_13, R201_14, f210, R201_15, R201_16, (own_16p H32), R201_17, R201_18, R201_19, (by simp only [own_del2, own_delS, own_il, own_ir, own_fin, own_fw, eq_false hc26_105, eq_false hc57_143, eq_true hc87_180, if_true, if_false])⟩
      · skip
        obtain ⟨cq211, q211, q211'⟩ := H0.cell
        obtain ⟨_, _, ⟨T211, L211, k211, n211⟩, -, X211, ⟨Lc211, hQ211, l211, y211, z211⟩, st211⟩ := X177.privateBack hx (y := (⟨"com/example/prequential/prequential/measure/ScoreMultiset", "unlink", "(I)I"⟩ : MethodName)) hown (mvT hZ (own_w hw 88 rfl)) (mvT hZ (own_w hw 89 rfl)) (mvT hZ (own_selp (by decide) (own_w hw 2 rfl) (own_w hw 90 rfl) (own_w hw 89 rfl))) (Cond.privateMethod_at (mvP hZ (own_w hw 90 rfl) (args := #[]))) (mvT hZ (own_w hw 91 rfl)) (by decide) (backOf (W := 0) (rm16 l Z a0 hw [] a1 p2 ak ro u_ rs al kl lL ar kr lR ac kc lC au ku lT ah kh lH kk kK val h0 n0 Z0 H0 H1 H2 H3 H4 H5 H6 H7 H8 H9 H10 H11 H12 H13 H14 H15 H16 H17 H18 H19 H20 H21 H22 H23 H24 H25 H26 H27 H28 H29 H30 H31 H32 H33 H34 H35 (own_hit_u H36 hc26_105 hc57_143 hc87_180)) hZ (own_w hw 91 rfl) (own_w hw 3 rfl) (by decide) (by decide)) (g := (mkF m 105 #[.val (.ref a1), .val (.int p2), .val (.double xv), .second] [(.int p2), (.ref a1)])) rfl (by rw [hml]; rfl) (Steps.refl _) (a := a1) (by rw [e177]; exact q211) q211' (argsL := [(.int p2)]) (rest := []) (lenOf pd_2 rfl) rfl (by show 2 * 0 + _ ≤ _; exact Nat.le_of_eq rfl) (hb hby d13_105) (fun _ _ => ⟨rfl, e177, (by decide : 0 + 0 ≤ _), (by decide : 0 + 0 ≤ _)⟩)
        dsimp only [Pt.U, Pt.locs, Pt.cells, Pt.slots] at X211 l211 y211 z211 st211 hQ211
        subst l211 y211 z211
        obtain ⟨lL2211, lR2211, lC2211, lT2211, lH2211, kK2211, u2211, f2211, r2211, v2211, rfl, Nq211, K211, R211_1, R211_2, R211_3, R211_4, R211_5, R211_6, R211_7, R211_8, R211_9, R211_10, R211_11, R211_12, R211_13, R211_14, R211_15, R211_16, R211_17, R211_18, R211_19, R211_20, R211_21, R211_22, R211_23⟩ := hQ211
        have N211 := Fr.app N0 Nq211
        obtain ⟨fs, hr, hrun, hended, hW, hsame⟩ := X211.leave (v := some (.int v2211)) (fun h => by rw [Bd.returns] at h; cases h) (BodyLoose.notSynchronized Bd)
        refine ⟨_, _, pre179 _ ?_, hrun, hended, _, _, rfl, ?_, ⟨_, rfl⟩, hW, hsame.mono (by decide) (by decide)⟩
        · skip
          show Steps p.tables e below (T177.setTop (mkF m 87 #[.val (.ref a1), .val (.int p2), .val (.double xv), .second] [(.int (1 : Int32)), (.int (own_g lC p2))])) _
          refine XS.icmpYes X177.here hx rfl (pc0 := 87) (pc' := 103) rfl (hb hby d13_87) rfl (flt (hc87_180 : ¬ ((1 : Int32) < (own_g lC p2)))).2.2.2 (by decide) (by decide) ?_
          refine XS.aloadN X177.here hx rfl (hb hby d13_103) rfl rfl ?_
          refine XS.iloadN X177.here hx rfl (hb hby d13_104) rfl ?_
          show Steps p.tables e below (T177.setTop (mkF m 105 #[.val (.ref a1), .val (.int p2), .val (.double xv), .second] [(.int p2), (.ref a1)])) _
          refine st211.trans ?_
          show Steps p.tables e below (T211.setTop (mkF m 108 #[.val (.ref a1), .val (.int p2), .val (.double xv), .second] [(.int v2211)])) _
          exact retI X211 hx Bd.returns (hb hby d13_108) hr
        · show Q13d2 Z a1 p2 xv ak ro u_ rs al kl lL ar kr lR ac kc lC au ku lT ah kh lH kk kK val cc xi h0 n0 _ T211.heap _
          exact ⟨lL2211, lR2211, lC2211, lT2211, lH2211, kK2211, u2211, f2211, r2211, v2211, rfl, N211, ((Keep.refl h0 [a1, ak, al, ar, ac, au, ah]).trans K211 (allS (P := (fun x => x ∈ [a1, ak, al, ar, ac, au, ah] ∨ h0.size ≤ x)) (Or.inl (List.mem_of_getElem? (i := 0) rfl)) (allS (P := (fun x => x ∈ [a1, ak, al, ar, ac, au, ah] ∨ h0.size ≤ x)) (Or.inl (List.mem_of_getElem? (i := 1) rfl)) (allS (P := (fun x => x ∈ [a1, ak, al, ar, ac, au, ah] ∨ h0.size ≤ x)) (Or.inl (List.mem_of_getElem? (i := 2) rfl)) (allS (P := (fun x => x ∈ [a1, ak, al, ar, ac, au, ah] ∨ h0.size ≤ x)) (Or.inl (List.mem_of_getElem? (i := 3) rfl)) (allS (P := (fun x => x ∈ [a1, ak, al, ar, ac, au, ah] ∨ h0.size ≤ x)) (Or.inl (List.mem_of_getElem? (i := 4) rfl)) (allS (P := (fun x => x ∈ [a1, ak, al, ar, ac, au, ah] ∨ h0.size ≤ x)) (Or.inl (List.mem_of_getElem? (i := 5) rfl)) (allS (P := (fun x => x ∈ [a1, ak, al, ar, ac, au, ah] ∨ h0.size ≤ x)) (Or.inl (List.mem_of_getElem? (i := 6) rfl)) all0)))))))), R211_1, R211_2, R211_3, R211_4, R211_5, R211_6, R211_7, R211_8, R211_9, R211_10, R211_11, R211_12, R211_13, R211_14, R211_15, R211_16, R211_17, R211_18, R211_19, R211_20, R211_21, R211_22, (by simp only [own_del2, own_delS, own_il, own_ir, own_fin, own_fw, eq_false hc26_105, eq_false hc57_143, eq_false hc87_180, R211_23, if_true, if_false])⟩
theorem ef_13d3 (m : MethodId) (a1 : Addr) (p2 : Int32) (xv : UInt64) : entryFrame m #[(.ref a1), (.int p2), (.double xv)] 4 = mkF m 0 #[.val (.ref a1), .val (.int p2), .val (.double xv), .second] [] := by first | (simp [entryFrame, mkF, argsToLocals, Value.category]; done) | rfl
def Q13d3 (Z : State) (a1 : Addr) (p2 : Int32) (xv : UInt64) (ak : Addr) (ro : Int32) (u_ : Int32) (rs : Int32) (al : Addr) (kl : ClassId) (lL : List Int32) (ar : Addr) (kr : ClassId) (lR : List Int32) (ac : Addr) (kc : ClassId) (lC : List Int32) (au : Addr) (ku : ClassId) (lT : List Int32) (ah : Addr) (kh : ClassId) (lH : List Int32) (kk : ClassId) (kK : List Nat) (val : Nat → UInt64) (cc : Nat → Nat → Int32) (xi : Nat) (h0 : Heap) (n0 : Nat) (v : Option Value) (h : Heap) (L : List Loc) : Prop := ∃ (lL2 : List Int32) (lR2 : List Int32) (lC2 : List Int32) (lT2 : List Int32) (lH2 : List Int32) (kK2 : List Nat) (u2 : Int32) (f2 : Int32) (r2 : Int32) (v2 : Int32), v = some (.int v2) ∧ Fr n0 L ∧ Keep h0 h [a1, ak, al, ar, ac, au, ah] ∧ Fld Z h a1 "com/example/prequential/prequential/measure/ScoreMultiset" "key" "[D" (.ref ak) ∧ Fld Z h a1 "com/example/prequential/prequential/measure/ScoreMultiset" "left" "[I" (.ref al) ∧ Fld Z h a1 "com/example/prequential/prequential/measure/ScoreMultiset" "right" "[I" (.ref ar) ∧ Fld Z h a1 "com/example/prequential/prequential/measure/ScoreMultiset" "count" "[I" (.ref ac) ∧ Fld Z h a1 "com/example/prequential/prequential/measure/ScoreMultiset" "total" "[I" (.ref au) ∧ Fld Z h a1 "com/example/prequential/prequential/measure/ScoreMultiset" "height" "[B" (.ref ah) ∧ Fld Z h a1 "com/example/prequential/prequential/measure/ScoreMultiset" "root" "I" (.int ro) ∧ Fld Z h a1 "com/example/prequential/prequential/measure/ScoreMultiset" "unused" "I" (.int u2) ∧ Fld Z h a1 "com/example/prequential/prequential/measure/ScoreMultiset" "freed" "I" (.int f2) ∧ Fld Z h a1 "com/example/prequential/prequential/measure/ScoreMultiset" "reshaped" "Z" (.int r2) ∧ Arv Z h al kl .int (16 : Int32) (own_v lL2) (.int (0 : Int32)) ∧ Arv Z h ar kr .int (16 : Int32) (own_v lR2) (.int (0 : Int32)) ∧ Arv Z h ac kc .int (16 : Int32) (own_v lC2) (.int (0 : Int32)) ∧ Arv Z h au ku .int (16 : Int32) (own_v lT2) (.int (0 : Int32)) ∧ Arv Z h ah kh .byte (16 : Int32) (own_v lH2) (.int (0 : Int32)) ∧ own_Kar Z h ak kk kK2 val ∧ own_rng lL2 ∧ own_rng lR2 ∧ lC2.length = 16 ∧ lT2.length = 16 ∧ lH2.length = 16 ∧ own_in v2 ∧ own_del3 cc xi (lL, lR, lC, lT, lH, kK, u_, (0 : Int32), rs) p2 = ((lL2, lR2, lC2, lT2, lH2, kK2, u2, f2, r2), v2)
set_option maxRecDepth 65536 in
set_option maxHeartbeats 40000000 in
theorem rm13d3 (l : Launch) (Z : State) (a0 : Array Value) (hw : ∀ d ∈ tables_1, d.before a0 Z = true) (ws : List Jvm.Cond) (a1 : Addr) (p2 : Int32) (xv : UInt64) (ak : Addr) (ro : Int32) (u_ : Int32) (rs : Int32) (al : Addr) (kl : ClassId) (lL : List Int32) (ar : Addr) (kr : ClassId) (lR : List Int32) (ac : Addr) (kc : ClassId) (lC : List Int32) (au : Addr) (ku : ClassId) (lT : List Int32) (ah : Addr) (kh : ClassId) (lH : List Int32) (kk : ClassId) (kK : List Nat) (val : Nat → UInt64) (cc : Nat → Nat → Int32) (xi : Nat) (h0 : Heap) (n0 : Nat) (Z0 : n0 ≤ h0.size) (H0 : Exa Z h0 a1 "com/example/prequential/prequential/measure/ScoreMultiset") (H1 : Fld Z h0 a1 "com/example/prequential/prequential/measure/ScoreMultiset" "key" "[D" (.ref ak)) (H2 : Fld Z h0 a1 "com/example/prequential/prequential/measure/ScoreMultiset" "left" "[I" (.ref al)) (H3 : Fld Z h0 a1 "com/example/prequential/prequential/measure/ScoreMultiset" "right" "[I" (.ref ar)) (H4 : Fld Z h0 a1 "com/example/prequential/prequential/measure/ScoreMultiset" "count" "[I" (.ref ac)) (H5 : Fld Z h0 a1 "com/example/prequential/prequential/measure/ScoreMultiset" "total" "[I" (.ref au)) (H6 : Fld Z h0 a1 "com/example/prequential/prequential/measure/ScoreMultiset" "height" "[B" (.ref ah)) (H7 : Fld Z h0 a1 "com/example/prequential/prequential/measure/ScoreMultiset" "root" "I" (.int ro)) (H8 : Fld Z h0 a1 "com/example/prequential/prequential/measure/ScoreMultiset" "unused" "I" (.int u_)) (H9 : Fld Z h0 a1 "com/example/prequential/prequential/measure/ScoreMultiset" "freed" "I" (.int (0 : Int32))) (H10 : Fld Z h0 a1 "com/example/prequential/prequential/measure/ScoreMultiset" "reshaped" "Z" (.int rs)) (H11 : Arv Z h0 al kl .int (16 : Int32) (own_v lL) (.int (0 : Int32))) (H12 : Arv Z h0 ar kr .int (16 : Int32) (own_v lR) (.int (0 : Int32))) (H13 : Arv Z h0 ac kc .int (16 : Int32) (own_v lC) (.int (0 : Int32))) (H14 : Arv Z h0 au ku .int (16 : Int32) (own_v lT) (.int (0 : Int32))) (H15 : Arv Z h0 ah kh .byte (16 : Int32) (own_v lH) (.int (0 : Int32))) (H16 : own_Kar Z h0 ak kk kK val) (H17 : n0 ≤ a1) (H18 : n0 ≤ ak) (H19 : n0 ≤ al) (H20 : n0 ≤ ar) (H21 : n0 ≤ ac) (H22 : n0 ≤ au) (H23 : n0 ≤ ah) (H24 : al ≠ ar) (H25 : al ≠ ac) (H26 : ar ≠ ac) (H27 : al ≠ au) (H28 : ar ≠ au) (H29 : ac ≠ au) (H30 : own_rng lL) (H31 : own_rng lR) (H32 : lC.length = 16) (H33 : lT.length = 16) (H34 : lH.length = 16) (H35 : own_in p2) (H36 : own_hit3 (cc xi) kK lL lR lC p2 = true) (H37 : own_cv cc val) (H38 : xi < 5) (H39 : xv = val xi) :
    own_MF l (⟨"com/example/prequential/prequential/measure/ScoreMultiset", "delete", "(ID)I"⟩ : MethodName) (Jvm.Cond.code (⟨"com/example/prequential/prequential/measure/ScoreMultiset", "delete", "(ID)I"⟩ : MethodName) prog_108_method_12_code 4 (some .int) :: ws) ({ frames := 9, cells := 0, slots := 0, locals := 140 } : Room) #[(.ref a1), (.int p2), (.double xv)] Z h0 (Q13d3 Z a1 p2 xv ak ro u_ rs al kl lL ar kr lR ac kc lC au ku lT ah kh lH kk kK val cc xi h0 n0) := by
  refine MetFree.of_bodySF (plainFor_of_name pn_com_example_prequential_prequential_measure_ScoreMultiset) hisR ?_
  intro p e s m args below meth c s₁ Bd hml0 hP hK
  obtain ⟨rfl, hZ, hh⟩ := hP
  have hx := Bd.exec
  have hby := Bd.bytes
  have hml : c.maxLocals = 4 := hml0
  have hown : s.vm.findClass "com/example/prequential/prequential/measure/ScoreMultiset" = some m.cls := findClass_of_methodNamed Bd.named
  have hnm := (name_of_methodNamed Bd.named Bd.method).1
  have X0 : Stand p l e ({ frames := 9, cells := 0, slots := 0, locals := 140 } : Room) s m #[(.ref a1), (.int p2), (.double xv)] below meth c s₁ [] 0 0 := Stand.of_body Bd
  have e0 : s₁.heap = h0 := by rw [← hh, Bd.state]; rfl
  have N0 := Fr.nil n0
  have pre0 : ∀ t, Steps p.tables e below (s₁.setTop (mkF m 0 #[.val (.ref a1), .val (.int p2), .val (.double xv), .second] [])) t → Steps p.tables e below (s₁.setTop (entryFrame m #[(.ref a1), (.int p2), (.double xv)] 4)) t := fun t k => castTop (ef_13d3 m a1 p2 xv) k
  obtain ⟨T101, X101, e101, st101⟩ := getF X0 hx hZ hown (host := "") (Or.inl (own_w hw 11 rfl)) Via.refl e0 H1 (g := (mkF m 20 #[.val (.ref a1), .val (.int p2), .val (.double xv), .second] [(.ref a1), (.double xv)])) rfl rfl (hb hby d13_20)
  have dq103 : cmpValue (FP.dcmp xv (val (own_gk kK p2))) .g = (cc xi (own_gk kK p2)) := (own_dc H37 H39 H38 (own_hit_k H36))
  have pre104 : ∀ t, Steps p.tables e below (T101.setTop (mkF m 26 #[.val (.ref a1), .val (.int p2), .val (.double xv), .second] [(.int (cc xi (own_gk kK p2)))])) t → Steps p.tables e below (s₁.setTop (entryFrame m #[(.ref a1), (.int p2), (.double xv)] 4)) t := fun t kt => by
    refine pre0 t ?_
    show Steps p.tables e below (s₁.setTop (mkF m 0 #[.val (.ref a1), .val (.int p2), .val (.double xv), .second] [])) _
    refine XS.iloadN X0.here hx rfl (hb hby d13_0) rfl ?_
    refine XS.ifYes X0.here hx rfl (pc0 := 1) (pc' := 18) rfl (hb hby d13_1) rfl ((if0 _ _).trans (feq (own_hit_n H36 : ¬ (p2 = (0 : Int32)))).2) (by decide) (by decide) ?_
    refine XS.dloadN X0.here hx rfl (hb hby d13_18) rfl ?_
    refine XS.aloadN X0.here hx rfl (hb hby d13_19) rfl rfl ?_
    refine st101 _ ?_
    refine XS.iloadN X101.here hx rfl (hb hby d13_23) rfl ?_
    show Steps p.tables e below (T101.setTop (mkF m 24 #[.val (.ref a1), .val (.int p2), .val (.double xv), .second] [(.int p2), (.ref ak), (.double xv)])) _
    refine own_da X101 hx hZ e101 H16 H35 (hb hby d13_24) ?_
    show Steps p.tables e below (T101.setTop (mkF m 25 #[.val (.ref a1), .val (.int p2), .val (.double xv), .second] [(.double (val (own_gk kK p2))), (.double xv)])) _
    refine XS.dcmpS X101.here hx rfl (hb hby d13_25) rfl dq103 ?_
    show Steps p.tables e below (T101.setTop (mkF m 26 #[.val (.ref a1), .val (.int p2), .val (.double xv), .second] [(.int (cc xi (own_gk kK p2)))])) _
    exact kt
  by_cases hc26_105 : (cc xi (own_gk kK p2)) < (0 : Int32)
  · skip
    obtain ⟨T106, X106, e106, st106⟩ := getF X101 hx hZ hown (host := "") (Or.inl (own_w hw 14 rfl)) Via.refl e101 H2 (g := (mkF m 30 #[.val (.ref a1), .val (.int p2), .val (.double xv), .second] [(.ref a1)])) rfl rfl (hb hby d13_30)
    obtain ⟨T107, X107, e107, st107⟩ := getF X106 hx hZ hown (host := "") (Or.inl (own_w hw 14 rfl)) Via.refl e106 H2 (g := (mkF m 36 #[.val (.ref a1), .val (.int p2), .val (.double xv), .second] [(.ref a1), (.ref a1), (.int p2), (.ref al)])) rfl rfl (hb hby d13_36)
    obtain ⟨cq109, q109, q109'⟩ := H0.cell
    obtain ⟨_, _, ⟨T109, L109, k109, n109⟩, -, X109, ⟨Lc109, hQ109, l109, y109, z109⟩, st109⟩ := X107.privateBack hx (y := (⟨"com/example/prequential/prequential/measure/ScoreMultiset", "delete", "(ID)I"⟩ : MethodName)) hown (mvT hZ (own_w hw 75 rfl)) (mvT hZ (own_w hw 76 rfl)) (mvT hZ (own_selp (by decide) (own_w hw 2 rfl) (own_w hw 77 rfl) (own_w hw 76 rfl))) (Cond.privateMethod_at (mvP hZ (own_w hw 77 rfl) (args := #[]))) (mvT hZ (own_w hw 78 rfl)) (by decide) (backOf (W := 2) (rm13d2 l Z a0 hw [] a1 (own_g lL p2) xv ak ro u_ rs al kl lL ar kr lR ac kc lC au ku lT ah kh lH kk kK val cc xi h0 n0 Z0 H0 H1 H2 H3 H4 H5 H6 H7 H8 H9 H10 H11 H12 H13 H14 H15 H16 H17 H18 H19 H20 H21 H22 H23 H24 H25 H26 H27 H28 H29 H30 H31 H32 H33 H34 (H30.2 _) (own_hit_l H36 hc26_105) H37 H38 H39) hZ (own_w hw 78 rfl) (own_w hw 3 rfl) (by decide) (by decide)) (g := (mkF m 42 #[.val (.ref a1), .val (.int p2), .val (.double xv), .second] [(.double xv), (.int (own_g lL p2)), (.ref a1), (.int p2), (.ref al)])) rfl (by rw [hml]; rfl) (Steps.refl _) (a := a1) (by rw [e107]; exact q109) q109' (argsL := [(.int (own_g lL p2)), (.double xv)]) (rest := [(.int p2), (.ref al)]) (lenOf pd_4 rfl) rfl (by show 2 * 0 + _ ≤ _; exact Nat.le_of_eq rfl) (hb hby d13_42) (fun _ _ => ⟨rfl, e107, (by decide : 0 + 0 ≤ _), (by decide : 0 + 0 ≤ _)⟩)
    dsimp only [Pt.U, Pt.locs, Pt.cells, Pt.slots] at X109 l109 y109 z109 st109 hQ109
    subst l109 y109 z109
    obtain ⟨lL2109, lR2109, lC2109, lT2109, lH2109, kK2109, u2109, f2109, r2109, v2109, rfl, Nq109, K109, R109_1, R109_2, R109_3, R109_4, R109_5, R109_6, R109_7, R109_8, R109_9, R109_10, R109_11, R109_12, R109_13, R109_14, R109_15, R109_16, R109_17, R109_18, R109_19, R109_20, R109_21, R109_22, R109_23⟩ := hQ109
    have N109 := Fr.app N0 Nq109
    obtain ⟨cl110, Ar110, qc110, S110, M110, Hh110, G110⟩ := id R109_11
    have hin110 : ¬ (p2 < 0 ∨ cl110.slots.size ≤ (p2).toNatClampNeg) := inb_of S110 H35
    obtain ⟨T110, h110, X110, e110, W110, st110⟩ := stI X109 hx hZ rfl Ar110 (j := p2) hin110 (g := (mkF m 45 #[.val (.ref a1), .val (.int p2), .val (.double xv), .second] [(.int v2109), (.int p2), (.ref al)])) rfl rfl (hb hby d13_45)
    have V110 : Arv Z h110 al kl .int (16 : Int32) (own_v (own_p lL2109 p2 v2109)) (.int (0 : Int32)) := by rw [own_vp]; exact Arv.set Ar110 qc110 S110 M110 Hh110 G110 rfl W110 p2.toNatClampNeg (rfl) (own_vlt H35 R109_17.1)
    have N110 := Fr.snoc X110 N109 H19
    have f111 := ((H0.keep K109).wr W110)
    have ne112 : a1 ≠ al := Exa.neArv f111 V110 (own_w hw 2 rfl)
    have f113 := (R109_1.other W110 (Or.inl ne112))
    have f114 := (R109_2.other W110 (Or.inl ne112))
    have f115 := (R109_3.other W110 (Or.inl ne112))
    have f116 := (R109_4.other W110 (Or.inl ne112))
    have f117 := (R109_5.other W110 (Or.inl ne112))
    have f118 := (R109_6.other W110 (Or.inl ne112))
    have f119 := (R109_7.other W110 (Or.inl ne112))
    have f120 := (R109_8.other W110 (Or.inl ne112))
    have f121 := (R109_9.other W110 (Or.inl ne112))
    have f122 := (R109_10.other W110 (Or.inl ne112))
    have f123 := (R109_12.other W110 (Ne.symm H24))
    have f124 := (R109_13.other W110 (Ne.symm H25))
    have f125 := (R109_14.other W110 (Ne.symm H27))
    have ne126 : ah ≠ al := own_ne_arv H15 H11 (by decide)
    have f127 := (R109_15.other W110 ne126)
    have z129 : n0 ≤ h110.size := (Nat.le_trans (Nat.le_trans Z0 K109.1) (Nat.le_of_eq W110.size.symm))
    obtain ⟨cq128, q128, q128'⟩ := f111.cell
    obtain ⟨_, _, ⟨T128, L128, k128, n128⟩, -, X128, ⟨Lc128, hQ128, l128, y128, z128⟩, st128⟩ := X110.privateBack hx (y := (⟨"com/example/prequential/prequential/measure/ScoreMultiset", "settle", "(II)I"⟩ : MethodName)) hown (mvT hZ (own_w hw 46 rfl)) (mvT hZ (own_w hw 47 rfl)) (mvT hZ (own_selp (by decide) (own_w hw 2 rfl) (own_w hw 48 rfl) (own_w hw 47 rfl))) (Cond.privateMethod_at (mvP hZ (own_w hw 48 rfl) (args := #[]))) (mvT hZ (own_w hw 49 rfl)) (by decide) (backOf (W := 0) (rm6 l Z a0 hw [] a1 p2 (-1 : Int32) ak ro u2109 f2109 r2109 al kl (own_p lL2109 p2 v2109) ar kr lR2109 ac kc lC2109 au ku lT2109 ah kh lH2109 h110 n0 z129 f111 f113 f114 f115 f116 f117 f118 f119 f120 f121 f122 V110 f123 f124 f125 f127 H19 H20 H22 H23 H17 H24 H25 H26 H27 H28 H29 H35 (own_rngp R109_17 R109_22) R109_18 R109_19 R109_20 R109_21) hZ (own_w hw 49 rfl) (own_w hw 3 rfl) (by decide) (by decide)) (g := (mkF m 112 #[.val (.ref a1), .val (.int p2), .val (.double xv), .second] [(.int (-1 : Int32)), (.int p2), (.ref a1)])) rfl (by rw [hml]; rfl) (Steps.refl _) (a := a1) (by rw [e110]; exact q128) q128' (argsL := [(.int p2), (.int (-1 : Int32))]) (rest := []) (lenOf pd_0 rfl) rfl (by show 2 * 0 + _ ≤ _; exact Nat.le_of_eq rfl) (hb hby d13_112) (fun _ _ => ⟨rfl, e110, (by decide : 0 + 0 ≤ _), (by decide : 0 + 0 ≤ _)⟩)
    dsimp only [Pt.U, Pt.locs, Pt.cells, Pt.slots] at X128 l128 y128 z128 st128 hQ128
    subst l128 y128 z128
    obtain ⟨rfl, Nq128, K128, R128_1, R128_2, R128_3, R128_4, R128_5, R128_6, R128_7, R128_8, R128_9, R128_10, R128_11, R128_12, R128_13, R128_14, R128_15, R128_16, R128_17, R128_18, R128_19⟩ := hQ128
    have N128 := Fr.app N110 Nq128
    have ne130 : ac ≠ ah := own_ne_arv H13 H15 (by decide)
    have ne131 : a1 ≠ ac := Exa.neArv f111 f124 (own_w hw 2 rfl)
    have f132 := (f124.keep K128 (ninS (Ne.symm ne131) (ninS (Ne.symm H25) (ninS (Ne.symm H26) (ninS H29 (ninS ne130 nin0))))))
    have ne133 : al ≠ ak := own_ne_kv H11 H16 (by decide)
    have ne134 : ah ≠ ak := own_ne_kv H15 H16 (by decide)
    have ne135 : au ≠ ak := own_ne_kv H14 H16 (by decide)
    have ne136 : ar ≠ ak := own_ne_kv H12 H16 (by decide)
    have ne137 : a1 ≠ ak := own_ne_kar (H0.keep K109) (own_w hw 2 rfl) R109_16
    have f138 := ((R109_16.other W110 (Ne.symm ne133)).keep K128 (ninS (Ne.symm ne137) (ninS (Ne.symm ne133) (ninS (Ne.symm ne136) (ninS (Ne.symm ne135) (ninS (Ne.symm ne134) nin0))))))
    obtain ⟨fs, hr, hrun, hended, hW, hsame⟩ := X128.leave (v := some (.int (own_set (own_p lL2109 p2 v2109) lR2109 lC2109 lT2109 lH2109 r2109 p2 (-1 : Int32)).2)) (fun h => by rw [Bd.returns] at h; cases h) (BodyLoose.notSynchronized Bd)
    refine ⟨_, _, pre104 _ ?_, hrun, hended, _, _, rfl, ?_, ⟨_, rfl⟩, hW, hsame.mono (by decide) (by decide)⟩
    · skip
      show Steps p.tables e below (T101.setTop (mkF m 26 #[.val (.ref a1), .val (.int p2), .val (.double xv), .second] [(.int (cc xi (own_gk kK p2)))])) _
      refine XS.ifNo X101.here hx rfl (hb hby d13_26) rfl ((if0 _ _).trans (tlt (hc26_105 : (cc xi (own_gk kK p2)) < (0 : Int32))).2.1) ?_
      refine XS.aloadN X101.here hx rfl (hb hby d13_29) rfl rfl ?_
      refine st106 _ ?_
      refine XS.iloadN X106.here hx rfl (hb hby d13_33) rfl ?_
      refine XS.aloadN X106.here hx rfl (hb hby d13_34) rfl rfl ?_
      refine XS.aloadN X106.here hx rfl (hb hby d13_35) rfl rfl ?_
      refine st107 _ ?_
      refine XS.iloadN X107.here hx rfl (hb hby d13_39) rfl ?_
      show Steps p.tables e below (T107.setTop (mkF m 40 #[.val (.ref a1), .val (.int p2), .val (.double xv), .second] [(.int p2), (.ref al), (.ref a1), (.int p2), (.ref al)])) _
      refine own_ia X107 hx hZ e107 H11 H35 (hb hby d13_40) ?_
      show Steps p.tables e below (T107.setTop (mkF m 41 #[.val (.ref a1), .val (.int p2), .val (.double xv), .second] [(.int (own_g lL p2)), (.ref a1), (.int p2), (.ref al)])) _
      refine XS.dloadN X107.here hx rfl (hb hby d13_41) rfl ?_
      show Steps p.tables e below (T107.setTop (mkF m 42 #[.val (.ref a1), .val (.int p2), .val (.double xv), .second] [(.double xv), (.int (own_g lL p2)), (.ref a1), (.int p2), (.ref al)])) _
      refine st109.trans ?_
      show Steps p.tables e below (T109.setTop (mkF m 45 #[.val (.ref a1), .val (.int p2), .val (.double xv), .second] [(.int v2109), (.int p2), (.ref al)])) _
      refine st110 _ ?_
      refine XS.goto X110.here hx rfl (pc0 := 46) (pc' := 109) rfl (hb hby d13_46) (by decide) (by decide) ?_
      refine XS.aloadN X110.here hx rfl (hb hby d13_109) rfl rfl ?_
      refine XS.iloadN X110.here hx rfl (hb hby d13_110) rfl ?_
      refine XS.iconst X110.here hx rfl (hb hby d13_111) ?_
      show Steps p.tables e below (T110.setTop (mkF m 112 #[.val (.ref a1), .val (.int p2), .val (.double xv), .second] [(.int (-1 : Int32)), (.int p2), (.ref a1)])) _
      refine st128.trans ?_
      show Steps p.tables e below (T128.setTop (mkF m 115 #[.val (.ref a1), .val (.int p2), .val (.double xv), .second] [(.int (own_set (own_p lL2109 p2 v2109) lR2109 lC2109 lT2109 lH2109 r2109 p2 (-1 : Int32)).2)])) _
      exact retI X128 hx Bd.returns (hb hby d13_115) hr
    · show Q13d3 Z a1 p2 xv ak ro u_ rs al kl lL ar kr lR ac kc lC au ku lT ah kh lH kk kK val cc xi h0 n0 _ T128.heap _
      exact ⟨((own_set (own_p lL2109 p2 v2109) lR2109 lC2109 lT2109 lH2109 r2109 p2 (-1 : Int32)).1.1.1), ((own_set (own_p lL2109 p2 v2109) lR2109 lC2109 lT2109 lH2109 r2109 p2 (-1 : Int32)).1.1.2.1), lC2109, ((own_set (own_p lL2109 p2 v2109) lR2109 lC2109 lT2109 lH2109 r2109 p2 (-1 : Int32)).1.1.2.2.1), ((own_set (own_p lL2109 p2 v2109) lR2109 lC2109 lT2109 lH2109 r2109 p2 (-1 : Int32)).1.1.2.2.2), kK2109, u2109, f2109, ((own_set (own_p lL2109 p2 v2109) lR2109 lC2109 lT2109 lH2109 r2109 p2 (-1 : Int32)).1.2), ((own_set (own_p lL2109 p2 v2109) lR2109 lC2109 lT2109 lH2109 r2109 p2 (-1 : Int32)).2), rfl, N128, ((((Keep.refl h0 [a1, ak, al, ar, ac, au, ah]).trans K109 (allS (P := (fun x => x ∈ [a1, ak, al, ar, ac, au, ah] ∨ h0.size ≤ x)) (Or.inl (List.mem_of_getElem? (i := 0) rfl)) (allS (P := (fun x => x ∈ [a1, ak, al, ar, ac, au, ah] ∨ h0.size ≤ x)) (Or.inl (List.mem_of_getElem? (i := 1) rfl)) (allS (P := (fun x => x ∈ [a1, ak, al, ar, ac, au, ah] ∨ h0.size ≤ x)) (Or.inl (List.mem_of_getElem? (i := 2) rfl)) (allS (P := (fun x => x ∈ [a1, ak, al, ar, ac, au, ah] ∨ h0.size ≤ x)) (Or.inl (List.mem_of_getElem? (i := 3) rfl)) (allS (P := (fun x => x ∈ [a1, ak, al, ar, ac, au, ah] ∨ h0.size ≤ x)) (Or.inl (List.mem_of_getElem? (i := 4) rfl)) (allS (P := (fun x => x ∈ [a1, ak, al, ar, ac, au, ah] ∨ h0.size ≤ x)) (Or.inl (List.mem_of_getElem? (i := 5) rfl)) (allS (P := (fun x => x ∈ [a1, ak, al, ar, ac, au, ah] ∨ h0.size ≤ x)) (Or.inl (List.mem_of_getElem? (i := 6) rfl)) all0)))))))).wr W110 (Or.inl (List.mem_of_getElem? (i := 2) rfl))).trans K128 (allS (P := (fun x => x ∈ [a1, ak, al, ar, ac, au, ah] ∨ h0.size ≤ x)) (Or.inl (List.mem_of_getElem? (i := 0) rfl)) (allS (P := (fun x => x ∈ [a1, ak, al, ar, ac, au, ah] ∨ h0.size ≤ x)) (Or.inl (List.mem_of_getElem? (i := 2) rfl)) (allS (P := (fun x => x ∈ [a1, ak, al, ar, ac, au, ah] ∨ h0.size ≤ x)) (Or.inl (List.mem_of_getElem? (i := 3) rfl)) (allS (P := (fun x => x ∈ [a1, ak, al, ar, ac, au, ah] ∨ h0.size ≤ x)) (Or.inl (List.mem_of_getElem? (i := 5) rfl)) (allS (P := (fun x => x ∈ [a1, ak, al, ar, ac, au, ah] ∨ h0.size ≤ x)) (Or.inl (List.mem_of_getElem? (i := 6) rfl)) all0)))))), R128_1, R128_2, R128_3, R128_4, R128_5, R128_6, R128_7, R128_8, R128_9, R128_10, R128_11, R128_12, f132, R128_13, R128_14, f138, R128_15, R128_16, R109_19, R128_17, R128_18, R128_19, (by simp only [own_del3, own_delS, own_il, own_ir, own_fin, own_fw, eq_true hc26_105, R109_23, if_true, if_false])⟩
  · skip
    obtain ⟨T139, X139, e139, st139⟩ := getF X101 hx hZ hown (host := "") (Or.inl (own_w hw 11 rfl)) Via.refl e101 H1 (g := (mkF m 51 #[.val (.ref a1), .val (.int p2), .val (.double xv), .second] [(.ref a1), (.double xv)])) rfl rfl (hb hby d13_51)
    have dq141 : cmpValue (FP.dcmp xv (val (own_gk kK p2))) .l = (cc xi (own_gk kK p2)) := (own_dc H37 H39 H38 (own_hit_k H36))
    have pre142 : ∀ t, Steps p.tables e below (T139.setTop (mkF m 57 #[.val (.ref a1), .val (.int p2), .val (.double xv), .second] [(.int (cc xi (own_gk kK p2)))])) t → Steps p.tables e below (s₁.setTop (entryFrame m #[(.ref a1), (.int p2), (.double xv)] 4)) t := fun t kt => by
      refine pre104 t ?_
      show Steps p.tables e below (T101.setTop (mkF m 26 #[.val (.ref a1), .val (.int p2), .val (.double xv), .second] [(.int (cc xi (own_gk kK p2)))])) _
      refine XS.ifYes X101.here hx rfl (pc0 := 26) (pc' := 49) rfl (hb hby d13_26) rfl ((if0 _ _).trans (flt (hc26_105 : ¬ ((cc xi (own_gk kK p2)) < (0 : Int32)))).2.1) (by decide) (by decide) ?_
      refine XS.dloadN X101.here hx rfl (hb hby d13_49) rfl ?_
      refine XS.aloadN X101.here hx rfl (hb hby d13_50) rfl rfl ?_
      refine st139 _ ?_
      refine XS.iloadN X139.here hx rfl (hb hby d13_54) rfl ?_
      show Steps p.tables e below (T139.setTop (mkF m 55 #[.val (.ref a1), .val (.int p2), .val (.double xv), .second] [(.int p2), (.ref ak), (.double xv)])) _
      refine own_da X139 hx hZ e139 H16 H35 (hb hby d13_55) ?_
      show Steps p.tables e below (T139.setTop (mkF m 56 #[.val (.ref a1), .val (.int p2), .val (.double xv), .second] [(.double (val (own_gk kK p2))), (.double xv)])) _
      refine XS.dcmpS X139.here hx rfl (hb hby d13_56) rfl dq141 ?_
      show Steps p.tables e below (T139.setTop (mkF m 57 #[.val (.ref a1), .val (.int p2), .val (.double xv), .second] [(.int (cc xi (own_gk kK p2)))])) _
      exact kt
    by_cases hc57_143 : (0 : Int32) < (cc xi (own_gk kK p2))
    · skip
      obtain ⟨T144, X144, e144, st144⟩ := getF X139 hx hZ hown (host := "") (Or.inl (own_w hw 16 rfl)) Via.refl e139 H3 (g := (mkF m 61 #[.val (.ref a1), .val (.int p2), .val (.double xv), .second] [(.ref a1)])) rfl rfl (hb hby d13_61)
      obtain ⟨T145, X145, e145, st145⟩ := getF X144 hx hZ hown (host := "") (Or.inl (own_w hw 16 rfl)) Via.refl e144 H3 (g := (mkF m 67 #[.val (.ref a1), .val (.int p2), .val (.double xv), .second] [(.ref a1), (.ref a1), (.int p2), (.ref ar)])) rfl rfl (hb hby d13_67)
      obtain ⟨cq147, q147, q147'⟩ := H0.cell
      obtain ⟨_, _, ⟨T147, L147, k147, n147⟩, -, X147, ⟨Lc147, hQ147, l147, y147, z147⟩, st147⟩ := X145.privateBack hx (y := (⟨"com/example/prequential/prequential/measure/ScoreMultiset", "delete", "(ID)I"⟩ : MethodName)) hown (mvT hZ (own_w hw 75 rfl)) (mvT hZ (own_w hw 76 rfl)) (mvT hZ (own_selp (by decide) (own_w hw 2 rfl) (own_w hw 77 rfl) (own_w hw 76 rfl))) (Cond.privateMethod_at (mvP hZ (own_w hw 77 rfl) (args := #[]))) (mvT hZ (own_w hw 78 rfl)) (by decide) (backOf (W := 2) (rm13d2 l Z a0 hw [] a1 (own_g lR p2) xv ak ro u_ rs al kl lL ar kr lR ac kc lC au ku lT ah kh lH kk kK val cc xi h0 n0 Z0 H0 H1 H2 H3 H4 H5 H6 H7 H8 H9 H10 H11 H12 H13 H14 H15 H16 H17 H18 H19 H20 H21 H22 H23 H24 H25 H26 H27 H28 H29 H30 H31 H32 H33 H34 (H31.2 _) (own_hit_r H36 hc26_105 hc57_143) H37 H38 H39) hZ (own_w hw 78 rfl) (own_w hw 3 rfl) (by decide) (by decide)) (g := (mkF m 73 #[.val (.ref a1), .val (.int p2), .val (.double xv), .second] [(.double xv), (.int (own_g lR p2)), (.ref a1), (.int p2), (.ref ar)])) rfl (by rw [hml]; rfl) (Steps.refl _) (a := a1) (by rw [e145]; exact q147) q147' (argsL := [(.int (own_g lR p2)), (.double xv)]) (rest := [(.int p2), (.ref ar)]) (lenOf pd_4 rfl) rfl (by show 2 * 0 + _ ≤ _; exact Nat.le_of_eq rfl) (hb hby d13_73) (fun _ _ => ⟨rfl, e145, (by decide : 0 + 0 ≤ _), (by decide : 0 + 0 ≤ _)⟩)
      dsimp only [Pt.U, Pt.locs, Pt.cells, Pt.slots] at X147 l147 y147 z147 st147 hQ147
      subst l147 y147 z147
      obtain ⟨lL2147, lR2147, lC2147, lT2147, lH2147, kK2147, u2147, f2147, r2147, v2147, rfl, Nq147, K147, R147_1, R147_2, R147_3, R147_4, R147_5, R147_6, R147_7, R147_8, R147_9, R147_10, R147_11, R147_12, R147_13, R147_14, R147_15, R147_16, R147_17, R147_18, R147_19, R147_20, R147_21, R147_22, R147_23⟩ := hQ147
      have N147 := Fr.app N0 Nq147
      obtain ⟨cl148, Ar148, qc148, S148, M148, Hh148, G148⟩ := id R147_12
      have hin148 : ¬ (p2 < 0 ∨ cl148.slots.size ≤ (p2).toNatClampNeg) := inb_of S148 H35
      obtain ⟨T148, h148, X148, e148, W148, st148⟩ := stI X147 hx hZ rfl Ar148 (j := p2) hin148 (g := (mkF m 76 #[.val (.ref a1), .val (.int p2), .val (.double xv), .second] [(.int v2147), (.int p2), (.ref ar)])) rfl rfl (hb hby d13_76)
      have V148 : Arv Z h148 ar kr .int (16 : Int32) (own_v (own_p lR2147 p2 v2147)) (.int (0 : Int32)) := by rw [own_vp]; exact Arv.set Ar148 qc148 S148 M148 Hh148 G148 rfl W148 p2.toNatClampNeg (rfl) (own_vlt H35 R147_18.1)
      have N148 := Fr.snoc X148 N147 H20
      have f149 := ((H0.keep K147).wr W148)
      have ne150 : a1 ≠ ar := Exa.neArv f149 V148 (own_w hw 2 rfl)
      have f151 := (R147_1.other W148 (Or.inl ne150))
      have f152 := (R147_2.other W148 (Or.inl ne150))
      have f153 := (R147_3.other W148 (Or.inl ne150))
      have f154 := (R147_4.other W148 (Or.inl ne150))
      have f155 := (R147_5.other W148 (Or.inl ne150))
      have f156 := (R147_6.other W148 (Or.inl ne150))
      have f157 := (R147_7.other W148 (Or.inl ne150))
      have f158 := (R147_8.other W148 (Or.inl ne150))
      have f159 := (R147_9.other W148 (Or.inl ne150))
      have f160 := (R147_10.other W148 (Or.inl ne150))
      have f161 := (R147_11.other W148 H24)
      have f162 := (R147_13.other W148 (Ne.symm H26))
      have f163 := (R147_14.other W148 (Ne.symm H28))
      have ne164 : ah ≠ ar := own_ne_arv H15 H12 (by decide)
      have f165 := (R147_15.other W148 ne164)
      have z167 : n0 ≤ h148.size := (Nat.le_trans (Nat.le_trans Z0 K147.1) (Nat.le_of_eq W148.size.symm))
      obtain ⟨cq166, q166, q166'⟩ := f149.cell
      obtain ⟨_, _, ⟨T166, L166, k166, n166⟩, -, X166, ⟨Lc166, hQ166, l166, y166, z166⟩, st166⟩ := X148.privateBack hx (y := (⟨"com/example/prequential/prequential/measure/ScoreMultiset", "settle", "(II)I"⟩ : MethodName)) hown (mvT hZ (own_w hw 46 rfl)) (mvT hZ (own_w hw 47 rfl)) (mvT hZ (own_selp (by decide) (own_w hw 2 rfl) (own_w hw 48 rfl) (own_w hw 47 rfl))) (Cond.privateMethod_at (mvP hZ (own_w hw 48 rfl) (args := #[]))) (mvT hZ (own_w hw 49 rfl)) (by decide) (backOf (W := 0) (rm6 l Z a0 hw [] a1 p2 (-1 : Int32) ak ro u2147 f2147 r2147 al kl lL2147 ar kr (own_p lR2147 p2 v2147) ac kc lC2147 au ku lT2147 ah kh lH2147 h148 n0 z167 f149 f151 f152 f153 f154 f155 f156 f157 f158 f159 f160 f161 V148 f162 f163 f165 H19 H20 H22 H23 H17 H24 H25 H26 H27 H28 H29 H35 R147_17 (own_rngp R147_18 R147_22) R147_19 R147_20 R147_21) hZ (own_w hw 49 rfl) (own_w hw 3 rfl) (by decide) (by decide)) (g := (mkF m 112 #[.val (.ref a1), .val (.int p2), .val (.double xv), .second] [(.int (-1 : Int32)), (.int p2), (.ref a1)])) rfl (by rw [hml]; rfl) (Steps.refl _) (a := a1) (by rw [e148]; exact q166) q166' (argsL := [(.int p2), (.int (-1 : Int32))]) (rest := []) (lenOf pd_0 rfl) rfl (by show 2 * 0 + _ ≤ _; exact Nat.le_of_eq rfl) (hb hby d13_112) (fun _ _ => ⟨rfl, e148, (by decide : 0 + 0 ≤ _), (by decide : 0 + 0 ≤ _)⟩)
      dsimp only [Pt.U, Pt.locs, Pt.cells, Pt.slots] at X166 l166 y166 z166 st166 hQ166
      subst l166 y166 z166
      obtain ⟨rfl, Nq166, K166, R166_1, R166_2, R166_3, R166_4, R166_5, R166_6, R166_7, R166_8, R166_9, R166_10, R166_11, R166_12, R166_13, R166_14, R166_15, R166_16, R166_17, R166_18, R166_19⟩ := hQ166
      have N166 := Fr.app N148 Nq166
      have ne168 : ac ≠ ah := own_ne_arv H13 H15 (by decide)
      have ne169 : a1 ≠ ac := Exa.neArv f149 f162 (own_w hw 2 rfl)
      have f170 := (f162.keep K166 (ninS (Ne.symm ne169) (ninS (Ne.symm H25) (ninS (Ne.symm H26) (ninS H29 (ninS ne168 nin0))))))
      have ne171 : ar ≠ ak := own_ne_kv H12 H16 (by decide)
      have ne172 : ah ≠ ak := own_ne_kv H15 H16 (by decide)
      have ne173 : au ≠ ak := own_ne_kv H14 H16 (by decide)
      have ne174 : al ≠ ak := own_ne_kv H11 H16 (by decide)
      have ne175 : a1 ≠ ak := own_ne_kar (H0.keep K147) (own_w hw 2 rfl) R147_16
      have f176 := ((R147_16.other W148 (Ne.symm ne171)).keep K166 (ninS (Ne.symm ne175) (ninS (Ne.symm ne174) (ninS (Ne.symm ne171) (ninS (Ne.symm ne173) (ninS (Ne.symm ne172) nin0))))))
      obtain ⟨fs, hr, hrun, hended, hW, hsame⟩ := X166.leave (v := some (.int (own_set lL2147 (own_p lR2147 p2 v2147) lC2147 lT2147 lH2147 r2147 p2 (-1 : Int32)).2)) (fun h => by rw [Bd.returns] at h; cases h) (BodyLoose.notSynchronized Bd)
      refine ⟨_, _, pre142 _ ?_, hrun, hended, _, _, rfl, ?_, ⟨_, rfl⟩, hW, hsame.mono (by decide) (by decide)⟩
      · skip
        show Steps p.tables e below (T139.setTop (mkF m 57 #[.val (.ref a1), .val (.int p2), .val (.double xv), .second] [(.int (cc xi (own_gk kK p2)))])) _
        refine XS.ifNo X139.here hx rfl (hb hby d13_57) rfl ((if0 _ _).trans (tlt (hc57_143 : (0 : Int32) < (cc xi (own_gk kK p2)))).2.2.2) ?_
        refine XS.aloadN X139.here hx rfl (hb hby d13_60) rfl rfl ?_
        refine st144 _ ?_
        refine XS.iloadN X144.here hx rfl (hb hby d13_64) rfl ?_
        refine XS.aloadN X144.here hx rfl (hb hby d13_65) rfl rfl ?_
        refine XS.aloadN X144.here hx rfl (hb hby d13_66) rfl rfl ?_
        refine st145 _ ?_
        refine XS.iloadN X145.here hx rfl (hb hby d13_70) rfl ?_
        show Steps p.tables e below (T145.setTop (mkF m 71 #[.val (.ref a1), .val (.int p2), .val (.double xv), .second] [(.int p2), (.ref ar), (.ref a1), (.int p2), (.ref ar)])) _
        refine own_ia X145 hx hZ e145 H12 H35 (hb hby d13_71) ?_
        show Steps p.tables e below (T145.setTop (mkF m 72 #[.val (.ref a1), .val (.int p2), .val (.double xv), .second] [(.int (own_g lR p2)), (.ref a1), (.int p2), (.ref ar)])) _
        refine XS.dloadN X145.here hx rfl (hb hby d13_72) rfl ?_
        show Steps p.tables e below (T145.setTop (mkF m 73 #[.val (.ref a1), .val (.int p2), .val (.double xv), .second] [(.double xv), (.int (own_g lR p2)), (.ref a1), (.int p2), (.ref ar)])) _
        refine st147.trans ?_
        show Steps p.tables e below (T147.setTop (mkF m 76 #[.val (.ref a1), .val (.int p2), .val (.double xv), .second] [(.int v2147), (.int p2), (.ref ar)])) _
        refine st148 _ ?_
        refine XS.goto X148.here hx rfl (pc0 := 77) (pc' := 109) rfl (hb hby d13_77) (by decide) (by decide) ?_
        refine XS.aloadN X148.here hx rfl (hb hby d13_109) rfl rfl ?_
        refine XS.iloadN X148.here hx rfl (hb hby d13_110) rfl ?_
        refine XS.iconst X148.here hx rfl (hb hby d13_111) ?_
        show Steps p.tables e below (T148.setTop (mkF m 112 #[.val (.ref a1), .val (.int p2), .val (.double xv), .second] [(.int (-1 : Int32)), (.int p2), (.ref a1)])) _
        refine st166.trans ?_
        show Steps p.tables e below (T166.setTop (mkF m 115 #[.val (.ref a1), .val (.int p2), .val (.double xv), .second] [(.int (own_set lL2147 (own_p lR2147 p2 v2147) lC2147 lT2147 lH2147 r2147 p2 (-1 : Int32)).2)])) _
        exact retI X166 hx Bd.returns (hb hby d13_115) hr
      · show Q13d3 Z a1 p2 xv ak ro u_ rs al kl lL ar kr lR ac kc lC au ku lT ah kh lH kk kK val cc xi h0 n0 _ T166.heap _
        exact ⟨((own_set lL2147 (own_p lR2147 p2 v2147) lC2147 lT2147 lH2147 r2147 p2 (-1 : Int32)).1.1.1), ((own_set lL2147 (own_p lR2147 p2 v2147) lC2147 lT2147 lH2147 r2147 p2 (-1 : Int32)).1.1.2.1), lC2147, ((own_set lL2147 (own_p lR2147 p2 v2147) lC2147 lT2147 lH2147 r2147 p2 (-1 : Int32)).1.1.2.2.1), ((own_set lL2147 (own_p lR2147 p2 v2147) lC2147 lT2147 lH2147 r2147 p2 (-1 : Int32)).1.1.2.2.2), kK2147, u2147, f2147, ((own_set lL2147 (own_p lR2147 p2 v2147) lC2147 lT2147 lH2147 r2147 p2 (-1 : Int32)).1.2), ((own_set lL2147 (own_p lR2147 p2 v2147) lC2147 lT2147 lH2147 r2147 p2 (-1 : Int32)).2), rfl, N166, ((((Keep.refl h0 [a1, ak, al, ar, ac, au, ah]).trans K147 (allS (P := (fun x => x ∈ [a1, ak, al, ar, ac, au, ah] ∨ h0.size ≤ x)) (Or.inl (List.mem_of_getElem? (i := 0) rfl)) (allS (P := (fun x => x ∈ [a1, ak, al, ar, ac, au, ah] ∨ h0.size ≤ x)) (Or.inl (List.mem_of_getElem? (i := 1) rfl)) (allS (P := (fun x => x ∈ [a1, ak, al, ar, ac, au, ah] ∨ h0.size ≤ x)) (Or.inl (List.mem_of_getElem? (i := 2) rfl)) (allS (P := (fun x => x ∈ [a1, ak, al, ar, ac, au, ah] ∨ h0.size ≤ x)) (Or.inl (List.mem_of_getElem? (i := 3) rfl)) (allS (P := (fun x => x ∈ [a1, ak, al, ar, ac, au, ah] ∨ h0.size ≤ x)) (Or.inl (List.mem_of_getElem? (i := 4) rfl)) (allS (P := (fun x => x ∈ [a1, ak, al, ar, ac, au, ah] ∨ h0.size ≤ x)) (Or.inl (List.mem_of_getElem? (i := 5) rfl)) (allS (P := (fun x => x ∈ [a1, ak, al, ar, ac, au, ah] ∨ h0.size ≤ x)) (Or.inl (List.mem_of_getElem? (i := 6) rfl)) all0)))))))).wr W148 (Or.inl (List.mem_of_getElem? (i := 3) rfl))).trans K166 (allS (P := (fun x => x ∈ [a1, ak, al, ar, ac, au, ah] ∨ h0.size ≤ x)) (Or.inl (List.mem_of_getElem? (i := 0) rfl)) (allS (P := (fun x => x ∈ [a1, ak, al, ar, ac, au, ah] ∨ h0.size ≤ x)) (Or.inl (List.mem_of_getElem? (i := 2) rfl)) (allS (P := (fun x => x ∈ [a1, ak, al, ar, ac, au, ah] ∨ h0.size ≤ x)) (Or.inl (List.mem_of_getElem? (i := 3) rfl)) (allS (P := (fun x => x ∈ [a1, ak, al, ar, ac, au, ah] ∨ h0.size ≤ x)) (Or.inl (List.mem_of_getElem? (i := 5) rfl)) (allS (P := (fun x => x ∈ [a1, ak, al, ar, ac, au, ah] ∨ h0.size ≤ x)) (Or.inl (List.mem_of_getElem? (i := 6) rfl)) all0)))))), R166_1, R166_2, R166_3, R166_4, R166_5, R166_6, R166_7, R166_8, R166_9, R166_10, R166_11, R166_12, f170, R166_13, R166_14, f176, R166_15, R166_16, R147_19, R166_17, R166_18, R166_19, (by simp only [own_del3, own_delS, own_il, own_ir, own_fin, own_fw, eq_false hc26_105, eq_true hc57_143, R147_23, if_true, if_false])⟩
    · skip
      obtain ⟨T177, X177, e177, st177⟩ := getF X139 hx hZ hown (host := "") (Or.inl (own_w hw 18 rfl)) Via.refl e139 H4 (g := (mkF m 81 #[.val (.ref a1), .val (.int p2), .val (.double xv), .second] [(.ref a1)])) rfl rfl (hb hby d13_81)
      have pre179 : ∀ t, Steps p.tables e below (T177.setTop (mkF m 87 #[.val (.ref a1), .val (.int p2), .val (.double xv), .second] [(.int (1 : Int32)), (.int (own_g lC p2))])) t → Steps p.tables e below (s₁.setTop (entryFrame m #[(.ref a1), (.int p2), (.double xv)] 4)) t := fun t kt => by
        refine pre142 t ?_
        show Steps p.tables e below (T139.setTop (mkF m 57 #[.val (.ref a1), .val (.int p2), .val (.double xv), .second] [(.int (cc xi (own_gk kK p2)))])) _
        refine XS.ifYes X139.here hx rfl (pc0 := 57) (pc' := 80) rfl (hb hby d13_57) rfl ((if0 _ _).trans (flt (hc57_143 : ¬ ((0 : Int32) < (cc xi (own_gk kK p2))))).2.2.2) (by decide) (by decide) ?_
        refine XS.aloadN X139.here hx rfl (hb hby d13_80) rfl rfl ?_
        refine st177 _ ?_
        refine XS.iloadN X177.here hx rfl (hb hby d13_84) rfl ?_
        show Steps p.tables e below (T177.setTop (mkF m 85 #[.val (.ref a1), .val (.int p2), .val (.double xv), .second] [(.int p2), (.ref ac)])) _
        refine own_ia X177 hx hZ e177 H13 H35 (hb hby d13_85) ?_
        show Steps p.tables e below (T177.setTop (mkF m 86 #[.val (.ref a1), .val (.int p2), .val (.double xv), .second] [(.int (own_g lC p2))])) _
        refine XS.iconst X177.here hx rfl (hb hby d13_86) ?_
        show Steps p.tables e below (T177.setTop (mkF m 87 #[.val (.ref a1), .val (.int p2), .val (.double xv), .second] [(.int (1 : Int32)), (.int (own_g lC p2))])) _
        exact kt
      by_cases hc87_180 : (1 : Int32) < (own_g lC p2)
      · skip
        obtain ⟨T181, X181, e181, st181⟩ := getF X177 hx hZ hown (host := "") (Or.inl (own_w hw 18 rfl)) Via.refl e177 H4 (g := (mkF m 91 #[.val (.ref a1), .val (.int p2), .val (.double xv), .second] [(.ref a1)])) rfl rfl (hb hby d13_91)
        obtain ⟨cl183, Ar183, qc183, S183, M183, Hh183, G183⟩ := id H13
        have hin183 : ¬ (p2 < 0 ∨ cl183.slots.size ≤ (p2).toNatClampNeg) := inb_of S183 H35
        obtain ⟨T183, h183, X183, e183, W183, st183⟩ := stI X181 hx hZ e181 Ar183 (j := p2) hin183 (g := (mkF m 99 #[.val (.ref a1), .val (.int p2), .val (.double xv), .second] [(.int ((own_g lC p2) - (1 : Int32))), (.int p2), (.ref ac)])) rfl rfl (hb hby d13_99)
        have V183 : Arv Z h183 ac kc .int (16 : Int32) (own_v (own_p lC p2 ((own_g lC p2) - (1 : Int32)))) (.int (0 : Int32)) := by rw [own_vp]; exact Arv.set Ar183 qc183 S183 M183 Hh183 G183 rfl W183 p2.toNatClampNeg (rfl) (own_vlt H35 H32)
        have N183 := Fr.snoc X183 N0 H21
        have f184 := (H0.wr W183)
        have ne185 : a1 ≠ ac := Exa.neArv f184 V183 (own_w hw 2 rfl)
        have f186 := (H1.other W183 (Or.inl ne185))
        have f187 := (H2.other W183 (Or.inl ne185))
        have f188 := (H3.other W183 (Or.inl ne185))
        have f189 := (H4.other W183 (Or.inl ne185))
        have f190 := (H5.other W183 (Or.inl ne185))
        have f191 := (H6.other W183 (Or.inl ne185))
        have f192 := (H7.other W183 (Or.inl ne185))
        have f193 := (H8.other W183 (Or.inl ne185))
        have f194 := (H9.other W183 (Or.inl ne185))
        have f195 := (H10.other W183 (Or.inl ne185))
        have f196 := (H11.other W183 H25)
        have f197 := (H12.other W183 H26)
        have f198 := (H14.other W183 (Ne.symm H29))
        have ne199 : ah ≠ ac := own_ne_arv H15 H13 (by decide)
        have f200 := (H15.other W183 ne199)
        have z202 : n0 ≤ h183.size := (Nat.le_trans Z0 (Nat.le_of_eq W183.size.symm))
        obtain ⟨cq201, q201, q201'⟩ := f184.cell
        obtain ⟨_, _, ⟨T201, L201, k201, n201⟩, -, X201, ⟨Lc201, hQ201, l201, y201, z201⟩, st201⟩ := X183.privateBack hx (y := (⟨"com/example/prequential/prequential/measure/ScoreMultiset", "settle", "(II)I"⟩ : MethodName)) hown (mvT hZ (own_w hw 46 rfl)) (mvT hZ (own_w hw 47 rfl)) (mvT hZ (own_selp (by decide) (own_w hw 2 rfl) (own_w hw 48 rfl) (own_w hw 47 rfl))) (Cond.privateMethod_at (mvP hZ (own_w hw 48 rfl) (args := #[]))) (mvT hZ (own_w hw 49 rfl)) (by decide) (backOf (W := 0) (rm6 l Z a0 hw [] a1 p2 (-1 : Int32) ak ro u_ (0 : Int32) rs al kl lL ar kr lR ac kc (own_p lC p2 ((own_g lC p2) - (1 : Int32))) au ku lT ah kh lH h183 n0 z202 f184 f186 f187 f188 f189 f190 f191 f192 f193 f194 f195 f196 f197 V183 f198 f200 H19 H20 H22 H23 H17 H24 H25 H26 H27 H28 H29 H35 H30 H31 (own_16p H32) H33 H34) hZ (own_w hw 49 rfl) (own_w hw 3 rfl) (by decide) (by decide)) (g := (mkF m 112 #[.val (.ref a1), .val (.int p2), .val (.double xv), .second] [(.int (-1 : Int32)), (.int p2), (.ref a1)])) rfl (by rw [hml]; rfl) (Steps.refl _) (a := a1) (by rw [e183]; exact q201) q201' (argsL := [(.int p2), (.int (-1 : Int32))]) (rest := []) (lenOf pd_0 rfl) rfl (by show 2 * 0 + _ ≤ _; exact Nat.le_of_eq rfl) (hb hby d13_112) (fun _ _ => ⟨rfl, e183, (by decide : 0 + 0 ≤ _), (by decide : 0 + 0 ≤ _)⟩)
        dsimp only [Pt.U, Pt.locs, Pt.cells, Pt.slots] at X201 l201 y201 z201 st201 hQ201
        subst l201 y201 z201
        obtain ⟨rfl, Nq201, K201, R201_1, R201_2, R201_3, R201_4, R201_5, R201_6, R201_7, R201_8, R201_9, R201_10, R201_11, R201_12, R201_13, R201_14, R201_15, R201_16, R201_17, R201_18, R201_19⟩ := hQ201
        have N201 := Fr.app N183 Nq201
        have f203 := (V183.keep K201 (ninS (Ne.symm ne185) (ninS (Ne.symm H25) (ninS (Ne.symm H26) (ninS H29 (ninS (Ne.symm ne199) nin0))))))
        have ne204 : ac ≠ ak := own_ne_kv H13 H16 (by decide)
        have ne205 : ah ≠ ak := own_ne_kv H15 H16 (by decide)
        have ne206 : au ≠ ak := own_ne_kv H14 H16 (by decide)
        have ne207 : ar ≠ ak := own_ne_kv H12 H16 (by decide)
        have ne208 : al ≠ ak := own_ne_kv H11 H16 (by decide)
        have ne209 : a1 ≠ ak := own_ne_kar H0 (own_w hw 2 rfl) H16
        have f210 := ((H16.other W183 (Ne.symm ne204)).keep K201 (ninS (Ne.symm ne209) (ninS (Ne.symm ne208) (ninS (Ne.symm ne207) (ninS (Ne.symm ne206) (ninS (Ne.symm ne205) nin0))))))
        obtain ⟨fs, hr, hrun, hended, hW, hsame⟩ := X201.leave (v := some (.int (own_set lL lR (own_p lC p2 ((own_g lC p2) - (1 : Int32))) lT lH rs p2 (-1 : Int32)).2)) (fun h => by rw [Bd.returns] at h; cases h) (BodyLoose.notSynchronized Bd)
        refine ⟨_, _, pre179 _ ?_, hrun, hended, _, _, rfl, ?_, ⟨_, rfl⟩, hW, hsame.mono (by decide) (by decide)⟩
        · skip
          show Steps p.tables e below (T177.setTop (mkF m 87 #[.val (.ref a1), .val (.int p2), .val (.double xv), .second] [(.int (1 : Int32)), (.int (own_g lC p2))])) _
          refine XS.icmpNo X177.here hx rfl (hb hby d13_87) rfl (tlt (hc87_180 : (1 : Int32) < (own_g lC p2))).2.2.2 ?_
          refine XS.aloadN X177.here hx rfl (hb hby d13_90) rfl rfl ?_
          refine st181 _ ?_
          refine XS.iloadN X181.here hx rfl (hb hby d13_94) rfl ?_
          show Steps p.tables e below (T181.setTop (mkF m 95 #[.val (.ref a1), .val (.int p2), .val (.double xv), .second] [(.int p2), (.ref ac)])) _
          refine XT.dup2 X181.here hx rfl (hb hby d13_95) rfl rfl rfl ?_
          show Steps p.tables e below (T181.setTop (mkF m 96 #[.val (.ref a1), .val (.int p2), .val (.double xv), .second] [(.int p2), (.ref ac), (.int p2), (.ref ac)])) _
          refine own_ia X181 hx hZ e181 H13 H35 (hb hby d13_96) ?_
          show Steps p.tables e below (T181.setTop (mkF m 97 #[.val (.ref a1), .val (.int p2), .val (.double xv), .second] [(.int (own_g lC p2)), (.int p2), (.ref ac)])) _
          refine XS.iconst X181.here hx rfl (hb hby d13_97) ?_
          refine XS.isub X181.here hx rfl (hb hby d13_98) rfl ?_
          refine st183 _ ?_
          refine XS.goto X183.here hx rfl (pc0 := 100) (pc' := 109) rfl (hb hby d13_100) (by decide) (by decide) ?_
          refine XS.aloadN X183.here hx rfl (hb hby d13_109) rfl rfl ?_
          refine XS.iloadN X183.here hx rfl (hb hby d13_110) rfl ?_
          refine XS.iconst X183.here hx rfl (hb hby d13_111) ?_
          show Steps p.tables e below (T183.setTop (mkF m 112 #[.val (.ref a1), .val (.int p2), .val (.double xv), .second] [(.int (-1 : Int32)), (.int p2), (.ref a1)])) _
          refine st201.trans ?_
          show Steps p.tables e below (T201.setTop (mkF m 115 #[.val (.ref a1), .val (.int p2), .val (.double xv), .second] [(.int (own_set lL lR (own_p lC p2 ((own_g lC p2) - (1 : Int32))) lT lH rs p2 (-1 : Int32)).2)])) _
          exact retI X201 hx Bd.returns (hb hby d13_115) hr
        · show Q13d3 Z a1 p2 xv ak ro u_ rs al kl lL ar kr lR ac kc lC au ku lT ah kh lH kk kK val cc xi h0 n0 _ T201.heap _
          exact ⟨((own_set lL lR (own_p lC p2 ((own_g lC p2) - (1 : Int32))) lT lH rs p2 (-1 : Int32)).1.1.1), ((own_set lL lR (own_p lC p2 ((own_g lC p2) - (1 : Int32))) lT lH rs p2 (-1 : Int32)).1.1.2.1), (own_p lC p2 ((own_g lC p2) - (1 : Int32))), ((own_set lL lR (own_p lC p2 ((own_g lC p2) - (1 : Int32))) lT lH rs p2 (-1 : Int32)).1.1.2.2.1), ((own_set lL lR (own_p lC p2 ((own_g lC p2) - (1 : Int32))) lT lH rs p2 (-1 : Int32)).1.1.2.2.2), kK, u_, (0 : Int32), ((own_set lL lR (own_p lC p2 ((own_g lC p2) - (1 : Int32))) lT lH rs p2 (-1 : Int32)).1.2), ((own_set lL lR (own_p lC p2 ((own_g lC p2) - (1 : Int32))) lT lH rs p2 (-1 : Int32)).2), rfl, N201, (((Keep.refl h0 [a1, ak, al, ar, ac, au, ah]).wr W183 (Or.inl (List.mem_of_getElem? (i := 4) rfl))).trans K201 (allS (P := (fun x => x ∈ [a1, ak, al, ar, ac, au, ah] ∨ h0.size ≤ x)) (Or.inl (List.mem_of_getElem? (i := 0) rfl)) (allS (P := (fun x => x ∈ [a1, ak, al, ar, ac, au, ah] ∨ h0.size ≤ x)) (Or.inl (List.mem_of_getElem? (i := 2) rfl)) (allS (P := (fun x => x ∈ [a1, ak, al, ar, ac, au, ah] ∨ h0.size ≤ x)) (Or.inl (List.mem_of_getElem? (i := 3) rfl)) (allS (P := (fun x => x ∈ [a1, ak, al, ar, ac, au, ah] ∨ h0.size ≤ x)) (Or.inl (List.mem_of_getElem? (i := 5) rfl)) (allS (P := (fun x => x ∈ [a1, ak, al, ar, ac, au, ah] ∨ h0.size ≤ x)) (Or.inl (List.mem_of_getElem? (i := 6) rfl)) all0)))))), R201_1, R201_2, R201_3, R201_4, R201_5, R201_6, R201_7, R201_8, R201_9, R201_10, R201_11, R201_12, f203, R201_13, R201_14, f210, R201_15, R201_16, (own_16p H32), R201_17, R201_18, R201_19, (by simp only [own_del3, own_delS, own_il, own_ir, own_fin, own_fw, eq_false hc26_105, eq_false hc57_143, eq_true hc87_180, if_true, if_false])⟩
      · skip
        obtain ⟨cq211, q211, q211'⟩ := H0.cell
        obtain ⟨_, _, ⟨T211, L211, k211, n211⟩, -, X211, ⟨Lc211, hQ211, l211, y211, z211⟩, st211⟩ := X177.privateBack hx (y := (⟨"com/example/prequential/prequential/measure/ScoreMultiset", "unlink", "(I)I"⟩ : MethodName)) hown (mvT hZ (own_w hw 88 rfl)) (mvT hZ (own_w hw 89 rfl)) (mvT hZ (own_selp (by decide) (own_w hw 2 rfl) (own_w hw 90 rfl) (own_w hw 89 rfl))) (Cond.privateMethod_at (mvP hZ (own_w hw 90 rfl) (args := #[]))) (mvT hZ (own_w hw 91 rfl)) (by decide) (backOf (W := 0) (rm16 l Z a0 hw [] a1 p2 ak ro u_ rs al kl lL ar kr lR ac kc lC au ku lT ah kh lH kk kK val h0 n0 Z0 H0 H1 H2 H3 H4 H5 H6 H7 H8 H9 H10 H11 H12 H13 H14 H15 H16 H17 H18 H19 H20 H21 H22 H23 H24 H25 H26 H27 H28 H29 H30 H31 H32 H33 H34 H35 (own_hit_u H36 hc26_105 hc57_143 hc87_180)) hZ (own_w hw 91 rfl) (own_w hw 3 rfl) (by decide) (by decide)) (g := (mkF m 105 #[.val (.ref a1), .val (.int p2), .val (.double xv), .second] [(.int p2), (.ref a1)])) rfl (by rw [hml]; rfl) (Steps.refl _) (a := a1) (by rw [e177]; exact q211) q211' (argsL := [(.int p2)]) (rest := []) (lenOf pd_2 rfl) rfl (by show 2 * 0 + _ ≤ _; exact Nat.le_of_eq rfl) (hb hby d13_105) (fun _ _ => ⟨rfl, e177, (by decide : 0 + 0 ≤ _), (by decide : 0 + 0 ≤ _)⟩)
        dsimp only [Pt.U, Pt.locs, Pt.cells, Pt.slots] at X211 l211 y211 z211 st211 hQ211
        subst l211 y211 z211
        obtain ⟨lL2211, lR2211, lC2211, lT2211, lH2211, kK2211, u2211, f2211, r2211, v2211, rfl, Nq211, K211, R211_1, R211_2, R211_3, R211_4, R211_5, R211_6, R211_7, R211_8, R211_9, R211_10, R211_11, R211_12, R211_13, R211_14, R211_15, R211_16, R211_17, R211_18, R211_19, R211_20, R211_21, R211_22, R211_23⟩ := hQ211
        have N211 := Fr.app N0 Nq211
        obtain ⟨fs, hr, hrun, hended, hW, hsame⟩ := X211.leave (v := some (.int v2211)) (fun h => by rw [Bd.returns] at h; cases h) (BodyLoose.notSynchronized Bd)
        refine ⟨_, _, pre179 _ ?_, hrun, hended, _, _, rfl, ?_, ⟨_, rfl⟩, hW, hsame.mono (by decide) (by decide)⟩
        · skip
          show Steps p.tables e below (T177.setTop (mkF m 87 #[.val (.ref a1), .val (.int p2), .val (.double xv), .second] [(.int (1 : Int32)), (.int (own_g lC p2))])) _
          refine XS.icmpYes X177.here hx rfl (pc0 := 87) (pc' := 103) rfl (hb hby d13_87) rfl (flt (hc87_180 : ¬ ((1 : Int32) < (own_g lC p2)))).2.2.2 (by decide) (by decide) ?_
          refine XS.aloadN X177.here hx rfl (hb hby d13_103) rfl rfl ?_
          refine XS.iloadN X177.here hx rfl (hb hby d13_104) rfl ?_
          show Steps p.tables e below (T177.setTop (mkF m 105 #[.val (.ref a1), .val (.int p2), .val (.double xv), .second] [(.int p2), (.ref a1)])) _
          refine st211.trans ?_
          show Steps p.tables e below (T211.setTop (mkF m 108 #[.val (.ref a1), .val (.int p2), .val (.double xv), .second] [(.int v2211)])) _
          exact retI X211 hx Bd.returns (hb hby d13_108) hr
        · show Q13d3 Z a1 p2 xv ak ro u_ rs al kl lL ar kr lR ac kc lC au ku lT ah kh lH kk kK val cc xi h0 n0 _ T211.heap _
          exact ⟨lL2211, lR2211, lC2211, lT2211, lH2211, kK2211, u2211, f2211, r2211, v2211, rfl, N211, ((Keep.refl h0 [a1, ak, al, ar, ac, au, ah]).trans K211 (allS (P := (fun x => x ∈ [a1, ak, al, ar, ac, au, ah] ∨ h0.size ≤ x)) (Or.inl (List.mem_of_getElem? (i := 0) rfl)) (allS (P := (fun x => x ∈ [a1, ak, al, ar, ac, au, ah] ∨ h0.size ≤ x)) (Or.inl (List.mem_of_getElem? (i := 1) rfl)) (allS (P := (fun x => x ∈ [a1, ak, al, ar, ac, au, ah] ∨ h0.size ≤ x)) (Or.inl (List.mem_of_getElem? (i := 2) rfl)) (allS (P := (fun x => x ∈ [a1, ak, al, ar, ac, au, ah] ∨ h0.size ≤ x)) (Or.inl (List.mem_of_getElem? (i := 3) rfl)) (allS (P := (fun x => x ∈ [a1, ak, al, ar, ac, au, ah] ∨ h0.size ≤ x)) (Or.inl (List.mem_of_getElem? (i := 4) rfl)) (allS (P := (fun x => x ∈ [a1, ak, al, ar, ac, au, ah] ∨ h0.size ≤ x)) (Or.inl (List.mem_of_getElem? (i := 5) rfl)) (allS (P := (fun x => x ∈ [a1, ak, al, ar, ac, au, ah] ∨ h0.size ≤ x)) (Or.inl (List.mem_of_getElem? (i := 6) rfl)) all0)))))))), R211_1, R211_2, R211_3, R211_4, R211_5, R211_6, R211_7, R211_8, R211_9, R211_10, R211_11, R211_12, R211_13, R211_14, R211_15, R211_16, R211_17, R211_18, R211_19, R211_20, R211_21, R211_22, (by simp only [own_del3, own_delS, own_il, own_ir, own_fin, own_fw, eq_false hc26_105, eq_false hc57_143, eq_false hc87_180, R211_23, if_true, if_false])⟩
abbrev own_e12 (k : Nat) (i : Instr) (l : Nat) : Prop := decode prog_108_method_4_code k = .ok (i, l)
theorem d12_0 : own_e12 0 (.aload_n 0) 1 := by decide +kernel
theorem d12_1 : own_e12 1 (.iconst 0) 1 := by decide +kernel
theorem d12_2 : own_e12 2 (.putfield 40) 3 := by decide +kernel
theorem d12_5 : own_e12 5 (.aload_n 0) 1 := by decide +kernel
theorem d12_6 : own_e12 6 (.aload_n 0) 1 := by decide +kernel
theorem d12_7 : own_e12 7 (.aload_n 0) 1 := by decide +kernel
theorem d12_8 : own_e12 8 (.getfield 30) 3 := by decide +kernel
theorem d12_11 : own_e12 11 (.dload_n 1) 1 := by decide +kernel
theorem d12_12 : own_e12 12 (.invokevirtual 48) 3 := by decide +kernel
theorem d12_15 : own_e12 15 (.putfield 30) 3 := by decide +kernel
theorem d12_18 : own_e12 18 .return_ 1 := by decide +kernel
theorem ef_12 (m : MethodId) (a1 : Addr) (xv : UInt64) : entryFrame m #[(.ref a1), (.double xv)] 3 = mkF m 0 #[.val (.ref a1), .val (.double xv), .second] [] := by first | (simp [entryFrame, mkF, argsToLocals, Value.category]; done) | rfl
def Q12 (Z : State) (a1 : Addr) (xv : UInt64) (ak : Addr) (ro : Int32) (u_ : Int32) (rs : Int32) (al : Addr) (kl : ClassId) (lL : List Int32) (ar : Addr) (kr : ClassId) (lR : List Int32) (ac : Addr) (kc : ClassId) (lC : List Int32) (au : Addr) (ku : ClassId) (lT : List Int32) (ah : Addr) (kh : ClassId) (lH : List Int32) (kk : ClassId) (kK : List Nat) (val : Nat → UInt64) (cc : Nat → Nat → Int32) (xi : Nat) (h0 : Heap) (n0 : Nat) (v : Option Value) (h : Heap) (L : List Loc) : Prop := ∃ (lL2 : List Int32) (lR2 : List Int32) (lC2 : List Int32) (lT2 : List Int32) (lH2 : List Int32) (kK2 : List Nat) (u2 : Int32) (f2 : Int32) (r2 : Int32) (v2 : Int32), v = none ∧ Fr n0 L ∧ Keep h0 h [a1, ak, al, ar, ac, au, ah] ∧ Fld Z h a1 "com/example/prequential/prequential/measure/ScoreMultiset" "key" "[D" (.ref ak) ∧ Fld Z h a1 "com/example/prequential/prequential/measure/ScoreMultiset" "left" "[I" (.ref al) ∧ Fld Z h a1 "com/example/prequential/prequential/measure/ScoreMultiset" "right" "[I" (.ref ar) ∧ Fld Z h a1 "com/example/prequential/prequential/measure/ScoreMultiset" "count" "[I" (.ref ac) ∧ Fld Z h a1 "com/example/prequential/prequential/measure/ScoreMultiset" "total" "[I" (.ref au) ∧ Fld Z h a1 "com/example/prequential/prequential/measure/ScoreMultiset" "height" "[B" (.ref ah) ∧ Fld Z h a1 "com/example/prequential/prequential/measure/ScoreMultiset" "root" "I" (.int v2) ∧ Fld Z h a1 "com/example/prequential/prequential/measure/ScoreMultiset" "unused" "I" (.int u2) ∧ Fld Z h a1 "com/example/prequential/prequential/measure/ScoreMultiset" "freed" "I" (.int f2) ∧ Fld Z h a1 "com/example/prequential/prequential/measure/ScoreMultiset" "reshaped" "Z" (.int r2) ∧ Arv Z h al kl .int (16 : Int32) (own_v lL2) (.int (0 : Int32)) ∧ Arv Z h ar kr .int (16 : Int32) (own_v lR2) (.int (0 : Int32)) ∧ Arv Z h ac kc .int (16 : Int32) (own_v lC2) (.int (0 : Int32)) ∧ Arv Z h au ku .int (16 : Int32) (own_v lT2) (.int (0 : Int32)) ∧ Arv Z h ah kh .byte (16 : Int32) (own_v lH2) (.int (0 : Int32)) ∧ own_Kar Z h ak kk kK2 val ∧ own_rng lL2 ∧ own_rng lR2 ∧ lC2.length = 16 ∧ lT2.length = 16 ∧ lH2.length = 16 ∧ own_in v2 ∧ own_del3 cc xi (lL, lR, lC, lT, lH, kK, u_, (0 : Int32), (0 : Int32)) ro = ((lL2, lR2, lC2, lT2, lH2, kK2, u2, f2, r2), v2)
set_option maxRecDepth 65536 in
set_option maxHeartbeats 40000000 in
theorem rm12 (l : Launch) (Z : State) (a0 : Array Value) (hw : ∀ d ∈ tables_1, d.before a0 Z = true) (ws : List Jvm.Cond) (a1 : Addr) (xv : UInt64) (ak : Addr) (ro : Int32) (u_ : Int32) (rs : Int32) (al : Addr) (kl : ClassId) (lL : List Int32) (ar : Addr) (kr : ClassId) (lR : List Int32) (ac : Addr) (kc : ClassId) (lC : List Int32) (au : Addr) (ku : ClassId) (lT : List Int32) (ah : Addr) (kh : ClassId) (lH : List Int32) (kk : ClassId) (kK : List Nat) (val : Nat → UInt64) (cc : Nat → Nat → Int32) (xi : Nat) (h0 : Heap) (n0 : Nat) (Z0 : n0 ≤ h0.size) (H0 : Exa Z h0 a1 "com/example/prequential/prequential/measure/ScoreMultiset") (H1 : Fld Z h0 a1 "com/example/prequential/prequential/measure/ScoreMultiset" "key" "[D" (.ref ak)) (H2 : Fld Z h0 a1 "com/example/prequential/prequential/measure/ScoreMultiset" "left" "[I" (.ref al)) (H3 : Fld Z h0 a1 "com/example/prequential/prequential/measure/ScoreMultiset" "right" "[I" (.ref ar)) (H4 : Fld Z h0 a1 "com/example/prequential/prequential/measure/ScoreMultiset" "count" "[I" (.ref ac)) (H5 : Fld Z h0 a1 "com/example/prequential/prequential/measure/ScoreMultiset" "total" "[I" (.ref au)) (H6 : Fld Z h0 a1 "com/example/prequential/prequential/measure/ScoreMultiset" "height" "[B" (.ref ah)) (H7 : Fld Z h0 a1 "com/example/prequential/prequential/measure/ScoreMultiset" "root" "I" (.int ro)) (H8 : Fld Z h0 a1 "com/example/prequential/prequential/measure/ScoreMultiset" "unused" "I" (.int u_)) (H9 : Fld Z h0 a1 "com/example/prequential/prequential/measure/ScoreMultiset" "freed" "I" (.int (0 : Int32))) (H10 : Fld Z h0 a1 "com/example/prequential/prequential/measure/ScoreMultiset" "reshaped" "Z" (.int rs)) (H11 : Arv Z h0 al kl .int (16 : Int32) (own_v lL) (.int (0 : Int32))) (H12 : Arv Z h0 ar kr .int (16 : Int32) (own_v lR) (.int (0 : Int32))) (H13 : Arv Z h0 ac kc .int (16 : Int32) (own_v lC) (.int (0 : Int32))) (H14 : Arv Z h0 au ku .int (16 : Int32) (own_v lT) (.int (0 : Int32))) (H15 : Arv Z h0 ah kh .byte (16 : Int32) (own_v lH) (.int (0 : Int32))) (H16 : own_Kar Z h0 ak kk kK val) (H17 : n0 ≤ a1) (H18 : n0 ≤ ak) (H19 : n0 ≤ al) (H20 : n0 ≤ ar) (H21 : n0 ≤ ac) (H22 : n0 ≤ au) (H23 : n0 ≤ ah) (H24 : al ≠ ar) (H25 : al ≠ ac) (H26 : ar ≠ ac) (H27 : al ≠ au) (H28 : ar ≠ au) (H29 : ac ≠ au) (H30 : own_rng lL) (H31 : own_rng lR) (H32 : lC.length = 16) (H33 : lT.length = 16) (H34 : lH.length = 16) (H35 : own_in ro) (H36 : own_hit3 (cc xi) kK lL lR lC ro = true) (H37 : own_cv cc val) (H38 : xi < 5) (H39 : xv = val xi) :
    own_MF l (⟨"com/example/prequential/prequential/measure/ScoreMultiset", "remove", "(D)V"⟩ : MethodName) (Jvm.Cond.code (⟨"com/example/prequential/prequential/measure/ScoreMultiset", "remove", "(D)V"⟩ : MethodName) prog_108_method_4_code 3 none :: ws) ({ frames := 10, cells := 0, slots := 0, locals := 156 } : Room) #[(.ref a1), (.double xv)] Z h0 (Q12 Z a1 xv ak ro u_ rs al kl lL ar kr lR ac kc lC au ku lT ah kh lH kk kK val cc xi h0 n0) := by
  refine MetFree.of_bodySF (plainFor_of_name pn_com_example_prequential_prequential_measure_ScoreMultiset) hisR ?_
  intro p e s m args below meth c s₁ Bd hml0 hP hK
  obtain ⟨rfl, hZ, hh⟩ := hP
  have hx := Bd.exec
  have hby := Bd.bytes
  have hml : c.maxLocals = 3 := hml0
  have hown : s.vm.findClass "com/example/prequential/prequential/measure/ScoreMultiset" = some m.cls := findClass_of_methodNamed Bd.named
  have hnm := (name_of_methodNamed Bd.named Bd.method).1
  have X0 : Stand p l e ({ frames := 10, cells := 0, slots := 0, locals := 156 } : Room) s m #[(.ref a1), (.double xv)] below meth c s₁ [] 0 0 := Stand.of_body Bd
  have e0 : s₁.heap = h0 := by rw [← hh, Bd.state]; rfl
  have N0 := Fr.nil n0
  have pre0 : ∀ t, Steps p.tables e below (s₁.setTop (mkF m 0 #[.val (.ref a1), .val (.double xv), .second] [])) t → Steps p.tables e below (s₁.setTop (entryFrame m #[(.ref a1), (.double xv)] 3)) t := fun t k => castTop (ef_12 m a1 xv) k
  obtain ⟨T101, h101, X101, e101, W101, st101⟩ := putFN X0 hx hZ hown (own_w hw 36 rfl) Via.refl e0 H10 H0 (Or.inl (own_w hw 37 rfl)) (own_w hw 2 rfl) (ty := .boolean) (v' := (.int (nar .boolean (0 : Int32)))) (by decide) rfl (fits_nar_bool _) (g := (mkF m 2 #[.val (.ref a1), .val (.double xv), .second] [(.int (0 : Int32)), (.ref a1)])) rfl rfl (hb hby d12_2)
  rw [show nar .boolean (0 : Int32) = (0 : Int32) from by decide] at W101
  have Fw101 := H10.same W101
  have N101 := Fr.snoc X101 N0 H17
  have f102 := (H7.other W101 (Or.inr (slot_ne (Or.inl (own_w hw 26 rfl)) (Or.inl (own_w hw 37 rfl)) (by decide) (t := .int) (t' := .boolean) (by decide) (by decide))))
  obtain ⟨T103, X103, e103, st103⟩ := getF X101 hx hZ hown (host := "") (Or.inl (own_w hw 25 rfl)) Via.refl e101 f102 (g := (mkF m 8 #[.val (.ref a1), .val (.double xv), .second] [(.ref a1), (.ref a1), (.ref a1)])) rfl rfl (hb hby d12_8)
  have f104 := (H0.wr W101)
  have f105 := (H1.other W101 (Or.inr (slot_ne (Or.inl (own_w hw 12 rfl)) (Or.inl (own_w hw 37 rfl)) (by decide) (t := (.array .double)) (t' := .boolean) (by decide) (by decide))))
  have f106 := (H2.other W101 (Or.inr (slot_ne (Or.inl (own_w hw 15 rfl)) (Or.inl (own_w hw 37 rfl)) (by decide) (t := (.array .int)) (t' := .boolean) (by decide) (by decide))))
  have f107 := (H3.other W101 (Or.inr (slot_ne (Or.inl (own_w hw 17 rfl)) (Or.inl (own_w hw 37 rfl)) (by decide) (t := (.array .int)) (t' := .boolean) (by decide) (by decide))))
  have f108 := (H4.other W101 (Or.inr (slot_ne (Or.inl (own_w hw 19 rfl)) (Or.inl (own_w hw 37 rfl)) (by decide) (t := (.array .int)) (t' := .boolean) (by decide) (by decide))))
  have f109 := (H5.other W101 (Or.inr (slot_ne (Or.inl (own_w hw 21 rfl)) (Or.inl (own_w hw 37 rfl)) (by decide) (t := (.array .int)) (t' := .boolean) (by decide) (by decide))))
  have f110 := (H6.other W101 (Or.inr (slot_ne (Or.inl (own_w hw 24 rfl)) (Or.inl (own_w hw 37 rfl)) (by decide) (t := (.array .byte)) (t' := .boolean) (by decide) (by decide))))
  have f111 := (H8.other W101 (Or.inr (slot_ne (Or.inl (own_w hw 28 rfl)) (Or.inl (own_w hw 37 rfl)) (by decide) (t := .int) (t' := .boolean) (by decide) (by decide))))
  have f112 := (H9.other W101 (Or.inr (slot_ne (Or.inl (own_w hw 30 rfl)) (Or.inl (own_w hw 37 rfl)) (by decide) (t := .int) (t' := .boolean) (by decide) (by decide))))
  have ne113 : a1 ≠ al := Exa.neArv H0 H11 (own_w hw 2 rfl)
  have f114 := (H11.other W101 (Ne.symm ne113))
  have ne115 : a1 ≠ ar := Exa.neArv H0 H12 (own_w hw 2 rfl)
  have f116 := (H12.other W101 (Ne.symm ne115))
  have ne117 : a1 ≠ ac := Exa.neArv H0 H13 (own_w hw 2 rfl)
  have f118 := (H13.other W101 (Ne.symm ne117))
  have ne119 : a1 ≠ au := Exa.neArv H0 H14 (own_w hw 2 rfl)
  have f120 := (H14.other W101 (Ne.symm ne119))
  have ne121 : a1 ≠ ah := Exa.neArv H0 H15 (own_w hw 2 rfl)
  have f122 := (H15.other W101 (Ne.symm ne121))
  have ne123 : a1 ≠ ak := own_ne_kar H0 (own_w hw 2 rfl) H16
  have f124 := (H16.other W101 (Ne.symm ne123))
  have z126 : n0 ≤ h101.size := (Nat.le_trans Z0 (Nat.le_of_eq W101.size.symm))
  obtain ⟨cq125, q125, q125'⟩ := f104.cell
  obtain ⟨_, _, ⟨T125, L125, k125, n125⟩, -, X125, ⟨Lc125, hQ125, l125, y125, z125⟩, st125⟩ := X103.privateBack hx (y := (⟨"com/example/prequential/prequential/measure/ScoreMultiset", "delete", "(ID)I"⟩ : MethodName)) hown (mvT hZ (own_w hw 75 rfl)) (mvT hZ (own_w hw 76 rfl)) (mvT hZ (own_selp (by decide) (own_w hw 2 rfl) (own_w hw 77 rfl) (own_w hw 76 rfl))) (Cond.privateMethod_at (mvP hZ (own_w hw 77 rfl) (args := #[]))) (mvT hZ (own_w hw 78 rfl)) (by decide) (backOf (W := 1) (rm13d3 l Z a0 hw [] a1 ro xv ak ro u_ (0 : Int32) al kl lL ar kr lR ac kc lC au ku lT ah kh lH kk kK val cc xi h101 n0 z126 f104 f105 f106 f107 f108 f109 f110 f102 f111 f112 Fw101 f114 f116 f118 f120 f122 f124 H17 H18 H19 H20 H21 H22 H23 H24 H25 H26 H27 H28 H29 H30 H31 H32 H33 H34 H35 H36 H37 H38 H39) hZ (own_w hw 78 rfl) (own_w hw 3 rfl) (by decide) (by decide)) (g := (mkF m 12 #[.val (.ref a1), .val (.double xv), .second] [(.double xv), (.int ro), (.ref a1), (.ref a1)])) rfl (by rw [hml]; rfl) (Steps.refl _) (a := a1) (by rw [e103]; exact q125) q125' (argsL := [(.int ro), (.double xv)]) (rest := [(.ref a1)]) (lenOf pd_4 rfl) rfl (by show 2 * 0 + _ ≤ _; exact Nat.le_of_eq rfl) (hb hby d12_12) (fun _ _ => ⟨rfl, e103, (by decide : 0 + 0 ≤ _), (by decide : 0 + 0 ≤ _)⟩)
  dsimp only [Pt.U, Pt.locs, Pt.cells, Pt.slots] at X125 l125 y125 z125 st125 hQ125
  subst l125 y125 z125
  obtain ⟨lL2125, lR2125, lC2125, lT2125, lH2125, kK2125, u2125, f2125, r2125, v2125, rfl, Nq125, K125, R125_1, R125_2, R125_3, R125_4, R125_5, R125_6, R125_7, R125_8, R125_9, R125_10, R125_11, R125_12, R125_13, R125_14, R125_15, R125_16, R125_17, R125_18, R125_19, R125_20, R125_21, R125_22, R125_23⟩ := hQ125
  have N125 := Fr.app N101 Nq125
  have f127 := (f104.keep K125)
  obtain ⟨T128, h128, X128, e128, W128, st128⟩ := putF X125 hx hZ hown (host := "") (Or.inl (own_w hw 25 rfl)) Via.refl rfl R125_7 f127 (Or.inl (own_w hw 26 rfl)) (own_w hw 2 rfl) (ty := .int) (by decide) rfl rfl (g := (mkF m 15 #[.val (.ref a1), .val (.double xv), .second] [(.int v2125), (.ref a1)])) rfl rfl (hb hby d12_15)
  have Fw128 := R125_7.same W128
  have N128 := Fr.snoc X128 N125 H17
  have f129 := (R125_1.other W128 (Or.inr (slot_ne (Or.inl (own_w hw 12 rfl)) (Or.inl (own_w hw 26 rfl)) (by decide) (t := (.array .double)) (t' := .int) (by decide) (by decide))))
  have f130 := (R125_2.other W128 (Or.inr (slot_ne (Or.inl (own_w hw 15 rfl)) (Or.inl (own_w hw 26 rfl)) (by decide) (t := (.array .int)) (t' := .int) (by decide) (by decide))))
  have f131 := (R125_3.other W128 (Or.inr (slot_ne (Or.inl (own_w hw 17 rfl)) (Or.inl (own_w hw 26 rfl)) (by decide) (t := (.array .int)) (t' := .int) (by decide) (by decide))))
  have f132 := (R125_4.other W128 (Or.inr (slot_ne (Or.inl (own_w hw 19 rfl)) (Or.inl (own_w hw 26 rfl)) (by decide) (t := (.array .int)) (t' := .int) (by decide) (by decide))))
  have f133 := (R125_5.other W128 (Or.inr (slot_ne (Or.inl (own_w hw 21 rfl)) (Or.inl (own_w hw 26 rfl)) (by decide) (t := (.array .int)) (t' := .int) (by decide) (by decide))))
  have f134 := (R125_6.other W128 (Or.inr (slot_ne (Or.inl (own_w hw 24 rfl)) (Or.inl (own_w hw 26 rfl)) (by decide) (t := (.array .byte)) (t' := .int) (by decide) (by decide))))
  have f135 := (R125_8.other W128 (Or.inr (slot_ne (Or.inl (own_w hw 28 rfl)) (Or.inl (own_w hw 26 rfl)) (by decide) (t := .int) (t' := .int) (by decide) (by decide))))
  have f136 := (R125_9.other W128 (Or.inr (slot_ne (Or.inl (own_w hw 30 rfl)) (Or.inl (own_w hw 26 rfl)) (by decide) (t := .int) (t' := .int) (by decide) (by decide))))
  have f137 := (R125_10.other W128 (Or.inr (slot_ne (Or.inl (own_w hw 37 rfl)) (Or.inl (own_w hw 26 rfl)) (by decide) (t := .boolean) (t' := .int) (by decide) (by decide))))
  have f138 := (R125_11.other W128 (Ne.symm ne113))
  have f139 := (R125_12.other W128 (Ne.symm ne115))
  have f140 := (R125_13.other W128 (Ne.symm ne117))
  have f141 := (R125_14.other W128 (Ne.symm ne119))
  have f142 := (R125_15.other W128 (Ne.symm ne121))
  have f143 := (R125_16.other W128 (Ne.symm ne123))
  obtain ⟨fs, hr, hrun, hended, hW, hsame⟩ := X128.leave (v := none) (fun _ => rfl) (BodyLoose.notSynchronized Bd)
  refine ⟨_, _, pre0 _ ?_, hrun, hended, _, _, rfl, ?_, ⟨_, rfl⟩, hW, hsame.mono (by decide) (by decide)⟩
  · skip
    show Steps p.tables e below (s₁.setTop (mkF m 0 #[.val (.ref a1), .val (.double xv), .second] [])) _
    refine XS.aloadN X0.here hx rfl (hb hby d12_0) rfl rfl ?_
    refine XS.iconst X0.here hx rfl (hb hby d12_1) ?_
    refine st101 _ ?_
    refine XS.aloadN X101.here hx rfl (hb hby d12_5) rfl rfl ?_
    refine XS.aloadN X101.here hx rfl (hb hby d12_6) rfl rfl ?_
    refine XS.aloadN X101.here hx rfl (hb hby d12_7) rfl rfl ?_
    refine st103 _ ?_
    refine XS.dloadN X103.here hx rfl (hb hby d12_11) rfl ?_
    show Steps p.tables e below (T103.setTop (mkF m 12 #[.val (.ref a1), .val (.double xv), .second] [(.double xv), (.int ro), (.ref a1), (.ref a1)])) _
    refine st125.trans ?_
    show Steps p.tables e below (T125.setTop (mkF m 15 #[.val (.ref a1), .val (.double xv), .second] [(.int v2125), (.ref a1)])) _
    refine st128 _ ?_
    show Steps p.tables e below (T128.setTop (mkF m 18 #[.val (.ref a1), .val (.double xv), .second] [])) _
    exact X128.returnOut hx Bd.returns (hb hby d12_18) hr
  · show Q12 Z a1 xv ak ro u_ rs al kl lL ar kr lR ac kc lC au ku lT ah kh lH kk kK val cc xi h0 n0 _ T128.heap _
    rw [e128]
    exact ⟨lL2125, lR2125, lC2125, lT2125, lH2125, kK2125, u2125, f2125, r2125, v2125, rfl, N128, ((((Keep.refl h0 [a1, ak, al, ar, ac, au, ah]).wr W101 (Or.inl (List.mem_of_getElem? (i := 0) rfl))).trans K125 (allS (P := (fun x => x ∈ [a1, ak, al, ar, ac, au, ah] ∨ h0.size ≤ x)) (Or.inl (List.mem_of_getElem? (i := 0) rfl)) (allS (P := (fun x => x ∈ [a1, ak, al, ar, ac, au, ah] ∨ h0.size ≤ x)) (Or.inl (List.mem_of_getElem? (i := 1) rfl)) (allS (P := (fun x => x ∈ [a1, ak, al, ar, ac, au, ah] ∨ h0.size ≤ x)) (Or.inl (List.mem_of_getElem? (i := 2) rfl)) (allS (P := (fun x => x ∈ [a1, ak, al, ar, ac, au, ah] ∨ h0.size ≤ x)) (Or.inl (List.mem_of_getElem? (i := 3) rfl)) (allS (P := (fun x => x ∈ [a1, ak, al, ar, ac, au, ah] ∨ h0.size ≤ x)) (Or.inl (List.mem_of_getElem? (i := 4) rfl)) (allS (P := (fun x => x ∈ [a1, ak, al, ar, ac, au, ah] ∨ h0.size ≤ x)) (Or.inl (List.mem_of_getElem? (i := 5) rfl)) (allS (P := (fun x => x ∈ [a1, ak, al, ar, ac, au, ah] ∨ h0.size ≤ x)) (Or.inl (List.mem_of_getElem? (i := 6) rfl)) all0)))))))).wr W128 (Or.inl (List.mem_of_getElem? (i := 0) rfl))), f129, f130, f131, f132, f133, f134, Fw128, f135, f136, f137, f138, f139, f140, f141, f142, f143, R125_17, R125_18, R125_19, R125_20, R125_21, R125_22, R125_23⟩
abbrev own_e15 (k : Nat) (i : Instr) (l : Nat) : Prop := decode prog_108_method_7_code k = .ok (i, l)
theorem d15_0 : own_e15 0 (.aload_n 0) 1 := by decide +kernel
theorem d15_1 : own_e15 1 (.getfield 30) 3 := by decide +kernel
theorem d15_4 : own_e15 4 (.istore_n 3) 1 := by decide +kernel
theorem d15_5 : own_e15 5 (.iload_n 3) 1 := by decide +kernel
theorem d15_6 : own_e15 6 (.ifCond .eq 52) 3 := by decide +kernel
theorem d15_58 : own_e15 58 (.iconst 0) 1 := by decide +kernel
theorem d15_59 : own_e15 59 .ireturn 1 := by decide +kernel
theorem d15_9 : own_e15 9 (.dload_n 1) 1 := by decide +kernel
theorem d15_10 : own_e15 10 (.aload_n 0) 1 := by decide +kernel
theorem d15_11 : own_e15 11 (.getfield 9) 3 := by decide +kernel
theorem d15_14 : own_e15 14 (.iload_n 3) 1 := by decide +kernel
theorem d15_15 : own_e15 15 .daload 1 := by decide +kernel
theorem d15_16 : own_e15 16 (.dcmp .g) 1 := by decide +kernel
theorem d15_17 : own_e15 17 (.ifCond .ge 13) 3 := by decide +kernel
theorem d15_20 : own_e15 20 (.aload_n 0) 1 := by decide +kernel
theorem d15_21 : own_e15 21 (.getfield 13) 3 := by decide +kernel
theorem d15_24 : own_e15 24 (.iload_n 3) 1 := by decide +kernel
theorem d15_25 : own_e15 25 .iaload 1 := by decide +kernel
theorem d15_26 : own_e15 26 (.istore_n 3) 1 := by decide +kernel
theorem d15_27 : own_e15 27 (.goto (-22)) 3 := by decide +kernel
theorem d15_30 : own_e15 30 (.dload_n 1) 1 := by decide +kernel
theorem d15_31 : own_e15 31 (.aload_n 0) 1 := by decide +kernel
theorem d15_32 : own_e15 32 (.getfield 9) 3 := by decide +kernel
theorem d15_35 : own_e15 35 (.iload_n 3) 1 := by decide +kernel
theorem d15_36 : own_e15 36 .daload 1 := by decide +kernel
theorem d15_37 : own_e15 37 (.dcmp .l) 1 := by decide +kernel
theorem d15_38 : own_e15 38 (.ifCond .le 13) 3 := by decide +kernel
theorem d15_41 : own_e15 41 (.aload_n 0) 1 := by decide +kernel
theorem d15_42 : own_e15 42 (.getfield 17) 3 := by decide +kernel
theorem d15_45 : own_e15 45 (.iload_n 3) 1 := by decide +kernel
theorem d15_46 : own_e15 46 .iaload 1 := by decide +kernel
theorem d15_47 : own_e15 47 (.istore_n 3) 1 := by decide +kernel
theorem d15_48 : own_e15 48 (.goto (-43)) 3 := by decide +kernel
theorem d15_51 : own_e15 51 (.aload_n 0) 1 := by decide +kernel
theorem d15_52 : own_e15 52 (.getfield 20) 3 := by decide +kernel
theorem d15_55 : own_e15 55 (.iload_n 3) 1 := by decide +kernel
theorem d15_56 : own_e15 56 .iaload 1 := by decide +kernel
theorem d15_57 : own_e15 57 .ireturn 1 := by decide +kernel
theorem ef_15 (m : MethodId) (a1 : Addr) (xv : UInt64) : entryFrame m #[(.ref a1), (.double xv)] 4 = mkF m 0 #[.val (.ref a1), .val (.double xv), .second, .unset] [] := by first | (simp [entryFrame, mkF, argsToLocals, Value.category]; done) | rfl
def Q15 (Z : State) (a1 : Addr) (xv : UInt64) (ak : Addr) (ro : Int32) (u_ : Int32) (fr : Int32) (rs : Int32) (al : Addr) (kl : ClassId) (lL : List Int32) (ar : Addr) (kr : ClassId) (lR : List Int32) (ac : Addr) (kc : ClassId) (lC : List Int32) (au : Addr) (ku : ClassId) (lT : List Int32) (ah : Addr) (kh : ClassId) (lH : List Int32) (kk : ClassId) (kK : List Nat) (val : Nat → UInt64) (cq : Nat → Int32) (h0 : Heap) (n0 : Nat) (v : Option Value) (h : Heap) (L : List Loc) : Prop := v = some (.int (own_cn3 cq (lL, lR, lC, lT, lH, kK, u_, fr, rs) ro)) ∧ Fr n0 L ∧ h = h0
set_option maxRecDepth 65536 in
set_option maxHeartbeats 40000000 in
theorem rm15 (l : Launch) (Z : State) (a0 : Array Value) (hw : ∀ d ∈ tables_1, d.before a0 Z = true) (ws : List Jvm.Cond) (a1 : Addr) (xv : UInt64) (ak : Addr) (ro : Int32) (u_ : Int32) (fr : Int32) (rs : Int32) (al : Addr) (kl : ClassId) (lL : List Int32) (ar : Addr) (kr : ClassId) (lR : List Int32) (ac : Addr) (kc : ClassId) (lC : List Int32) (au : Addr) (ku : ClassId) (lT : List Int32) (ah : Addr) (kh : ClassId) (lH : List Int32) (kk : ClassId) (kK : List Nat) (val : Nat → UInt64) (cq : Nat → Int32) (h0 : Heap) (n0 : Nat) (Z0 : n0 ≤ h0.size) (H0 : Exa Z h0 a1 "com/example/prequential/prequential/measure/ScoreMultiset") (H1 : Fld Z h0 a1 "com/example/prequential/prequential/measure/ScoreMultiset" "key" "[D" (.ref ak)) (H2 : Fld Z h0 a1 "com/example/prequential/prequential/measure/ScoreMultiset" "left" "[I" (.ref al)) (H3 : Fld Z h0 a1 "com/example/prequential/prequential/measure/ScoreMultiset" "right" "[I" (.ref ar)) (H4 : Fld Z h0 a1 "com/example/prequential/prequential/measure/ScoreMultiset" "count" "[I" (.ref ac)) (H5 : Fld Z h0 a1 "com/example/prequential/prequential/measure/ScoreMultiset" "total" "[I" (.ref au)) (H6 : Fld Z h0 a1 "com/example/prequential/prequential/measure/ScoreMultiset" "height" "[B" (.ref ah)) (H7 : Fld Z h0 a1 "com/example/prequential/prequential/measure/ScoreMultiset" "root" "I" (.int ro)) (H8 : Fld Z h0 a1 "com/example/prequential/prequential/measure/ScoreMultiset" "unused" "I" (.int u_)) (H9 : Fld Z h0 a1 "com/example/prequential/prequential/measure/ScoreMultiset" "freed" "I" (.int fr)) (H10 : Fld Z h0 a1 "com/example/prequential/prequential/measure/ScoreMultiset" "reshaped" "Z" (.int rs)) (H11 : Arv Z h0 al kl .int (16 : Int32) (own_v lL) (.int (0 : Int32))) (H12 : Arv Z h0 ar kr .int (16 : Int32) (own_v lR) (.int (0 : Int32))) (H13 : Arv Z h0 ac kc .int (16 : Int32) (own_v lC) (.int (0 : Int32))) (H14 : Arv Z h0 au ku .int (16 : Int32) (own_v lT) (.int (0 : Int32))) (H15 : Arv Z h0 ah kh .byte (16 : Int32) (own_v lH) (.int (0 : Int32))) (H16 : own_Kar Z h0 ak kk kK val) (H17 : own_rng lL) (H18 : own_rng lR) (H19 : lC.length = 16) (H20 : lT.length = 16) (H21 : lH.length = 16) (H22 : own_in ro) (H23 : own_cvq cq xv val) (H24 : own_way3 cq kK lL lR ro = true) :
    own_MF l (⟨"com/example/prequential/prequential/measure/ScoreMultiset", "count", "(D)I"⟩ : MethodName) (Jvm.Cond.code (⟨"com/example/prequential/prequential/measure/ScoreMultiset", "count", "(D)I"⟩ : MethodName) prog_108_method_7_code 4 (some .int) :: ws) ({ frames := 0, cells := 0, slots := 0, locals := 0 } : Room) #[(.ref a1), (.double xv)] Z h0 (Q15 Z a1 xv ak ro u_ fr rs al kl lL ar kr lR ac kc lC au ku lT ah kh lH kk kK val cq h0 n0) := by
  refine MetFree.of_bodySF (plainFor_of_name pn_com_example_prequential_prequential_measure_ScoreMultiset) hisR ?_
  intro p e s m args below meth c s₁ Bd hml0 hP hK
  obtain ⟨rfl, hZ, hh⟩ := hP
  have hx := Bd.exec
  have hby := Bd.bytes
  have hml : c.maxLocals = 4 := hml0
  have hown : s.vm.findClass "com/example/prequential/prequential/measure/ScoreMultiset" = some m.cls := findClass_of_methodNamed Bd.named
  have hnm := (name_of_methodNamed Bd.named Bd.method).1
  have X0 : Stand p l e ({ frames := 0, cells := 0, slots := 0, locals := 0 } : Room) s m #[(.ref a1), (.double xv)] below meth c s₁ [] 0 0 := Stand.of_body Bd
  have e0 : s₁.heap = h0 := by rw [← hh, Bd.state]; rfl
  have N0 := Fr.nil n0
  have pre0 : ∀ t, Steps p.tables e below (s₁.setTop (mkF m 0 #[.val (.ref a1), .val (.double xv), .second, .unset] [])) t → Steps p.tables e below (s₁.setTop (entryFrame m #[(.ref a1), (.double xv)] 4)) t := fun t k => castTop (ef_15 m a1 xv) k
  obtain ⟨T101, X101, e101, st101⟩ := getF X0 hx hZ hown (host := "") (Or.inl (own_w hw 25 rfl)) Via.refl e0 H7 (g := (mkF m 1 #[.val (.ref a1), .val (.double xv), .second, .unset] [(.ref a1)])) rfl rfl (hb hby d15_1)
  have pre102 : ∀ t, Steps p.tables e below (T101.setTop (mkF m 5 #[.val (.ref a1), .val (.double xv), .second, .val (.int ro)] [])) t → Steps p.tables e below (s₁.setTop (entryFrame m #[(.ref a1), (.double xv)] 4)) t := fun t kt => by
    refine pre0 t ?_
    show Steps p.tables e below (s₁.setTop (mkF m 0 #[.val (.ref a1), .val (.double xv), .second, .unset] [])) _
    refine XS.aloadN X0.here hx rfl (hb hby d15_0) rfl rfl ?_
    refine st101 _ ?_
    refine XS.istoreN X101.here hx rfl (hb hby d15_4) rfl (l' := #[.val (.ref a1), .val (.double xv), .second, .val (.int ro)]) rfl ?_
    show Steps p.tables e below (T101.setTop (mkF m 5 #[.val (.ref a1), .val (.double xv), .second, .val (.int ro)] [])) _
    exact kt
  refine own_lad (C := fun bb nd T0 L0 => Stand p l e ({ frames := 0, cells := 0, slots := 0, locals := 0 } : Room) s m #[(.ref a1), (.double xv)] below meth c T0 L0 0 0 ∧ Fr n0 L0 ∧ T0.heap = h0 ∧ ∀ t, Steps p.tables e below (T0.setTop (mkF m 5 #[.val (.ref a1), .val (.double xv), .second, .val (.int nd)] [])) t → Steps p.tables e below (s₁.setTop (entryFrame m #[(.ref a1), (.double xv)] 4)) t) (P0 := fun bb nd => own_way0 nd = true ∧ own_in nd ∧ own_cn0 nd = (own_cn3 cq (lL, lR, lC, lT, lH, kK, u_, fr, rs) ro)) (P1 := fun bb nd => own_way1 cq kK lL lR nd = true ∧ own_in nd ∧ own_cn1 cq (lL, lR, lC, lT, lH, kK, u_, fr, rs) nd = (own_cn3 cq (lL, lR, lC, lT, lH, kK, u_, fr, rs) ro)) (P2 := fun bb nd => own_way2 cq kK lL lR nd = true ∧ own_in nd ∧ own_cn2 cq (lL, lR, lC, lT, lH, kK, u_, fr, rs) nd = (own_cn3 cq (lL, lR, lC, lT, lH, kK, u_, fr, rs) ro)) (P3 := fun bb nd => own_way3 cq kK lL lR nd = true ∧ own_in nd ∧ own_cn3 cq (lL, lR, lC, lT, lH, kK, u_, fr, rs) nd = (own_cn3 cq (lL, lR, lC, lT, lH, kK, u_, fr, rs) ro)) ?_ ?_ ?_ ?_ (b := (0 : Int32)) (n := ro) ⟨H24, H22, rfl⟩ ⟨X101, N0, e101, pre102⟩
  · intro bb nd T0 L0 ⟨hwy, hin, hrr⟩ ⟨XL, NL, eL, preL⟩
    obtain ⟨fs, hr, hrun, hended, hW, hsame⟩ := XL.leave (v := some (.int (0 : Int32))) (fun h => by rw [Bd.returns] at h; cases h) (BodyLoose.notSynchronized Bd)
    refine ⟨_, _, preL _ ?_, hrun, hended, _, _, rfl, ?_, ⟨_, rfl⟩, hW, hsame.mono (by decide) (by decide)⟩
    · skip
      show Steps p.tables e below (T0.setTop (mkF m 5 #[.val (.ref a1), .val (.double xv), .second, .val (.int nd)] [])) _
      refine XS.iloadN XL.here hx rfl (hb hby d15_5) rfl ?_
      refine XS.ifYes XL.here hx rfl (pc0 := 6) (pc' := 58) rfl (hb hby d15_6) rfl ((if0 _ _).trans (teq (own_way_0 hwy : nd = (0 : Int32))).1) (by decide) (by decide) ?_
      refine XS.iconst XL.here hx rfl (hb hby d15_58) ?_
      show Steps p.tables e below (T0.setTop (mkF m 59 #[.val (.ref a1), .val (.double xv), .second, .val (.int nd)] [(.int (0 : Int32))])) _
      exact retI XL hx Bd.returns (hb hby d15_59) hr
    · show Q15 Z a1 xv ak ro u_ fr rs al kl lL ar kr lR ac kc lC au ku lT ah kh lH kk kK val cq h0 n0 _ T0.heap _
      rw [eL]
      exact ⟨(congrArg (fun z => some (Value.int z)) (Eq.trans (by simp only [own_cn0, own_cnS, if_true, if_false]) hrr)), NL, rfl⟩
  · intro lp bb nd T0 L0 ⟨hwy, hin, hrr⟩ ⟨XL, NL, eL, preL⟩
    have pre103 : ∀ t, Steps p.tables e below (T0.setTop (mkF m 6 #[.val (.ref a1), .val (.double xv), .second, .val (.int nd)] [(.int nd)])) t → Steps p.tables e below (s₁.setTop (entryFrame m #[(.ref a1), (.double xv)] 4)) t := fun t kt => by
      refine preL t ?_
      show Steps p.tables e below (T0.setTop (mkF m 5 #[.val (.ref a1), .val (.double xv), .second, .val (.int nd)] [])) _
      refine XS.iloadN XL.here hx rfl (hb hby d15_5) rfl ?_
      show Steps p.tables e below (T0.setTop (mkF m 6 #[.val (.ref a1), .val (.double xv), .second, .val (.int nd)] [(.int nd)])) _
      exact kt
    by_cases hc6_104 : nd = (0 : Int32)
    · skip
      obtain ⟨fs, hr, hrun, hended, hW, hsame⟩ := XL.leave (v := some (.int (0 : Int32))) (fun h => by rw [Bd.returns] at h; cases h) (BodyLoose.notSynchronized Bd)
      refine ⟨_, _, pre103 _ ?_, hrun, hended, _, _, rfl, ?_, ⟨_, rfl⟩, hW, hsame.mono (by decide) (by decide)⟩
      · skip
        show Steps p.tables e below (T0.setTop (mkF m 6 #[.val (.ref a1), .val (.double xv), .second, .val (.int nd)] [(.int nd)])) _
        refine XS.ifYes XL.here hx rfl (pc0 := 6) (pc' := 58) rfl (hb hby d15_6) rfl ((if0 _ _).trans (teq (hc6_104 : nd = (0 : Int32))).1) (by decide) (by decide) ?_
        refine XS.iconst XL.here hx rfl (hb hby d15_58) ?_
        show Steps p.tables e below (T0.setTop (mkF m 59 #[.val (.ref a1), .val (.double xv), .second, .val (.int nd)] [(.int (0 : Int32))])) _
        exact retI XL hx Bd.returns (hb hby d15_59) hr
      · show Q15 Z a1 xv ak ro u_ fr rs al kl lL ar kr lR ac kc lC au ku lT ah kh lH kk kK val cq h0 n0 _ T0.heap _
        rw [eL]
        exact ⟨(congrArg (fun z => some (Value.int z)) (Eq.trans (by simp only [own_cn1, own_cnS, eq_true hc6_104, if_true, if_false]) hrr)), NL, rfl⟩
    · skip
      obtain ⟨T105, X105, e105, st105⟩ := getF XL hx hZ hown (host := "") (Or.inl (own_w hw 11 rfl)) Via.refl eL H1 (g := (mkF m 11 #[.val (.ref a1), .val (.double xv), .second, .val (.int nd)] [(.ref a1), (.double xv)])) rfl rfl (hb hby d15_11)
      have dq107 : cmpValue (FP.dcmp xv (val (own_gk kK nd))) .g = (cq (own_gk kK nd)) := (H23 _ _ (own_way_k hwy hc6_104))
      have pre108 : ∀ t, Steps p.tables e below (T105.setTop (mkF m 17 #[.val (.ref a1), .val (.double xv), .second, .val (.int nd)] [(.int (cq (own_gk kK nd)))])) t → Steps p.tables e below (s₁.setTop (entryFrame m #[(.ref a1), (.double xv)] 4)) t := fun t kt => by
        refine pre103 t ?_
        show Steps p.tables e below (T0.setTop (mkF m 6 #[.val (.ref a1), .val (.double xv), .second, .val (.int nd)] [(.int nd)])) _
        refine XS.ifNo XL.here hx rfl (hb hby d15_6) rfl ((if0 _ _).trans (feq (hc6_104 : ¬ (nd = (0 : Int32)))).1) ?_
        refine XS.dloadN XL.here hx rfl (hb hby d15_9) rfl ?_
        refine XS.aloadN XL.here hx rfl (hb hby d15_10) rfl rfl ?_
        refine st105 _ ?_
        refine XS.iloadN X105.here hx rfl (hb hby d15_14) rfl ?_
        show Steps p.tables e below (T105.setTop (mkF m 15 #[.val (.ref a1), .val (.double xv), .second, .val (.int nd)] [(.int nd), (.ref ak), (.double xv)])) _
        refine own_da X105 hx hZ e105 H16 hin (hb hby d15_15) ?_
        show Steps p.tables e below (T105.setTop (mkF m 16 #[.val (.ref a1), .val (.double xv), .second, .val (.int nd)] [(.double (val (own_gk kK nd))), (.double xv)])) _
        refine XS.dcmpS X105.here hx rfl (hb hby d15_16) rfl dq107 ?_
        show Steps p.tables e below (T105.setTop (mkF m 17 #[.val (.ref a1), .val (.double xv), .second, .val (.int nd)] [(.int (cq (own_gk kK nd)))])) _
        exact kt
      by_cases hc17_109 : (cq (own_gk kK nd)) < (0 : Int32)
      · skip
        obtain ⟨T110, X110, e110, st110⟩ := getF X105 hx hZ hown (host := "") (Or.inl (own_w hw 14 rfl)) Via.refl e105 H2 (g := (mkF m 21 #[.val (.ref a1), .val (.double xv), .second, .val (.int nd)] [(.ref a1)])) rfl rfl (hb hby d15_21)
        have pre112 : ∀ t, Steps p.tables e below (T110.setTop (mkF m 5 #[.val (.ref a1), .val (.double xv), .second, .val (.int (own_g lL nd))] [])) t → Steps p.tables e below (s₁.setTop (entryFrame m #[(.ref a1), (.double xv)] 4)) t := fun t kt => by
          refine pre108 t ?_
          show Steps p.tables e below (T105.setTop (mkF m 17 #[.val (.ref a1), .val (.double xv), .second, .val (.int nd)] [(.int (cq (own_gk kK nd)))])) _
          refine XS.ifNo X105.here hx rfl (hb hby d15_17) rfl ((if0 _ _).trans (tlt (hc17_109 : (cq (own_gk kK nd)) < (0 : Int32))).2.1) ?_
          refine XS.aloadN X105.here hx rfl (hb hby d15_20) rfl rfl ?_
          refine st110 _ ?_
          refine XS.iloadN X110.here hx rfl (hb hby d15_24) rfl ?_
          show Steps p.tables e below (T110.setTop (mkF m 25 #[.val (.ref a1), .val (.double xv), .second, .val (.int nd)] [(.int nd), (.ref al)])) _
          refine own_ia X110 hx hZ e110 H11 hin (hb hby d15_25) ?_
          show Steps p.tables e below (T110.setTop (mkF m 26 #[.val (.ref a1), .val (.double xv), .second, .val (.int nd)] [(.int (own_g lL nd))])) _
          refine XS.istoreN X110.here hx rfl (hb hby d15_26) rfl (l' := #[.val (.ref a1), .val (.double xv), .second, .val (.int (own_g lL nd))]) rfl ?_
          refine XS.goto X110.here hx rfl (pc0 := 27) (pc' := 5) rfl (hb hby d15_27) (by decide) (by decide) ?_
          show Steps p.tables e below (T110.setTop (mkF m 5 #[.val (.ref a1), .val (.double xv), .second, .val (.int (own_g lL nd))] [])) _
          exact kt
        exact lp (0 : Int32) (own_g lL nd) _ _ ⟨own_way_l hwy hc6_104 hc17_109, (H17.2 _), Eq.trans (by simp only [own_cn1, own_cnS, eq_false hc6_104, eq_true hc17_109, if_true, if_false]) hrr⟩ ⟨X110, NL, e110, pre112⟩
      · skip
        obtain ⟨T113, X113, e113, st113⟩ := getF X105 hx hZ hown (host := "") (Or.inl (own_w hw 11 rfl)) Via.refl e105 H1 (g := (mkF m 32 #[.val (.ref a1), .val (.double xv), .second, .val (.int nd)] [(.ref a1), (.double xv)])) rfl rfl (hb hby d15_32)
        have dq115 : cmpValue (FP.dcmp xv (val (own_gk kK nd))) .l = (cq (own_gk kK nd)) := (H23 _ _ (own_way_k hwy hc6_104))
        have pre116 : ∀ t, Steps p.tables e below (T113.setTop (mkF m 38 #[.val (.ref a1), .val (.double xv), .second, .val (.int nd)] [(.int (cq (own_gk kK nd)))])) t → Steps p.tables e below (s₁.setTop (entryFrame m #[(.ref a1), (.double xv)] 4)) t := fun t kt => by
          refine pre108 t ?_
          show Steps p.tables e below (T105.setTop (mkF m 17 #[.val (.ref a1), .val (.double xv), .second, .val (.int nd)] [(.int (cq (own_gk kK nd)))])) _
          refine XS.ifYes X105.here hx rfl (pc0 := 17) (pc' := 30) rfl (hb hby d15_17) rfl ((if0 _ _).trans (flt (hc17_109 : ¬ ((cq (own_gk kK nd)) < (0 : Int32)))).2.1) (by decide) (by decide) ?_
          refine XS.dloadN X105.here hx rfl (hb hby d15_30) rfl ?_
          refine XS.aloadN X105.here hx rfl (hb hby d15_31) rfl rfl ?_
          refine st113 _ ?_
          refine XS.iloadN X113.here hx rfl (hb hby d15_35) rfl ?_
          show Steps p.tables e below (T113.setTop (mkF m 36 #[.val (.ref a1), .val (.double xv), .second, .val (.int nd)] [(.int nd), (.ref ak), (.double xv)])) _
          refine own_da X113 hx hZ e113 H16 hin (hb hby d15_36) ?_
          show Steps p.tables e below (T113.setTop (mkF m 37 #[.val (.ref a1), .val (.double xv), .second, .val (.int nd)] [(.double (val (own_gk kK nd))), (.double xv)])) _
          refine XS.dcmpS X113.here hx rfl (hb hby d15_37) rfl dq115 ?_
          show Steps p.tables e below (T113.setTop (mkF m 38 #[.val (.ref a1), .val (.double xv), .second, .val (.int nd)] [(.int (cq (own_gk kK nd)))])) _
          exact kt
        by_cases hc38_117 : (0 : Int32) < (cq (own_gk kK nd))
        · skip
          obtain ⟨T118, X118, e118, st118⟩ := getF X113 hx hZ hown (host := "") (Or.inl (own_w hw 16 rfl)) Via.refl e113 H3 (g := (mkF m 42 #[.val (.ref a1), .val (.double xv), .second, .val (.int nd)] [(.ref a1)])) rfl rfl (hb hby d15_42)
          have pre120 : ∀ t, Steps p.tables e below (T118.setTop (mkF m 5 #[.val (.ref a1), .val (.double xv), .second, .val (.int (own_g lR nd))] [])) t → Steps p.tables e below (s₁.setTop (entryFrame m #[(.ref a1), (.double xv)] 4)) t := fun t kt => by
            refine pre116 t ?_
            show Steps p.tables e below (T113.setTop (mkF m 38 #[.val (.ref a1), .val (.double xv), .second, .val (.int nd)] [(.int (cq (own_gk kK nd)))])) _
            refine XS.ifNo X113.here hx rfl (hb hby d15_38) rfl ((if0 _ _).trans (tlt (hc38_117 : (0 : Int32) < (cq (own_gk kK nd)))).2.2.2) ?_
            refine XS.aloadN X113.here hx rfl (hb hby d15_41) rfl rfl ?_
            refine st118 _ ?_
            refine XS.iloadN X118.here hx rfl (hb hby d15_45) rfl ?_
            show Steps p.tables e below (T118.setTop (mkF m 46 #[.val (.ref a1), .val (.double xv), .second, .val (.int nd)] [(.int nd), (.ref ar)])) _
            refine own_ia X118 hx hZ e118 H12 hin (hb hby d15_46) ?_
            show Steps p.tables e below (T118.setTop (mkF m 47 #[.val (.ref a1), .val (.double xv), .second, .val (.int nd)] [(.int (own_g lR nd))])) _
            refine XS.istoreN X118.here hx rfl (hb hby d15_47) rfl (l' := #[.val (.ref a1), .val (.double xv), .second, .val (.int (own_g lR nd))]) rfl ?_
            refine XS.goto X118.here hx rfl (pc0 := 48) (pc' := 5) rfl (hb hby d15_48) (by decide) (by decide) ?_
            show Steps p.tables e below (T118.setTop (mkF m 5 #[.val (.ref a1), .val (.double xv), .second, .val (.int (own_g lR nd))] [])) _
            exact kt
          exact lp (0 : Int32) (own_g lR nd) _ _ ⟨own_way_r hwy hc6_104 hc17_109 hc38_117, (H18.2 _), Eq.trans (by simp only [own_cn1, own_cnS, eq_false hc6_104, eq_false hc17_109, eq_true hc38_117, if_true, if_false]) hrr⟩ ⟨X118, NL, e118, pre120⟩
        · skip
          obtain ⟨T121, X121, e121, st121⟩ := getF X113 hx hZ hown (host := "") (Or.inl (own_w hw 18 rfl)) Via.refl e113 H4 (g := (mkF m 52 #[.val (.ref a1), .val (.double xv), .second, .val (.int nd)] [(.ref a1)])) rfl rfl (hb hby d15_52)
          obtain ⟨fs, hr, hrun, hended, hW, hsame⟩ := X121.leave (v := some (.int (own_g lC nd))) (fun h => by rw [Bd.returns] at h; cases h) (BodyLoose.notSynchronized Bd)
          refine ⟨_, _, pre116 _ ?_, hrun, hended, _, _, rfl, ?_, ⟨_, rfl⟩, hW, hsame.mono (by decide) (by decide)⟩
          · skip
            show Steps p.tables e below (T113.setTop (mkF m 38 #[.val (.ref a1), .val (.double xv), .second, .val (.int nd)] [(.int (cq (own_gk kK nd)))])) _
            refine XS.ifYes X113.here hx rfl (pc0 := 38) (pc' := 51) rfl (hb hby d15_38) rfl ((if0 _ _).trans (flt (hc38_117 : ¬ ((0 : Int32) < (cq (own_gk kK nd))))).2.2.2) (by decide) (by decide) ?_
            refine XS.aloadN X113.here hx rfl (hb hby d15_51) rfl rfl ?_
            refine st121 _ ?_
            refine XS.iloadN X121.here hx rfl (hb hby d15_55) rfl ?_
            show Steps p.tables e below (T121.setTop (mkF m 56 #[.val (.ref a1), .val (.double xv), .second, .val (.int nd)] [(.int nd), (.ref ac)])) _
            refine own_ia X121 hx hZ e121 H13 hin (hb hby d15_56) ?_
            show Steps p.tables e below (T121.setTop (mkF m 57 #[.val (.ref a1), .val (.double xv), .second, .val (.int nd)] [(.int (own_g lC nd))])) _
            exact retI X121 hx Bd.returns (hb hby d15_57) hr
          · show Q15 Z a1 xv ak ro u_ fr rs al kl lL ar kr lR ac kc lC au ku lT ah kh lH kk kK val cq h0 n0 _ T121.heap _
            rw [e121]
            exact ⟨(congrArg (fun z => some (Value.int z)) (Eq.trans (by simp only [own_cn1, own_cnS, eq_false hc6_104, eq_false hc17_109, eq_false hc38_117, if_true, if_false]) hrr)), NL, rfl⟩
  · intro lp bb nd T0 L0 ⟨hwy, hin, hrr⟩ ⟨XL, NL, eL, preL⟩
    have pre123 : ∀ t, Steps p.tables e below (T0.setTop (mkF m 6 #[.val (.ref a1), .val (.double xv), .second, .val (.int nd)] [(.int nd)])) t → Steps p.tables e below (s₁.setTop (entryFrame m #[(.ref a1), (.double xv)] 4)) t := fun t kt => by
      refine preL t ?_
      show Steps p.tables e below (T0.setTop (mkF m 5 #[.val (.ref a1), .val (.double xv), .second, .val (.int nd)] [])) _
      refine XS.iloadN XL.here hx rfl (hb hby d15_5) rfl ?_
      show Steps p.tables e below (T0.setTop (mkF m 6 #[.val (.ref a1), .val (.double xv), .second, .val (.int nd)] [(.int nd)])) _
      exact kt
    by_cases hc6_124 : nd = (0 : Int32)
    · skip
      obtain ⟨fs, hr, hrun, hended, hW, hsame⟩ := XL.leave (v := some (.int (0 : Int32))) (fun h => by rw [Bd.returns] at h; cases h) (BodyLoose.notSynchronized Bd)
      refine ⟨_, _, pre123 _ ?_, hrun, hended, _, _, rfl, ?_, ⟨_, rfl⟩, hW, hsame.mono (by decide) (by decide)⟩
      · skip
        show Steps p.tables e below (T0.setTop (mkF m 6 #[.val (.ref a1), .val (.double xv), .second, .val (.int nd)] [(.int nd)])) _
        refine XS.ifYes XL.here hx rfl (pc0 := 6) (pc' := 58) rfl (hb hby d15_6) rfl ((if0 _ _).trans (teq (hc6_124 : nd = (0 : Int32))).1) (by decide) (by decide) ?_
        refine XS.iconst XL.here hx rfl (hb hby d15_58) ?_
        show Steps p.tables e below (T0.setTop (mkF m 59 #[.val (.ref a1), .val (.double xv), .second, .val (.int nd)] [(.int (0 : Int32))])) _
        exact retI XL hx Bd.returns (hb hby d15_59) hr
      · show Q15 Z a1 xv ak ro u_ fr rs al kl lL ar kr lR ac kc lC au ku lT ah kh lH kk kK val cq h0 n0 _ T0.heap _
        rw [eL]
        exact ⟨(congrArg (fun z => some (Value.int z)) (Eq.trans (by simp only [own_cn2, own_cnS, eq_true hc6_124, if_true, if_false]) hrr)), NL, rfl⟩
    · skip
      obtain ⟨T125, X125, e125, st125⟩ := getF XL hx hZ hown (host := "") (Or.inl (own_w hw 11 rfl)) Via.refl eL H1 (g := (mkF m 11 #[.val (.ref a1), .val (.double xv), .second, .val (.int nd)] [(.ref a1), (.double xv)])) rfl rfl (hb hby d15_11)
      have dq127 : cmpValue (FP.dcmp xv (val (own_gk kK nd))) .g = (cq (own_gk kK nd)) := (H23 _ _ (own_way_k hwy hc6_124))
      have pre128 : ∀ t, Steps p.tables e below (T125.setTop (mkF m 17 #[.val (.ref a1), .val (.double xv), .second, .val (.int nd)] [(.int (cq (own_gk kK nd)))])) t → Steps p.tables e below (s₁.setTop (entryFrame m #[(.ref a1), (.double xv)] 4)) t := fun t kt => by
        refine pre123 t ?_
        show Steps p.tables e below (T0.setTop (mkF m 6 #[.val (.ref a1), .val (.double xv), .second, .val (.int nd)] [(.int nd)])) _
        refine XS.ifNo XL.here hx rfl (hb hby d15_6) rfl ((if0 _ _).trans (feq (hc6_124 : ¬ (nd = (0 : Int32)))).1) ?_
        refine XS.dloadN XL.here hx rfl (hb hby d15_9) rfl ?_
        refine XS.aloadN XL.here hx rfl (hb hby d15_10) rfl rfl ?_
        refine st125 _ ?_
        refine XS.iloadN X125.here hx rfl (hb hby d15_14) rfl ?_
        show Steps p.tables e below (T125.setTop (mkF m 15 #[.val (.ref a1), .val (.double xv), .second, .val (.int nd)] [(.int nd), (.ref ak), (.double xv)])) _
        refine own_da X125 hx hZ e125 H16 hin (hb hby d15_15) ?_
        show Steps p.tables e below (T125.setTop (mkF m 16 #[.val (.ref a1), .val (.double xv), .second, .val (.int nd)] [(.double (val (own_gk kK nd))), (.double xv)])) _
        refine XS.dcmpS X125.here hx rfl (hb hby d15_16) rfl dq127 ?_
        show Steps p.tables e below (T125.setTop (mkF m 17 #[.val (.ref a1), .val (.double xv), .second, .val (.int nd)] [(.int (cq (own_gk kK nd)))])) _
        exact kt
      by_cases hc17_129 : (cq (own_gk kK nd)) < (0 : Int32)
      · skip
        obtain ⟨T130, X130, e130, st130⟩ := getF X125 hx hZ hown (host := "") (Or.inl (own_w hw 14 rfl)) Via.refl e125 H2 (g := (mkF m 21 #[.val (.ref a1), .val (.double xv), .second, .val (.int nd)] [(.ref a1)])) rfl rfl (hb hby d15_21)
        have pre132 : ∀ t, Steps p.tables e below (T130.setTop (mkF m 5 #[.val (.ref a1), .val (.double xv), .second, .val (.int (own_g lL nd))] [])) t → Steps p.tables e below (s₁.setTop (entryFrame m #[(.ref a1), (.double xv)] 4)) t := fun t kt => by
          refine pre128 t ?_
          show Steps p.tables e below (T125.setTop (mkF m 17 #[.val (.ref a1), .val (.double xv), .second, .val (.int nd)] [(.int (cq (own_gk kK nd)))])) _
          refine XS.ifNo X125.here hx rfl (hb hby d15_17) rfl ((if0 _ _).trans (tlt (hc17_129 : (cq (own_gk kK nd)) < (0 : Int32))).2.1) ?_
          refine XS.aloadN X125.here hx rfl (hb hby d15_20) rfl rfl ?_
          refine st130 _ ?_
          refine XS.iloadN X130.here hx rfl (hb hby d15_24) rfl ?_
          show Steps p.tables e below (T130.setTop (mkF m 25 #[.val (.ref a1), .val (.double xv), .second, .val (.int nd)] [(.int nd), (.ref al)])) _
          refine own_ia X130 hx hZ e130 H11 hin (hb hby d15_25) ?_
          show Steps p.tables e below (T130.setTop (mkF m 26 #[.val (.ref a1), .val (.double xv), .second, .val (.int nd)] [(.int (own_g lL nd))])) _
          refine XS.istoreN X130.here hx rfl (hb hby d15_26) rfl (l' := #[.val (.ref a1), .val (.double xv), .second, .val (.int (own_g lL nd))]) rfl ?_
          refine XS.goto X130.here hx rfl (pc0 := 27) (pc' := 5) rfl (hb hby d15_27) (by decide) (by decide) ?_
          show Steps p.tables e below (T130.setTop (mkF m 5 #[.val (.ref a1), .val (.double xv), .second, .val (.int (own_g lL nd))] [])) _
          exact kt
        exact lp (0 : Int32) (own_g lL nd) _ _ ⟨own_way_l hwy hc6_124 hc17_129, (H17.2 _), Eq.trans (by simp only [own_cn2, own_cnS, eq_false hc6_124, eq_true hc17_129, if_true, if_false]) hrr⟩ ⟨X130, NL, e130, pre132⟩
      · skip
        obtain ⟨T133, X133, e133, st133⟩ := getF X125 hx hZ hown (host := "") (Or.inl (own_w hw 11 rfl)) Via.refl e125 H1 (g := (mkF m 32 #[.val (.ref a1), .val (.double xv), .second, .val (.int nd)] [(.ref a1), (.double xv)])) rfl rfl (hb hby d15_32)
        have dq135 : cmpValue (FP.dcmp xv (val (own_gk kK nd))) .l = (cq (own_gk kK nd)) := (H23 _ _ (own_way_k hwy hc6_124))
        have pre136 : ∀ t, Steps p.tables e below (T133.setTop (mkF m 38 #[.val (.ref a1), .val (.double xv), .second, .val (.int nd)] [(.int (cq (own_gk kK nd)))])) t → Steps p.tables e below (s₁.setTop (entryFrame m #[(.ref a1), (.double xv)] 4)) t := fun t kt => by
          refine pre128 t ?_
          show Steps p.tables e below (T125.setTop (mkF m 17 #[.val (.ref a1), .val (.double xv), .second, .val (.int nd)] [(.int (cq (own_gk kK nd)))])) _
          refine XS.ifYes X125.here hx rfl (pc0 := 17) (pc' := 30) rfl (hb hby d15_17) rfl ((if0 _ _).trans (flt (hc17_129 : ¬ ((cq (own_gk kK nd)) < (0 : Int32)))).2.1) (by decide) (by decide) ?_
          refine XS.dloadN X125.here hx rfl (hb hby d15_30) rfl ?_
          refine XS.aloadN X125.here hx rfl (hb hby d15_31) rfl rfl ?_
          refine st133 _ ?_
          refine XS.iloadN X133.here hx rfl (hb hby d15_35) rfl ?_
          show Steps p.tables e below (T133.setTop (mkF m 36 #[.val (.ref a1), .val (.double xv), .second, .val (.int nd)] [(.int nd), (.ref ak), (.double xv)])) _
          refine own_da X133 hx hZ e133 H16 hin (hb hby d15_36) ?_
          show Steps p.tables e below (T133.setTop (mkF m 37 #[.val (.ref a1), .val (.double xv), .second, .val (.int nd)] [(.double (val (own_gk kK nd))), (.double xv)])) _
          refine XS.dcmpS X133.here hx rfl (hb hby d15_37) rfl dq135 ?_
          show Steps p.tables e below (T133.setTop (mkF m 38 #[.val (.ref a1), .val (.double xv), .second, .val (.int nd)] [(.int (cq (own_gk kK nd)))])) _
          exact kt
        by_cases hc38_137 : (0 : Int32) < (cq (own_gk kK nd))
        · skip
          obtain ⟨T138, X138, e138, st138⟩ := getF X133 hx hZ hown (host := "") (Or.inl (own_w hw 16 rfl)) Via.refl e133 H3 (g := (mkF m 42 #[.val (.ref a1), .val (.double xv), .second, .val (.int nd)] [(.ref a1)])) rfl rfl (hb hby d15_42)
          have pre140 : ∀ t, Steps p.tables e below (T138.setTop (mkF m 5 #[.val (.ref a1), .val (.double xv), .second, .val (.int (own_g lR nd))] [])) t → Steps p.tables e below (s₁.setTop (entryFrame m #[(.ref a1), (.double xv)] 4)) t := fun t kt => by
            refine pre136 t ?_
            show Steps p.tables e below (T133.setTop (mkF m 38 #[.val (.ref a1), .val (.double xv), .second, .val (.int nd)] [(.int (cq (own_gk kK nd)))])) _
            refine XS.ifNo X133.here hx rfl (hb hby d15_38) rfl ((if0 _ _).trans (tlt (hc38_137 : (0 : Int32) < (cq (own_gk kK nd)))).2.2.2) ?_
            refine XS.aloadN X133.here hx rfl (hb hby d15_41) rfl rfl ?_
            refine st138 _ ?_
            refine XS.iloadN X138.here hx rfl (hb hby d15_45) rfl ?_
            show Steps p.tables e below (T138.setTop (mkF m 46 #[.val (.ref a1), .val (.double xv), .second, .val (.int nd)] [(.int nd), (.ref ar)])) _
            refine own_ia X138 hx hZ e138 H12 hin (hb hby d15_46) ?_
            show Steps p.tables e below (T138.setTop (mkF m 47 #[.val (.ref a1), .val (.double xv), .second, .val (.int nd)] [(.int (own_g lR nd))])) _
            refine XS.istoreN X138.here hx rfl (hb hby d15_47) rfl (l' := #[.val (.ref a1), .val (.double xv), .second, .val (.int (own_g lR nd))]) rfl ?_
            refine XS.goto X138.here hx rfl (pc0 := 48) (pc' := 5) rfl (hb hby d15_48) (by decide) (by decide) ?_
            show Steps p.tables e below (T138.setTop (mkF m 5 #[.val (.ref a1), .val (.double xv), .second, .val (.int (own_g lR nd))] [])) _
            exact kt
          exact lp (0 : Int32) (own_g lR nd) _ _ ⟨own_way_r hwy hc6_124 hc17_129 hc38_137, (H18.2 _), Eq.trans (by simp only [own_cn2, own_cnS, eq_false hc6_124, eq_false hc17_129, eq_true hc38_137, if_true, if_false]) hrr⟩ ⟨X138, NL, e138, pre140⟩
        · skip
          obtain ⟨T141, X141, e141, st141⟩ := getF X133 hx hZ hown (host := "") (Or.inl (own_w hw 18 rfl)) Via.refl e133 H4 (g := (mkF m 52 #[.val (.ref a1), .val (.double xv), .second, .val (.int nd)] [(.ref a1)])) rfl rfl (hb hby d15_52)
          obtain ⟨fs, hr, hrun, hended, hW, hsame⟩ := X141.leave (v := some (.int (own_g lC nd))) (fun h => by rw [Bd.returns] at h; cases h) (BodyLoose.notSynchronized Bd)
          refine ⟨_, _, pre136 _ ?_, hrun, hended, _, _, rfl, ?_, ⟨_, rfl⟩, hW, hsame.mono (by decide) (by decide)⟩
          · skip
            show Steps p.tables e below (T133.setTop (mkF m 38 #[.val (.ref a1), .val (.double xv), .second, .val (.int nd)] [(.int (cq (own_gk kK nd)))])) _
            refine XS.ifYes X133.here hx rfl (pc0 := 38) (pc' := 51) rfl (hb hby d15_38) rfl ((if0 _ _).trans (flt (hc38_137 : ¬ ((0 : Int32) < (cq (own_gk kK nd))))).2.2.2) (by decide) (by decide) ?_
            refine XS.aloadN X133.here hx rfl (hb hby d15_51) rfl rfl ?_
            refine st141 _ ?_
            refine XS.iloadN X141.here hx rfl (hb hby d15_55) rfl ?_
            show Steps p.tables e below (T141.setTop (mkF m 56 #[.val (.ref a1), .val (.double xv), .second, .val (.int nd)] [(.int nd), (.ref ac)])) _
            refine own_ia X141 hx hZ e141 H13 hin (hb hby d15_56) ?_
            show Steps p.tables e below (T141.setTop (mkF m 57 #[.val (.ref a1), .val (.double xv), .second, .val (.int nd)] [(.int (own_g lC nd))])) _
            exact retI X141 hx Bd.returns (hb hby d15_57) hr
          · show Q15 Z a1 xv ak ro u_ fr rs al kl lL ar kr lR ac kc lC au ku lT ah kh lH kk kK val cq h0 n0 _ T141.heap _
            rw [e141]
            exact ⟨(congrArg (fun z => some (Value.int z)) (Eq.trans (by simp only [own_cn2, own_cnS, eq_false hc6_124, eq_false hc17_129, eq_false hc38_137, if_true, if_false]) hrr)), NL, rfl⟩
  · intro lp bb nd T0 L0 ⟨hwy, hin, hrr⟩ ⟨XL, NL, eL, preL⟩
    have pre143 : ∀ t, Steps p.tables e below (T0.setTop (mkF m 6 #[.val (.ref a1), .val (.double xv), .second, .val (.int nd)] [(.int nd)])) t → Steps p.tables e below (s₁.setTop (entryFrame m #[(.ref a1), (.double xv)] 4)) t := fun t kt => by
      refine preL t ?_
      show Steps p.tables e below (T0.setTop (mkF m 5 #[.val (.ref a1), .val (.double xv), .second, .val (.int nd)] [])) _
      refine XS.iloadN XL.here hx rfl (hb hby d15_5) rfl ?_
      show Steps p.tables e below (T0.setTop (mkF m 6 #[.val (.ref a1), .val (.double xv), .second, .val (.int nd)] [(.int nd)])) _
      exact kt
    by_cases hc6_144 : nd = (0 : Int32)
    · skip
      obtain ⟨fs, hr, hrun, hended, hW, hsame⟩ := XL.leave (v := some (.int (0 : Int32))) (fun h => by rw [Bd.returns] at h; cases h) (BodyLoose.notSynchronized Bd)
      refine ⟨_, _, pre143 _ ?_, hrun, hended, _, _, rfl, ?_, ⟨_, rfl⟩, hW, hsame.mono (by decide) (by decide)⟩
      · skip
        show Steps p.tables e below (T0.setTop (mkF m 6 #[.val (.ref a1), .val (.double xv), .second, .val (.int nd)] [(.int nd)])) _
        refine XS.ifYes XL.here hx rfl (pc0 := 6) (pc' := 58) rfl (hb hby d15_6) rfl ((if0 _ _).trans (teq (hc6_144 : nd = (0 : Int32))).1) (by decide) (by decide) ?_
        refine XS.iconst XL.here hx rfl (hb hby d15_58) ?_
        show Steps p.tables e below (T0.setTop (mkF m 59 #[.val (.ref a1), .val (.double xv), .second, .val (.int nd)] [(.int (0 : Int32))])) _
        exact retI XL hx Bd.returns (hb hby d15_59) hr
      · show Q15 Z a1 xv ak ro u_ fr rs al kl lL ar kr lR ac kc lC au ku lT ah kh lH kk kK val cq h0 n0 _ T0.heap _
        rw [eL]
        exact ⟨(congrArg (fun z => some (Value.int z)) (Eq.trans (by simp only [own_cn3, own_cnS, eq_true hc6_144, if_true, if_false]) hrr)), NL, rfl⟩
    · skip
      obtain ⟨T145, X145, e145, st145⟩ := getF XL hx hZ hown (host := "") (Or.inl (own_w hw 11 rfl)) Via.refl eL H1 (g := (mkF m 11 #[.val (.ref a1), .val (.double xv), .second, .val (.int nd)] [(.ref a1), (.double xv)])) rfl rfl (hb hby d15_11)
      have dq147 : cmpValue (FP.dcmp xv (val (own_gk kK nd))) .g = (cq (own_gk kK nd)) := (H23 _ _ (own_way_k hwy hc6_144))
      have pre148 : ∀ t, Steps p.tables e below (T145.setTop (mkF m 17 #[.val (.ref a1), .val (.double xv), .second, .val (.int nd)] [(.int (cq (own_gk kK nd)))])) t → Steps p.tables e below (s₁.setTop (entryFrame m #[(.ref a1), (.double xv)] 4)) t := fun t kt => by
        refine pre143 t ?_
        show Steps p.tables e below (T0.setTop (mkF m 6 #[.val (.ref a1), .val (.double xv), .second, .val (.int nd)] [(.int nd)])) _
        refine XS.ifNo XL.here hx rfl (hb hby d15_6) rfl ((if0 _ _).trans (feq (hc6_144 : ¬ (nd = (0 : Int32)))).1) ?_
        refine XS.dloadN XL.here hx rfl (hb hby d15_9) rfl ?_
        refine XS.aloadN XL.here hx rfl (hb hby d15_10) rfl rfl ?_
        refine st145 _ ?_
        refine XS.iloadN X145.here hx rfl (hb hby d15_14) rfl ?_
        show Steps p.tables e below (T145.setTop (mkF m 15 #[.val (.ref a1), .val (.double xv), .second, .val (.int nd)] [(.int nd), (.ref ak), (.double xv)])) _
        refine own_da X145 hx hZ e145 H16 hin (hb hby d15_15) ?_
        show Steps p.tables e below (T145.setTop (mkF m 16 #[.val (.ref a1), .val (.double xv), .second, .val (.int nd)] [(.double (val (own_gk kK nd))), (.double xv)])) _
        refine XS.dcmpS X145.here hx rfl (hb hby d15_16) rfl dq147 ?_
        show Steps p.tables e below (T145.setTop (mkF m 17 #[.val (.ref a1), .val (.double xv), .second, .val (.int nd)] [(.int (cq (own_gk kK nd)))])) _
        exact kt
      by_cases hc17_149 : (cq (own_gk kK nd)) < (0 : Int32)
      · skip
        obtain ⟨T150, X150, e150, st150⟩ := getF X145 hx hZ hown (host := "") (Or.inl (own_w hw 14 rfl)) Via.refl e145 H2 (g := (mkF m 21 #[.val (.ref a1), .val (.double xv), .second, .val (.int nd)] [(.ref a1)])) rfl rfl (hb hby d15_21)
        have pre152 : ∀ t, Steps p.tables e below (T150.setTop (mkF m 5 #[.val (.ref a1), .val (.double xv), .second, .val (.int (own_g lL nd))] [])) t → Steps p.tables e below (s₁.setTop (entryFrame m #[(.ref a1), (.double xv)] 4)) t := fun t kt => by
          refine pre148 t ?_
          show Steps p.tables e below (T145.setTop (mkF m 17 #[.val (.ref a1), .val (.double xv), .second, .val (.int nd)] [(.int (cq (own_gk kK nd)))])) _
          refine XS.ifNo X145.here hx rfl (hb hby d15_17) rfl ((if0 _ _).trans (tlt (hc17_149 : (cq (own_gk kK nd)) < (0 : Int32))).2.1) ?_
          refine XS.aloadN X145.here hx rfl (hb hby d15_20) rfl rfl ?_
          refine st150 _ ?_
          refine XS.iloadN X150.here hx rfl (hb hby d15_24) rfl ?_
          show Steps p.tables e below (T150.setTop (mkF m 25 #[.val (.ref a1), .val (.double xv), .second, .val (.int nd)] [(.int nd), (.ref al)])) _
          refine own_ia X150 hx hZ e150 H11 hin (hb hby d15_25) ?_
          show Steps p.tables e below (T150.setTop (mkF m 26 #[.val (.ref a1), .val (.double xv), .second, .val (.int nd)] [(.int (own_g lL nd))])) _
          refine XS.istoreN X150.here hx rfl (hb hby d15_26) rfl (l' := #[.val (.ref a1), .val (.double xv), .second, .val (.int (own_g lL nd))]) rfl ?_
          refine XS.goto X150.here hx rfl (pc0 := 27) (pc' := 5) rfl (hb hby d15_27) (by decide) (by decide) ?_
          show Steps p.tables e below (T150.setTop (mkF m 5 #[.val (.ref a1), .val (.double xv), .second, .val (.int (own_g lL nd))] [])) _
          exact kt
        exact lp (0 : Int32) (own_g lL nd) _ _ ⟨own_way_l hwy hc6_144 hc17_149, (H17.2 _), Eq.trans (by simp only [own_cn3, own_cnS, eq_false hc6_144, eq_true hc17_149, if_true, if_false]) hrr⟩ ⟨X150, NL, e150, pre152⟩
      · skip
        obtain ⟨T153, X153, e153, st153⟩ := getF X145 hx hZ hown (host := "") (Or.inl (own_w hw 11 rfl)) Via.refl e145 H1 (g := (mkF m 32 #[.val (.ref a1), .val (.double xv), .second, .val (.int nd)] [(.ref a1), (.double xv)])) rfl rfl (hb hby d15_32)
        have dq155 : cmpValue (FP.dcmp xv (val (own_gk kK nd))) .l = (cq (own_gk kK nd)) := (H23 _ _ (own_way_k hwy hc6_144))
        have pre156 : ∀ t, Steps p.tables e below (T153.setTop (mkF m 38 #[.val (.ref a1), .val (.double xv), .second, .val (.int nd)] [(.int (cq (own_gk kK nd)))])) t → Steps p.tables e below (s₁.setTop (entryFrame m #[(.ref a1), (.double xv)] 4)) t := fun t kt => by
          refine pre148 t ?_
          show Steps p.tables e below (T145.setTop (mkF m 17 #[.val (.ref a1), .val (.double xv), .second, .val (.int nd)] [(.int (cq (own_gk kK nd)))])) _
          refine XS.ifYes X145.here hx rfl (pc0 := 17) (pc' := 30) rfl (hb hby d15_17) rfl ((if0 _ _).trans (flt (hc17_149 : ¬ ((cq (own_gk kK nd)) < (0 : Int32)))).2.1) (by decide) (by decide) ?_
          refine XS.dloadN X145.here hx rfl (hb hby d15_30) rfl ?_
          refine XS.aloadN X145.here hx rfl (hb hby d15_31) rfl rfl ?_
          refine st153 _ ?_
          refine XS.iloadN X153.here hx rfl (hb hby d15_35) rfl ?_
          show Steps p.tables e below (T153.setTop (mkF m 36 #[.val (.ref a1), .val (.double xv), .second, .val (.int nd)] [(.int nd), (.ref ak), (.double xv)])) _
          refine own_da X153 hx hZ e153 H16 hin (hb hby d15_36) ?_
          show Steps p.tables e below (T153.setTop (mkF m 37 #[.val (.ref a1), .val (.double xv), .second, .val (.int nd)] [(.double (val (own_gk kK nd))), (.double xv)])) _
          refine XS.dcmpS X153.here hx rfl (hb hby d15_37) rfl dq155 ?_
          show Steps p.tables e below (T153.setTop (mkF m 38 #[.val (.ref a1), .val (.double xv), .second, .val (.int nd)] [(.int (cq (own_gk kK nd)))])) _
          exact kt
        by_cases hc38_157 : (0 : Int32) < (cq (own_gk kK nd))
        · skip
          obtain ⟨T158, X158, e158, st158⟩ := getF X153 hx hZ hown (host := "") (Or.inl (own_w hw 16 rfl)) Via.refl e153 H3 (g := (mkF m 42 #[.val (.ref a1), .val (.double xv), .second, .val (.int nd)] [(.ref a1)])) rfl rfl (hb hby d15_42)
          have pre160 : ∀ t, Steps p.tables e below (T158.setTop (mkF m 5 #[.val (.ref a1), .val (.double xv), .second, .val (.int (own_g lR nd))] [])) t → Steps p.tables e below (s₁.setTop (entryFrame m #[(.ref a1), (.double xv)] 4)) t := fun t kt => by
            refine pre156 t ?_
            show Steps p.tables e below (T153.setTop (mkF m 38 #[.val (.ref a1), .val (.double xv), .second, .val (.int nd)] [(.int (cq (own_gk kK nd)))])) _
            refine XS.ifNo X153.here hx rfl (hb hby d15_38) rfl ((if0 _ _).trans (tlt (hc38_157 : (0 : Int32) < (cq (own_gk kK nd)))).2.2.2) ?_
            refine XS.aloadN X153.here hx rfl (hb hby d15_41) rfl rfl ?_
            refine st158 _ ?_
            refine XS.iloadN X158.here hx rfl (hb hby d15_45) rfl ?_
            show Steps p.tables e below (T158.setTop (mkF m 46 #[.val (.ref a1), .val (.double xv), .second, .val (.int nd)] [(.int nd), (.ref ar)])) _
            refine own_ia X158 hx hZ e158 H12 hin (hb hby d15_46) ?_
            show Steps p.tables e below (T158.setTop (mkF m 47 #[.val (.ref a1), .val (.double xv), .second, .val (.int nd)] [(.int (own_g lR nd))])) _
            refine XS.istoreN X158.here hx rfl (hb hby d15_47) rfl (l' := #[.val (.ref a1), .val (.double xv), .second, .val (.int (own_g lR nd))]) rfl ?_
            refine XS.goto X158.here hx rfl (pc0 := 48) (pc' := 5) rfl (hb hby d15_48) (by decide) (by decide) ?_
            show Steps p.tables e below (T158.setTop (mkF m 5 #[.val (.ref a1), .val (.double xv), .second, .val (.int (own_g lR nd))] [])) _
            exact kt
          exact lp (0 : Int32) (own_g lR nd) _ _ ⟨own_way_r hwy hc6_144 hc17_149 hc38_157, (H18.2 _), Eq.trans (by simp only [own_cn3, own_cnS, eq_false hc6_144, eq_false hc17_149, eq_true hc38_157, if_true, if_false]) hrr⟩ ⟨X158, NL, e158, pre160⟩
        · skip
          obtain ⟨T161, X161, e161, st161⟩ := getF X153 hx hZ hown (host := "") (Or.inl (own_w hw 18 rfl)) Via.refl e153 H4 (g := (mkF m 52 #[.val (.ref a1), .val (.double xv), .second, .val (.int nd)] [(.ref a1)])) rfl rfl (hb hby d15_52)
          obtain ⟨fs, hr, hrun, hended, hW, hsame⟩ := X161.leave (v := some (.int (own_g lC nd))) (fun h => by rw [Bd.returns] at h; cases h) (BodyLoose.notSynchronized Bd)
          refine ⟨_, _, pre156 _ ?_, hrun, hended, _, _, rfl, ?_, ⟨_, rfl⟩, hW, hsame.mono (by decide) (by decide)⟩
          · skip
            show Steps p.tables e below (T153.setTop (mkF m 38 #[.val (.ref a1), .val (.double xv), .second, .val (.int nd)] [(.int (cq (own_gk kK nd)))])) _
            refine XS.ifYes X153.here hx rfl (pc0 := 38) (pc' := 51) rfl (hb hby d15_38) rfl ((if0 _ _).trans (flt (hc38_157 : ¬ ((0 : Int32) < (cq (own_gk kK nd))))).2.2.2) (by decide) (by decide) ?_
            refine XS.aloadN X153.here hx rfl (hb hby d15_51) rfl rfl ?_
            refine st161 _ ?_
            refine XS.iloadN X161.here hx rfl (hb hby d15_55) rfl ?_
            show Steps p.tables e below (T161.setTop (mkF m 56 #[.val (.ref a1), .val (.double xv), .second, .val (.int nd)] [(.int nd), (.ref ac)])) _
            refine own_ia X161 hx hZ e161 H13 hin (hb hby d15_56) ?_
            show Steps p.tables e below (T161.setTop (mkF m 57 #[.val (.ref a1), .val (.double xv), .second, .val (.int nd)] [(.int (own_g lC nd))])) _
            exact retI X161 hx Bd.returns (hb hby d15_57) hr
          · show Q15 Z a1 xv ak ro u_ fr rs al kl lL ar kr lR ac kc lC au ku lT ah kh lH kk kK val cq h0 n0 _ T161.heap _
            rw [e161]
            exact ⟨(congrArg (fun z => some (Value.int z)) (Eq.trans (by simp only [own_cn3, own_cnS, eq_false hc6_144, eq_false hc17_149, eq_false hc38_157, if_true, if_false]) hrr)), NL, rfl⟩
abbrev own_e14 (k : Nat) (i : Instr) (l : Nat) : Prop := decode method_2_code k = .ok (i, l)
theorem d14_0 : own_e14 0 (.iload_n 0) 1 := by decide +kernel
theorem d14_1 : own_e14 1 (.iload_n 1) 1 := by decide +kernel
theorem d14_2 : own_e14 2 (.if_icmp .ne 7) 3 := by decide +kernel
theorem d14_5 : own_e14 5 (.iconst 1) 1 := by decide +kernel
theorem d14_6 : own_e14 6 (.goto 4) 3 := by decide +kernel
theorem d14_10 : own_e14 10 .ireturn 1 := by decide +kernel
theorem d14_9 : own_e14 9 (.iconst 0) 1 := by decide +kernel
theorem pn_com_example_prequential_prequential_measure_ScoreMultisetCountPinLaw : plainName "com/example/prequential/prequential/measure/ScoreMultisetCountPinLaw" = true := by first | (simp [plainName, overriddenIn]; done) | decide +kernel
theorem ef_14 (m : MethodId) (p1 : Int32) (p2 : Int32) : entryFrame m #[(.int p1), (.int p2)] 2 = mkF m 0 #[.val (.int p1), .val (.int p2)] [] := by first | (simp [entryFrame, mkF, argsToLocals, Value.category]; done) | rfl
def Q14 (Z : State) (p1 : Int32) (p2 : Int32) (h0 : Heap) (n0 : Nat) (v : Option Value) (h : Heap) (L : List Loc) : Prop := v = some (.int (own_eq p1 p2)) ∧ Fr n0 L ∧ h = h0
set_option maxRecDepth 65536 in
set_option maxHeartbeats 40000000 in
theorem rm14 (l : Launch) (Z : State) (a0 : Array Value) (hw : ∀ d ∈ tables_1, d.before a0 Z = true) (ws : List Jvm.Cond) (p1 : Int32) (p2 : Int32) (h0 : Heap) (n0 : Nat) (Z0 : n0 ≤ h0.size) :
    own_MF l (⟨"com/example/prequential/prequential/measure/ScoreMultisetCountPinLaw", "eq", "(II)I"⟩ : MethodName) (Jvm.Cond.code (⟨"com/example/prequential/prequential/measure/ScoreMultisetCountPinLaw", "eq", "(II)I"⟩ : MethodName) method_2_code 2 (some .int) :: ws) ({ frames := 0, cells := 0, slots := 0, locals := 0 } : Room) #[(.int p1), (.int p2)] Z h0 (Q14 Z p1 p2 h0 n0) := by
  refine MetFree.of_bodySF (plainFor_of_name pn_com_example_prequential_prequential_measure_ScoreMultisetCountPinLaw) hisR ?_
  intro p e s m args below meth c s₁ Bd hml0 hP hK
  obtain ⟨rfl, hZ, hh⟩ := hP
  have hx := Bd.exec
  have hby := Bd.bytes
  have hml : c.maxLocals = 2 := hml0
  have hown : s.vm.findClass "com/example/prequential/prequential/measure/ScoreMultisetCountPinLaw" = some m.cls := findClass_of_methodNamed Bd.named
  have hnm := (name_of_methodNamed Bd.named Bd.method).1
  have X0 : Stand p l e ({ frames := 0, cells := 0, slots := 0, locals := 0 } : Room) s m #[(.int p1), (.int p2)] below meth c s₁ [] 0 0 := Stand.of_body Bd
  have e0 : s₁.heap = h0 := by rw [← hh, Bd.state]; rfl
  have N0 := Fr.nil n0
  have pre0 : ∀ t, Steps p.tables e below (s₁.setTop (mkF m 0 #[.val (.int p1), .val (.int p2)] [])) t → Steps p.tables e below (s₁.setTop (entryFrame m #[(.int p1), (.int p2)] 2)) t := fun t k => castTop (ef_14 m p1 p2) k
  have pre101 : ∀ t, Steps p.tables e below (s₁.setTop (mkF m 2 #[.val (.int p1), .val (.int p2)] [(.int p2), (.int p1)])) t → Steps p.tables e below (s₁.setTop (entryFrame m #[(.int p1), (.int p2)] 2)) t := fun t kt => by
    refine pre0 t ?_
    show Steps p.tables e below (s₁.setTop (mkF m 0 #[.val (.int p1), .val (.int p2)] [])) _
    refine XS.iloadN X0.here hx rfl (hb hby d14_0) rfl ?_
    refine XS.iloadN X0.here hx rfl (hb hby d14_1) rfl ?_
    show Steps p.tables e below (s₁.setTop (mkF m 2 #[.val (.int p1), .val (.int p2)] [(.int p2), (.int p1)])) _
    exact kt
  by_cases hc2_102 : p1 = p2
  · skip
    obtain ⟨fs, hr, hrun, hended, hW, hsame⟩ := X0.leave (v := some (.int (1 : Int32))) (fun h => by rw [Bd.returns] at h; cases h) (BodyLoose.notSynchronized Bd)
    refine ⟨_, _, pre101 _ ?_, hrun, hended, _, _, rfl, ?_, ⟨_, rfl⟩, hW, hsame.mono (by decide) (by decide)⟩
    · skip
      show Steps p.tables e below (s₁.setTop (mkF m 2 #[.val (.int p1), .val (.int p2)] [(.int p2), (.int p1)])) _
      refine XS.icmpNo X0.here hx rfl (hb hby d14_2) rfl (teq (hc2_102 : p1 = p2)).2 ?_
      refine XS.iconst X0.here hx rfl (hb hby d14_5) ?_
      refine XS.goto X0.here hx rfl (pc0 := 6) (pc' := 10) rfl (hb hby d14_6) (by decide) (by decide) ?_
      show Steps p.tables e below (s₁.setTop (mkF m 10 #[.val (.int p1), .val (.int p2)] [(.int (1 : Int32))])) _
      exact retI X0 hx Bd.returns (hb hby d14_10) hr
    · show Q14 Z p1 p2 h0 n0 _ s₁.heap _
      rw [e0]
      exact ⟨(by simp only [own_eq, eq_true hc2_102, if_true, if_false]), N0, rfl⟩
  · skip
    obtain ⟨fs, hr, hrun, hended, hW, hsame⟩ := X0.leave (v := some (.int (0 : Int32))) (fun h => by rw [Bd.returns] at h; cases h) (BodyLoose.notSynchronized Bd)
    refine ⟨_, _, pre101 _ ?_, hrun, hended, _, _, rfl, ?_, ⟨_, rfl⟩, hW, hsame.mono (by decide) (by decide)⟩
    · skip
      show Steps p.tables e below (s₁.setTop (mkF m 2 #[.val (.int p1), .val (.int p2)] [(.int p2), (.int p1)])) _
      refine XS.icmpYes X0.here hx rfl (pc0 := 2) (pc' := 9) rfl (hb hby d14_2) rfl (feq (hc2_102 : ¬ (p1 = p2))).2 (by decide) (by decide) ?_
      refine XS.iconst X0.here hx rfl (hb hby d14_9) ?_
      show Steps p.tables e below (s₁.setTop (mkF m 10 #[.val (.int p1), .val (.int p2)] [(.int (0 : Int32))])) _
      exact retI X0 hx Bd.returns (hb hby d14_10) hr
    · show Q14 Z p1 p2 h0 n0 _ s₁.heap _
      rw [e0]
      exact ⟨(by simp only [own_eq, eq_false hc2_102, if_true, if_false]), N0, rfl⟩
abbrev own_e1 (k : Nat) (i : Instr) (l : Nat) : Prop := decode prog_108_method_1_code k = .ok (i, l)
theorem d1_0 : own_e1 0 (.aload_n 0) 1 := by decide +kernel
theorem d1_1 : own_e1 1 (.invokespecial 1) 3 := by decide +kernel
theorem d1_4 : own_e1 4 (.aload_n 0) 1 := by decide +kernel
theorem d1_5 : own_e1 5 (.bipush 16) 2 := by decide +kernel
theorem d1_7 : own_e1 7 (.newarray .double) 2 := by decide +kernel
theorem d1_9 : own_e1 9 (.putfield 9) 3 := by decide +kernel
theorem d1_12 : own_e1 12 (.aload_n 0) 1 := by decide +kernel
theorem d1_13 : own_e1 13 (.bipush 16) 2 := by decide +kernel
theorem d1_15 : own_e1 15 (.newarray .int) 2 := by decide +kernel
theorem d1_17 : own_e1 17 (.putfield 13) 3 := by decide +kernel
theorem d1_20 : own_e1 20 (.aload_n 0) 1 := by decide +kernel
theorem d1_21 : own_e1 21 (.bipush 16) 2 := by decide +kernel
theorem d1_23 : own_e1 23 (.newarray .int) 2 := by decide +kernel
theorem d1_25 : own_e1 25 (.putfield 17) 3 := by decide +kernel
theorem d1_28 : own_e1 28 (.aload_n 0) 1 := by decide +kernel
theorem d1_29 : own_e1 29 (.bipush 16) 2 := by decide +kernel
theorem d1_31 : own_e1 31 (.newarray .int) 2 := by decide +kernel
theorem d1_33 : own_e1 33 (.putfield 20) 3 := by decide +kernel
theorem d1_36 : own_e1 36 (.aload_n 0) 1 := by decide +kernel
theorem d1_37 : own_e1 37 (.bipush 16) 2 := by decide +kernel
theorem d1_39 : own_e1 39 (.newarray .int) 2 := by decide +kernel
theorem d1_41 : own_e1 41 (.putfield 23) 3 := by decide +kernel
theorem d1_44 : own_e1 44 (.aload_n 0) 1 := by decide +kernel
theorem d1_45 : own_e1 45 (.bipush 16) 2 := by decide +kernel
theorem d1_47 : own_e1 47 (.newarray .byte) 2 := by decide +kernel
theorem d1_49 : own_e1 49 (.putfield 26) 3 := by decide +kernel
theorem d1_52 : own_e1 52 (.aload_n 0) 1 := by decide +kernel
theorem d1_53 : own_e1 53 (.iconst 0) 1 := by decide +kernel
theorem d1_54 : own_e1 54 (.putfield 30) 3 := by decide +kernel
theorem d1_57 : own_e1 57 (.aload_n 0) 1 := by decide +kernel
theorem d1_58 : own_e1 58 (.iconst 1) 1 := by decide +kernel
theorem d1_59 : own_e1 59 (.putfield 34) 3 := by decide +kernel
theorem d1_62 : own_e1 62 (.aload_n 0) 1 := by decide +kernel
theorem d1_63 : own_e1 63 (.iconst 0) 1 := by decide +kernel
theorem d1_64 : own_e1 64 (.putfield 37) 3 := by decide +kernel
theorem d1_67 : own_e1 67 .return_ 1 := by decide +kernel
theorem ef_1 (m : MethodId) (a1 : Addr) : entryFrame m #[(.ref a1)] 1 = mkF m 0 #[.val (.ref a1)] [] := by first | (simp [entryFrame, mkF, argsToLocals, Value.category]; done) | rfl
def Q1 (Z : State) (a1 : Addr) (val : Nat → UInt64) (h0 : Heap) (n0 : Nat) (v : Option Value) (h : Heap) (L : List Loc) : Prop := ∃ (ak : Addr) (al : Addr) (ar : Addr) (ac : Addr) (au : Addr) (ah : Addr) (kk : ClassId) (kl : ClassId) (kr : ClassId) (kc : ClassId) (ku : ClassId) (kh : ClassId), v = none ∧ Fr n0 L ∧ Keep h0 h [a1] ∧ Fld Z h a1 "com/example/prequential/prequential/measure/ScoreMultiset" "key" "[D" (.ref ak) ∧ Fld Z h a1 "com/example/prequential/prequential/measure/ScoreMultiset" "left" "[I" (.ref al) ∧ Fld Z h a1 "com/example/prequential/prequential/measure/ScoreMultiset" "right" "[I" (.ref ar) ∧ Fld Z h a1 "com/example/prequential/prequential/measure/ScoreMultiset" "count" "[I" (.ref ac) ∧ Fld Z h a1 "com/example/prequential/prequential/measure/ScoreMultiset" "total" "[I" (.ref au) ∧ Fld Z h a1 "com/example/prequential/prequential/measure/ScoreMultiset" "height" "[B" (.ref ah) ∧ Fld Z h a1 "com/example/prequential/prequential/measure/ScoreMultiset" "root" "I" (.int (0 : Int32)) ∧ Fld Z h a1 "com/example/prequential/prequential/measure/ScoreMultiset" "unused" "I" (.int (1 : Int32)) ∧ Fld Z h a1 "com/example/prequential/prequential/measure/ScoreMultiset" "freed" "I" (.int (0 : Int32)) ∧ Fld Z h a1 "com/example/prequential/prequential/measure/ScoreMultiset" "reshaped" "Z" (.int (0 : Int32)) ∧ Arv Z h al kl .int (16 : Int32) (own_v own_z16) (.int (0 : Int32)) ∧ Arv Z h ar kr .int (16 : Int32) (own_v own_z16) (.int (0 : Int32)) ∧ Arv Z h ac kc .int (16 : Int32) (own_v own_z16) (.int (0 : Int32)) ∧ Arv Z h au ku .int (16 : Int32) (own_v own_z16) (.int (0 : Int32)) ∧ Arv Z h ah kh .byte (16 : Int32) (own_v own_z16) (.int (0 : Int32)) ∧ own_Kar Z h ak kk own_K0 val ∧ h0.size ≤ ak ∧ h0.size ≤ al ∧ h0.size ≤ ar ∧ h0.size ≤ ac ∧ h0.size ≤ au ∧ h0.size ≤ ah ∧ al ≠ ar ∧ al ≠ ac ∧ ar ≠ ac ∧ al ≠ au ∧ ar ≠ au ∧ ac ≠ au
set_option maxRecDepth 65536 in
set_option maxHeartbeats 40000000 in
theorem rm1 (l : Launch) (Z : State) (a0 : Array Value) (hw : ∀ d ∈ tables_1, d.before a0 Z = true) (ws : List Jvm.Cond) (a1 : Addr) (val : Nat → UInt64) (h0 : Heap) (n0 : Nat) (Z0 : n0 ≤ h0.size) (H0 : Exa Z h0 a1 "com/example/prequential/prequential/measure/ScoreMultiset") (H1 : Fld Z h0 a1 "com/example/prequential/prequential/measure/ScoreMultiset" "key" "[D" .null) (H2 : Fld Z h0 a1 "com/example/prequential/prequential/measure/ScoreMultiset" "left" "[I" .null) (H3 : Fld Z h0 a1 "com/example/prequential/prequential/measure/ScoreMultiset" "right" "[I" .null) (H4 : Fld Z h0 a1 "com/example/prequential/prequential/measure/ScoreMultiset" "count" "[I" .null) (H5 : Fld Z h0 a1 "com/example/prequential/prequential/measure/ScoreMultiset" "total" "[I" .null) (H6 : Fld Z h0 a1 "com/example/prequential/prequential/measure/ScoreMultiset" "height" "[B" .null) (H7 : Fld Z h0 a1 "com/example/prequential/prequential/measure/ScoreMultiset" "root" "I" (.int (0 : Int32))) (H8 : Fld Z h0 a1 "com/example/prequential/prequential/measure/ScoreMultiset" "unused" "I" (.int (0 : Int32))) (H9 : Fld Z h0 a1 "com/example/prequential/prequential/measure/ScoreMultiset" "freed" "I" (.int (0 : Int32))) (H10 : Fld Z h0 a1 "com/example/prequential/prequential/measure/ScoreMultiset" "reshaped" "Z" (.int (0 : Int32))) (H11 : n0 ≤ a1) (H12 : val 6 = 0) :
    own_MF l (⟨"com/example/prequential/prequential/measure/ScoreMultiset", "<init>", "()V"⟩ : MethodName) (Jvm.Cond.code (⟨"com/example/prequential/prequential/measure/ScoreMultiset", "<init>", "()V"⟩ : MethodName) prog_108_method_1_code 1 none :: ws) ({ frames := 1, cells := 6, slots := 96, locals := 12 } : Room) #[(.ref a1)] Z h0 (Q1 Z a1 val h0 n0) := by
  refine MetFree.of_bodySF (plainFor_of_name pn_com_example_prequential_prequential_measure_ScoreMultiset) hisR ?_
  intro p e s m args below meth c s₁ Bd hml0 hP hK
  obtain ⟨rfl, hZ, hh⟩ := hP
  have hx := Bd.exec
  have hby := Bd.bytes
  have hml : c.maxLocals = 1 := hml0
  have hown : s.vm.findClass "com/example/prequential/prequential/measure/ScoreMultiset" = some m.cls := findClass_of_methodNamed Bd.named
  have hnm := (name_of_methodNamed Bd.named Bd.method).1
  have X0 : Stand p l e ({ frames := 1, cells := 6, slots := 96, locals := 12 } : Room) s m #[(.ref a1)] below meth c s₁ [] 0 0 := Stand.of_body Bd
  have e0 : s₁.heap = h0 := by rw [← hh, Bd.state]; rfl
  have N0 := Fr.nil n0
  have pre0 : ∀ t, Steps p.tables e below (s₁.setTop (mkF m 0 #[.val (.ref a1)] [])) t → Steps p.tables e below (s₁.setTop (entryFrame m #[(.ref a1)] 1)) t := fun t k => castTop (ef_1 m a1) k
  obtain ⟨T101, X101, e101, st101⟩ := initO X0 hx hZ hown (own_w hw 7 rfl) (own_w hw 8 rfl) (own_w hw 9 rfl) e0 (g := (mkF m 1 #[.val (.ref a1)] [(.ref a1)])) rfl (by rw [hml]; rfl) rfl (hb hby d1_1) (by decide) (W := 0) (by show 2 * 0 + _ ≤ _; exact Nat.le_of_eq rfl) (by decide)
  obtain ⟨T102, h102, k102, X102, e102, E102, A102, Qe102, st102⟩ := newPE X101 hx hZ (own_w hw 10 rfl) e101 (g := (mkF m 7 #[.val (.ref a1)] [(.int (16 : Int32)), (.ref a1)])) rfl (hb hby d1_7) rfl (by decide) (cap := 16) (by decide) (by decide) (by decide) (by decide) (ad := "[D") (by decide)
  obtain ⟨b102, g102⟩ : ∃ z, z = h0.size := ⟨_, rfl⟩
  rw [← g102] at A102 Qe102 st102
  have V102 : own_Kar Z h102 b102 k102 own_K0 val := own_Kar.fresh A102 H12
  have f103 := (H1.ext E102)
  have f104 := (H0.ext E102)
  obtain ⟨T105, h105, X105, e105, W105, st105⟩ := putF X102 hx hZ hown (host := "") (Or.inl (own_w hw 11 rfl)) Via.refl e102 f103 f104 (Or.inl (own_w hw 12 rfl)) (own_w hw 2 rfl) (ty := (.array .double)) (by decide) rfl rfl (g := (mkF m 9 #[.val (.ref a1)] [(.ref b102), (.ref a1)])) rfl rfl (hb hby d1_9)
  have Fw105 := f103.same W105
  have N105 := Fr.snoc X105 N0 H11
  obtain ⟨T106, h106, k106, X106, e106, E106, A106, Qe106, st106⟩ := newPE X105 hx hZ (own_w hw 13 rfl) e105 (g := (mkF m 15 #[.val (.ref a1)] [(.int (16 : Int32)), (.ref a1)])) rfl (hb hby d1_15) rfl (by decide) (cap := 16) (by decide) (by decide) (by decide) (by decide) (ad := "[I") (by decide)
  obtain ⟨b106, g106⟩ : ∃ z, z = h105.size := ⟨_, rfl⟩
  rw [← g106] at A106 Qe106 st106
  have V106 : Arv Z h106 b106 k106 .int (16 : Int32) (own_zl (.int (0 : Int32)) (.int (0 : Int32))) (.int (0 : Int32)) := (Arv.new A106 (by decide)).pad (pad_rep [] (.int (0 : Int32)) 16)
  have f107 := (((H2.ext E102).other W105 (Or.inr (slot_ne (Or.inl (own_w hw 15 rfl)) (Or.inl (own_w hw 12 rfl)) (by decide) (t := (.array .int)) (t' := (.array .double)) (by decide) (by decide)))).ext E106)
  have f108 := ((f104.wr W105).ext E106)
  obtain ⟨T109, h109, X109, e109, W109, st109⟩ := putF X106 hx hZ hown (host := "") (Or.inl (own_w hw 14 rfl)) Via.refl e106 f107 f108 (Or.inl (own_w hw 15 rfl)) (own_w hw 2 rfl) (ty := (.array .int)) (by decide) rfl rfl (g := (mkF m 17 #[.val (.ref a1)] [(.ref b106), (.ref a1)])) rfl rfl (hb hby d1_17)
  have Fw109 := f107.same W109
  have N109 := Fr.snoc X109 N105 H11
  obtain ⟨T110, h110, k110, X110, e110, E110, A110, Qe110, st110⟩ := newPE X109 hx hZ (own_w hw 13 rfl) e109 (g := (mkF m 23 #[.val (.ref a1)] [(.int (16 : Int32)), (.ref a1)])) rfl (hb hby d1_23) rfl (by decide) (cap := 16) (by decide) (by decide) (by decide) (by decide) (ad := "[I") (by decide)
  obtain ⟨b110, g110⟩ : ∃ z, z = h109.size := ⟨_, rfl⟩
  rw [← g110] at A110 Qe110 st110
  have V110 : Arv Z h110 b110 k110 .int (16 : Int32) (own_zl (.int (0 : Int32)) (.int (0 : Int32))) (.int (0 : Int32)) := (Arv.new A110 (by decide)).pad (pad_rep [] (.int (0 : Int32)) 16)
  have f111 := (((((H3.ext E102).other W105 (Or.inr (slot_ne (Or.inl (own_w hw 17 rfl)) (Or.inl (own_w hw 12 rfl)) (by decide) (t := (.array .int)) (t' := (.array .double)) (by decide) (by decide)))).ext E106).other W109 (Or.inr (slot_ne (Or.inl (own_w hw 17 rfl)) (Or.inl (own_w hw 15 rfl)) (by decide) (t := (.array .int)) (t' := (.array .int)) (by decide) (by decide)))).ext E110)
  have f112 := ((f108.wr W109).ext E110)
  obtain ⟨T113, h113, X113, e113, W113, st113⟩ := putF X110 hx hZ hown (host := "") (Or.inl (own_w hw 16 rfl)) Via.refl e110 f111 f112 (Or.inl (own_w hw 17 rfl)) (own_w hw 2 rfl) (ty := (.array .int)) (by decide) rfl rfl (g := (mkF m 25 #[.val (.ref a1)] [(.ref b110), (.ref a1)])) rfl rfl (hb hby d1_25)
  have Fw113 := f111.same W113
  have N113 := Fr.snoc X113 N109 H11
  obtain ⟨T114, h114, k114, X114, e114, E114, A114, Qe114, st114⟩ := newPE X113 hx hZ (own_w hw 13 rfl) e113 (g := (mkF m 31 #[.val (.ref a1)] [(.int (16 : Int32)), (.ref a1)])) rfl (hb hby d1_31) rfl (by decide) (cap := 16) (by decide) (by decide) (by decide) (by decide) (ad := "[I") (by decide)
  obtain ⟨b114, g114⟩ : ∃ z, z = h113.size := ⟨_, rfl⟩
  rw [← g114] at A114 Qe114 st114
  have V114 : Arv Z h114 b114 k114 .int (16 : Int32) (own_zl (.int (0 : Int32)) (.int (0 : Int32))) (.int (0 : Int32)) := (Arv.new A114 (by decide)).pad (pad_rep [] (.int (0 : Int32)) 16)
  have f115 := (((((((H4.ext E102).other W105 (Or.inr (slot_ne (Or.inl (own_w hw 19 rfl)) (Or.inl (own_w hw 12 rfl)) (by decide) (t := (.array .int)) (t' := (.array .double)) (by decide) (by decide)))).ext E106).other W109 (Or.inr (slot_ne (Or.inl (own_w hw 19 rfl)) (Or.inl (own_w hw 15 rfl)) (by decide) (t := (.array .int)) (t' := (.array .int)) (by decide) (by decide)))).ext E110).other W113 (Or.inr (slot_ne (Or.inl (own_w hw 19 rfl)) (Or.inl (own_w hw 17 rfl)) (by decide) (t := (.array .int)) (t' := (.array .int)) (by decide) (by decide)))).ext E114)
  have f116 := ((f112.wr W113).ext E114)
  obtain ⟨T117, h117, X117, e117, W117, st117⟩ := putF X114 hx hZ hown (host := "") (Or.inl (own_w hw 18 rfl)) Via.refl e114 f115 f116 (Or.inl (own_w hw 19 rfl)) (own_w hw 2 rfl) (ty := (.array .int)) (by decide) rfl rfl (g := (mkF m 33 #[.val (.ref a1)] [(.ref b114), (.ref a1)])) rfl rfl (hb hby d1_33)
  have Fw117 := f115.same W117
  have N117 := Fr.snoc X117 N113 H11
  obtain ⟨T118, h118, k118, X118, e118, E118, A118, Qe118, st118⟩ := newPE X117 hx hZ (own_w hw 13 rfl) e117 (g := (mkF m 39 #[.val (.ref a1)] [(.int (16 : Int32)), (.ref a1)])) rfl (hb hby d1_39) rfl (by decide) (cap := 16) (by decide) (by decide) (by decide) (by decide) (ad := "[I") (by decide)
  obtain ⟨b118, g118⟩ : ∃ z, z = h117.size := ⟨_, rfl⟩
  rw [← g118] at A118 Qe118 st118
  have V118 : Arv Z h118 b118 k118 .int (16 : Int32) (own_zl (.int (0 : Int32)) (.int (0 : Int32))) (.int (0 : Int32)) := (Arv.new A118 (by decide)).pad (pad_rep [] (.int (0 : Int32)) 16)
  have f119 := (((((((((H5.ext E102).other W105 (Or.inr (slot_ne (Or.inl (own_w hw 21 rfl)) (Or.inl (own_w hw 12 rfl)) (by decide) (t := (.array .int)) (t' := (.array .double)) (by decide) (by decide)))).ext E106).other W109 (Or.inr (slot_ne (Or.inl (own_w hw 21 rfl)) (Or.inl (own_w hw 15 rfl)) (by decide) (t := (.array .int)) (t' := (.array .int)) (by decide) (by decide)))).ext E110).other W113 (Or.inr (slot_ne (Or.inl (own_w hw 21 rfl)) (Or.inl (own_w hw 17 rfl)) (by decide) (t := (.array .int)) (t' := (.array .int)) (by decide) (by decide)))).ext E114).other W117 (Or.inr (slot_ne (Or.inl (own_w hw 21 rfl)) (Or.inl (own_w hw 19 rfl)) (by decide) (t := (.array .int)) (t' := (.array .int)) (by decide) (by decide)))).ext E118)
  have f120 := ((f116.wr W117).ext E118)
  obtain ⟨T121, h121, X121, e121, W121, st121⟩ := putF X118 hx hZ hown (host := "") (Or.inl (own_w hw 20 rfl)) Via.refl e118 f119 f120 (Or.inl (own_w hw 21 rfl)) (own_w hw 2 rfl) (ty := (.array .int)) (by decide) rfl rfl (g := (mkF m 41 #[.val (.ref a1)] [(.ref b118), (.ref a1)])) rfl rfl (hb hby d1_41)
  have Fw121 := f119.same W121
  have N121 := Fr.snoc X121 N117 H11
  obtain ⟨T122, h122, k122, X122, e122, E122, A122, Qe122, st122⟩ := newPE X121 hx hZ (own_w hw 22 rfl) e121 (g := (mkF m 47 #[.val (.ref a1)] [(.int (16 : Int32)), (.ref a1)])) rfl (hb hby d1_47) rfl (by decide) (cap := 16) (by decide) (by decide) (by decide) (by decide) (ad := "[B") (by decide)
  obtain ⟨b122, g122⟩ : ∃ z, z = h121.size := ⟨_, rfl⟩
  rw [← g122] at A122 Qe122 st122
  have V122 : Arv Z h122 b122 k122 .byte (16 : Int32) (own_zl (.int (0 : Int32)) (.int (0 : Int32))) (.int (0 : Int32)) := (Arv.new A122 (by decide)).pad (pad_rep [] (.int (0 : Int32)) 16)
  have f123 := (((((((((((H6.ext E102).other W105 (Or.inr (slot_ne (Or.inl (own_w hw 24 rfl)) (Or.inl (own_w hw 12 rfl)) (by decide) (t := (.array .byte)) (t' := (.array .double)) (by decide) (by decide)))).ext E106).other W109 (Or.inr (slot_ne (Or.inl (own_w hw 24 rfl)) (Or.inl (own_w hw 15 rfl)) (by decide) (t := (.array .byte)) (t' := (.array .int)) (by decide) (by decide)))).ext E110).other W113 (Or.inr (slot_ne (Or.inl (own_w hw 24 rfl)) (Or.inl (own_w hw 17 rfl)) (by decide) (t := (.array .byte)) (t' := (.array .int)) (by decide) (by decide)))).ext E114).other W117 (Or.inr (slot_ne (Or.inl (own_w hw 24 rfl)) (Or.inl (own_w hw 19 rfl)) (by decide) (t := (.array .byte)) (t' := (.array .int)) (by decide) (by decide)))).ext E118).other W121 (Or.inr (slot_ne (Or.inl (own_w hw 24 rfl)) (Or.inl (own_w hw 21 rfl)) (by decide) (t := (.array .byte)) (t' := (.array .int)) (by decide) (by decide)))).ext E122)
  have f124 := ((f120.wr W121).ext E122)
  obtain ⟨T125, h125, X125, e125, W125, st125⟩ := putF X122 hx hZ hown (host := "") (Or.inl (own_w hw 23 rfl)) Via.refl e122 f123 f124 (Or.inl (own_w hw 24 rfl)) (own_w hw 2 rfl) (ty := (.array .byte)) (by decide) rfl rfl (g := (mkF m 49 #[.val (.ref a1)] [(.ref b122), (.ref a1)])) rfl rfl (hb hby d1_49)
  have Fw125 := f123.same W125
  have N125 := Fr.snoc X125 N121 H11
  have f126 := ((((((((((((H7.ext E102).other W105 (Or.inr (slot_ne (Or.inl (own_w hw 26 rfl)) (Or.inl (own_w hw 12 rfl)) (by decide) (t := .int) (t' := (.array .double)) (by decide) (by decide)))).ext E106).other W109 (Or.inr (slot_ne (Or.inl (own_w hw 26 rfl)) (Or.inl (own_w hw 15 rfl)) (by decide) (t := .int) (t' := (.array .int)) (by decide) (by decide)))).ext E110).other W113 (Or.inr (slot_ne (Or.inl (own_w hw 26 rfl)) (Or.inl (own_w hw 17 rfl)) (by decide) (t := .int) (t' := (.array .int)) (by decide) (by decide)))).ext E114).other W117 (Or.inr (slot_ne (Or.inl (own_w hw 26 rfl)) (Or.inl (own_w hw 19 rfl)) (by decide) (t := .int) (t' := (.array .int)) (by decide) (by decide)))).ext E118).other W121 (Or.inr (slot_ne (Or.inl (own_w hw 26 rfl)) (Or.inl (own_w hw 21 rfl)) (by decide) (t := .int) (t' := (.array .int)) (by decide) (by decide)))).ext E122).other W125 (Or.inr (slot_ne (Or.inl (own_w hw 26 rfl)) (Or.inl (own_w hw 24 rfl)) (by decide) (t := .int) (t' := (.array .byte)) (by decide) (by decide))))
  have f127 := (f124.wr W125)
  obtain ⟨T128, h128, X128, e128, W128, st128⟩ := putF X125 hx hZ hown (host := "") (Or.inl (own_w hw 25 rfl)) Via.refl e125 f126 f127 (Or.inl (own_w hw 26 rfl)) (own_w hw 2 rfl) (ty := .int) (by decide) rfl rfl (g := (mkF m 54 #[.val (.ref a1)] [(.int (0 : Int32)), (.ref a1)])) rfl rfl (hb hby d1_54)
  have Fw128 := f126.same W128
  have N128 := Fr.snoc X128 N125 H11
  have f129 := (((((((((((((H8.ext E102).other W105 (Or.inr (slot_ne (Or.inl (own_w hw 28 rfl)) (Or.inl (own_w hw 12 rfl)) (by decide) (t := .int) (t' := (.array .double)) (by decide) (by decide)))).ext E106).other W109 (Or.inr (slot_ne (Or.inl (own_w hw 28 rfl)) (Or.inl (own_w hw 15 rfl)) (by decide) (t := .int) (t' := (.array .int)) (by decide) (by decide)))).ext E110).other W113 (Or.inr (slot_ne (Or.inl (own_w hw 28 rfl)) (Or.inl (own_w hw 17 rfl)) (by decide) (t := .int) (t' := (.array .int)) (by decide) (by decide)))).ext E114).other W117 (Or.inr (slot_ne (Or.inl (own_w hw 28 rfl)) (Or.inl (own_w hw 19 rfl)) (by decide) (t := .int) (t' := (.array .int)) (by decide) (by decide)))).ext E118).other W121 (Or.inr (slot_ne (Or.inl (own_w hw 28 rfl)) (Or.inl (own_w hw 21 rfl)) (by decide) (t := .int) (t' := (.array .int)) (by decide) (by decide)))).ext E122).other W125 (Or.inr (slot_ne (Or.inl (own_w hw 28 rfl)) (Or.inl (own_w hw 24 rfl)) (by decide) (t := .int) (t' := (.array .byte)) (by decide) (by decide)))).other W128 (Or.inr (slot_ne (Or.inl (own_w hw 28 rfl)) (Or.inl (own_w hw 26 rfl)) (by decide) (t := .int) (t' := .int) (by decide) (by decide))))
  have f130 := (f127.wr W128)
  obtain ⟨T131, h131, X131, e131, W131, st131⟩ := putF X128 hx hZ hown (host := "") (Or.inl (own_w hw 27 rfl)) Via.refl e128 f129 f130 (Or.inl (own_w hw 28 rfl)) (own_w hw 2 rfl) (ty := .int) (by decide) rfl rfl (g := (mkF m 59 #[.val (.ref a1)] [(.int (1 : Int32)), (.ref a1)])) rfl rfl (hb hby d1_59)
  have Fw131 := f129.same W131
  have N131 := Fr.snoc X131 N128 H11
  have f132 := ((((((((((((((H9.ext E102).other W105 (Or.inr (slot_ne (Or.inl (own_w hw 30 rfl)) (Or.inl (own_w hw 12 rfl)) (by decide) (t := .int) (t' := (.array .double)) (by decide) (by decide)))).ext E106).other W109 (Or.inr (slot_ne (Or.inl (own_w hw 30 rfl)) (Or.inl (own_w hw 15 rfl)) (by decide) (t := .int) (t' := (.array .int)) (by decide) (by decide)))).ext E110).other W113 (Or.inr (slot_ne (Or.inl (own_w hw 30 rfl)) (Or.inl (own_w hw 17 rfl)) (by decide) (t := .int) (t' := (.array .int)) (by decide) (by decide)))).ext E114).other W117 (Or.inr (slot_ne (Or.inl (own_w hw 30 rfl)) (Or.inl (own_w hw 19 rfl)) (by decide) (t := .int) (t' := (.array .int)) (by decide) (by decide)))).ext E118).other W121 (Or.inr (slot_ne (Or.inl (own_w hw 30 rfl)) (Or.inl (own_w hw 21 rfl)) (by decide) (t := .int) (t' := (.array .int)) (by decide) (by decide)))).ext E122).other W125 (Or.inr (slot_ne (Or.inl (own_w hw 30 rfl)) (Or.inl (own_w hw 24 rfl)) (by decide) (t := .int) (t' := (.array .byte)) (by decide) (by decide)))).other W128 (Or.inr (slot_ne (Or.inl (own_w hw 30 rfl)) (Or.inl (own_w hw 26 rfl)) (by decide) (t := .int) (t' := .int) (by decide) (by decide)))).other W131 (Or.inr (slot_ne (Or.inl (own_w hw 30 rfl)) (Or.inl (own_w hw 28 rfl)) (by decide) (t := .int) (t' := .int) (by decide) (by decide))))
  have f133 := (f130.wr W131)
  obtain ⟨T134, h134, X134, e134, W134, st134⟩ := putF X131 hx hZ hown (host := "") (Or.inl (own_w hw 29 rfl)) Via.refl e131 f132 f133 (Or.inl (own_w hw 30 rfl)) (own_w hw 2 rfl) (ty := .int) (by decide) rfl rfl (g := (mkF m 64 #[.val (.ref a1)] [(.int (0 : Int32)), (.ref a1)])) rfl rfl (hb hby d1_64)
  have Fw134 := f132.same W134
  have N134 := Fr.snoc X134 N131 H11
  have f135 := (((((((((((((Fw105.ext E106).other W109 (Or.inr (slot_ne (Or.inl (own_w hw 12 rfl)) (Or.inl (own_w hw 15 rfl)) (by decide) (t := (.array .double)) (t' := (.array .int)) (by decide) (by decide)))).ext E110).other W113 (Or.inr (slot_ne (Or.inl (own_w hw 12 rfl)) (Or.inl (own_w hw 17 rfl)) (by decide) (t := (.array .double)) (t' := (.array .int)) (by decide) (by decide)))).ext E114).other W117 (Or.inr (slot_ne (Or.inl (own_w hw 12 rfl)) (Or.inl (own_w hw 19 rfl)) (by decide) (t := (.array .double)) (t' := (.array .int)) (by decide) (by decide)))).ext E118).other W121 (Or.inr (slot_ne (Or.inl (own_w hw 12 rfl)) (Or.inl (own_w hw 21 rfl)) (by decide) (t := (.array .double)) (t' := (.array .int)) (by decide) (by decide)))).ext E122).other W125 (Or.inr (slot_ne (Or.inl (own_w hw 12 rfl)) (Or.inl (own_w hw 24 rfl)) (by decide) (t := (.array .double)) (t' := (.array .byte)) (by decide) (by decide)))).other W128 (Or.inr (slot_ne (Or.inl (own_w hw 12 rfl)) (Or.inl (own_w hw 26 rfl)) (by decide) (t := (.array .double)) (t' := .int) (by decide) (by decide)))).other W131 (Or.inr (slot_ne (Or.inl (own_w hw 12 rfl)) (Or.inl (own_w hw 28 rfl)) (by decide) (t := (.array .double)) (t' := .int) (by decide) (by decide)))).other W134 (Or.inr (slot_ne (Or.inl (own_w hw 12 rfl)) (Or.inl (own_w hw 30 rfl)) (by decide) (t := (.array .double)) (t' := .int) (by decide) (by decide))))
  have f136 := (((((((((((Fw109.ext E110).other W113 (Or.inr (slot_ne (Or.inl (own_w hw 15 rfl)) (Or.inl (own_w hw 17 rfl)) (by decide) (t := (.array .int)) (t' := (.array .int)) (by decide) (by decide)))).ext E114).other W117 (Or.inr (slot_ne (Or.inl (own_w hw 15 rfl)) (Or.inl (own_w hw 19 rfl)) (by decide) (t := (.array .int)) (t' := (.array .int)) (by decide) (by decide)))).ext E118).other W121 (Or.inr (slot_ne (Or.inl (own_w hw 15 rfl)) (Or.inl (own_w hw 21 rfl)) (by decide) (t := (.array .int)) (t' := (.array .int)) (by decide) (by decide)))).ext E122).other W125 (Or.inr (slot_ne (Or.inl (own_w hw 15 rfl)) (Or.inl (own_w hw 24 rfl)) (by decide) (t := (.array .int)) (t' := (.array .byte)) (by decide) (by decide)))).other W128 (Or.inr (slot_ne (Or.inl (own_w hw 15 rfl)) (Or.inl (own_w hw 26 rfl)) (by decide) (t := (.array .int)) (t' := .int) (by decide) (by decide)))).other W131 (Or.inr (slot_ne (Or.inl (own_w hw 15 rfl)) (Or.inl (own_w hw 28 rfl)) (by decide) (t := (.array .int)) (t' := .int) (by decide) (by decide)))).other W134 (Or.inr (slot_ne (Or.inl (own_w hw 15 rfl)) (Or.inl (own_w hw 30 rfl)) (by decide) (t := (.array .int)) (t' := .int) (by decide) (by decide))))
  have f137 := (((((((((Fw113.ext E114).other W117 (Or.inr (slot_ne (Or.inl (own_w hw 17 rfl)) (Or.inl (own_w hw 19 rfl)) (by decide) (t := (.array .int)) (t' := (.array .int)) (by decide) (by decide)))).ext E118).other W121 (Or.inr (slot_ne (Or.inl (own_w hw 17 rfl)) (Or.inl (own_w hw 21 rfl)) (by decide) (t := (.array .int)) (t' := (.array .int)) (by decide) (by decide)))).ext E122).other W125 (Or.inr (slot_ne (Or.inl (own_w hw 17 rfl)) (Or.inl (own_w hw 24 rfl)) (by decide) (t := (.array .int)) (t' := (.array .byte)) (by decide) (by decide)))).other W128 (Or.inr (slot_ne (Or.inl (own_w hw 17 rfl)) (Or.inl (own_w hw 26 rfl)) (by decide) (t := (.array .int)) (t' := .int) (by decide) (by decide)))).other W131 (Or.inr (slot_ne (Or.inl (own_w hw 17 rfl)) (Or.inl (own_w hw 28 rfl)) (by decide) (t := (.array .int)) (t' := .int) (by decide) (by decide)))).other W134 (Or.inr (slot_ne (Or.inl (own_w hw 17 rfl)) (Or.inl (own_w hw 30 rfl)) (by decide) (t := (.array .int)) (t' := .int) (by decide) (by decide))))
  have f138 := (((((((Fw117.ext E118).other W121 (Or.inr (slot_ne (Or.inl (own_w hw 19 rfl)) (Or.inl (own_w hw 21 rfl)) (by decide) (t := (.array .int)) (t' := (.array .int)) (by decide) (by decide)))).ext E122).other W125 (Or.inr (slot_ne (Or.inl (own_w hw 19 rfl)) (Or.inl (own_w hw 24 rfl)) (by decide) (t := (.array .int)) (t' := (.array .byte)) (by decide) (by decide)))).other W128 (Or.inr (slot_ne (Or.inl (own_w hw 19 rfl)) (Or.inl (own_w hw 26 rfl)) (by decide) (t := (.array .int)) (t' := .int) (by decide) (by decide)))).other W131 (Or.inr (slot_ne (Or.inl (own_w hw 19 rfl)) (Or.inl (own_w hw 28 rfl)) (by decide) (t := (.array .int)) (t' := .int) (by decide) (by decide)))).other W134 (Or.inr (slot_ne (Or.inl (own_w hw 19 rfl)) (Or.inl (own_w hw 30 rfl)) (by decide) (t := (.array .int)) (t' := .int) (by decide) (by decide))))
  have f139 := (((((Fw121.ext E122).other W125 (Or.inr (slot_ne (Or.inl (own_w hw 21 rfl)) (Or.inl (own_w hw 24 rfl)) (by decide) (t := (.array .int)) (t' := (.array .byte)) (by decide) (by decide)))).other W128 (Or.inr (slot_ne (Or.inl (own_w hw 21 rfl)) (Or.inl (own_w hw 26 rfl)) (by decide) (t := (.array .int)) (t' := .int) (by decide) (by decide)))).other W131 (Or.inr (slot_ne (Or.inl (own_w hw 21 rfl)) (Or.inl (own_w hw 28 rfl)) (by decide) (t := (.array .int)) (t' := .int) (by decide) (by decide)))).other W134 (Or.inr (slot_ne (Or.inl (own_w hw 21 rfl)) (Or.inl (own_w hw 30 rfl)) (by decide) (t := (.array .int)) (t' := .int) (by decide) (by decide))))
  have f140 := (((Fw125.other W128 (Or.inr (slot_ne (Or.inl (own_w hw 24 rfl)) (Or.inl (own_w hw 26 rfl)) (by decide) (t := (.array .byte)) (t' := .int) (by decide) (by decide)))).other W131 (Or.inr (slot_ne (Or.inl (own_w hw 24 rfl)) (Or.inl (own_w hw 28 rfl)) (by decide) (t := (.array .byte)) (t' := .int) (by decide) (by decide)))).other W134 (Or.inr (slot_ne (Or.inl (own_w hw 24 rfl)) (Or.inl (own_w hw 30 rfl)) (by decide) (t := (.array .byte)) (t' := .int) (by decide) (by decide))))
  have f141 := ((Fw128.other W131 (Or.inr (slot_ne (Or.inl (own_w hw 26 rfl)) (Or.inl (own_w hw 28 rfl)) (by decide) (t := .int) (t' := .int) (by decide) (by decide)))).other W134 (Or.inr (slot_ne (Or.inl (own_w hw 26 rfl)) (Or.inl (own_w hw 30 rfl)) (by decide) (t := .int) (t' := .int) (by decide) (by decide))))
  have f142 := (Fw131.other W134 (Or.inr (slot_ne (Or.inl (own_w hw 28 rfl)) (Or.inl (own_w hw 30 rfl)) (by decide) (t := .int) (t' := .int) (by decide) (by decide))))
  have f143 := (((((((((((((((H10.ext E102).other W105 (Or.inr (slot_ne (Or.inl (own_w hw 37 rfl)) (Or.inl (own_w hw 12 rfl)) (by decide) (t := .boolean) (t' := (.array .double)) (by decide) (by decide)))).ext E106).other W109 (Or.inr (slot_ne (Or.inl (own_w hw 37 rfl)) (Or.inl (own_w hw 15 rfl)) (by decide) (t := .boolean) (t' := (.array .int)) (by decide) (by decide)))).ext E110).other W113 (Or.inr (slot_ne (Or.inl (own_w hw 37 rfl)) (Or.inl (own_w hw 17 rfl)) (by decide) (t := .boolean) (t' := (.array .int)) (by decide) (by decide)))).ext E114).other W117 (Or.inr (slot_ne (Or.inl (own_w hw 37 rfl)) (Or.inl (own_w hw 19 rfl)) (by decide) (t := .boolean) (t' := (.array .int)) (by decide) (by decide)))).ext E118).other W121 (Or.inr (slot_ne (Or.inl (own_w hw 37 rfl)) (Or.inl (own_w hw 21 rfl)) (by decide) (t := .boolean) (t' := (.array .int)) (by decide) (by decide)))).ext E122).other W125 (Or.inr (slot_ne (Or.inl (own_w hw 37 rfl)) (Or.inl (own_w hw 24 rfl)) (by decide) (t := .boolean) (t' := (.array .byte)) (by decide) (by decide)))).other W128 (Or.inr (slot_ne (Or.inl (own_w hw 37 rfl)) (Or.inl (own_w hw 26 rfl)) (by decide) (t := .boolean) (t' := .int) (by decide) (by decide)))).other W131 (Or.inr (slot_ne (Or.inl (own_w hw 37 rfl)) (Or.inl (own_w hw 28 rfl)) (by decide) (t := .boolean) (t' := .int) (by decide) (by decide)))).other W134 (Or.inr (slot_ne (Or.inl (own_w hw 37 rfl)) (Or.inl (own_w hw 30 rfl)) (by decide) (t := .boolean) (t' := .int) (by decide) (by decide))))
  have ne144 : a1 ≠ b106 := (Nat.ne_of_lt (Nat.lt_of_lt_of_le (f104.wr W105).lt (Nat.le_of_eq g106.symm)))
  have f145 := ((((((((((((V106.other W109 (Ne.symm ne144)).ext E110).other W113 (Ne.symm ne144)).ext E114).other W117 (Ne.symm ne144)).ext E118).other W121 (Ne.symm ne144)).ext E122).other W125 (Ne.symm ne144)).other W128 (Ne.symm ne144)).other W131 (Ne.symm ne144)).other W134 (Ne.symm ne144))
  have ne146 : a1 ≠ b110 := (Nat.ne_of_lt (Nat.lt_of_lt_of_le (f108.wr W109).lt (Nat.le_of_eq g110.symm)))
  have f147 := ((((((((((V110.other W113 (Ne.symm ne146)).ext E114).other W117 (Ne.symm ne146)).ext E118).other W121 (Ne.symm ne146)).ext E122).other W125 (Ne.symm ne146)).other W128 (Ne.symm ne146)).other W131 (Ne.symm ne146)).other W134 (Ne.symm ne146))
  have ne148 : a1 ≠ b114 := (Nat.ne_of_lt (Nat.lt_of_lt_of_le (f112.wr W113).lt (Nat.le_of_eq g114.symm)))
  have f149 := ((((((((V114.other W117 (Ne.symm ne148)).ext E118).other W121 (Ne.symm ne148)).ext E122).other W125 (Ne.symm ne148)).other W128 (Ne.symm ne148)).other W131 (Ne.symm ne148)).other W134 (Ne.symm ne148))
  have ne150 : a1 ≠ b118 := (Nat.ne_of_lt (Nat.lt_of_lt_of_le (f116.wr W117).lt (Nat.le_of_eq g118.symm)))
  have f151 := ((((((V118.other W121 (Ne.symm ne150)).ext E122).other W125 (Ne.symm ne150)).other W128 (Ne.symm ne150)).other W131 (Ne.symm ne150)).other W134 (Ne.symm ne150))
  have ne152 : a1 ≠ b122 := (Nat.ne_of_lt (Nat.lt_of_lt_of_le (f120.wr W121).lt (Nat.le_of_eq g122.symm)))
  have f153 := ((((V122.other W125 (Ne.symm ne152)).other W128 (Ne.symm ne152)).other W131 (Ne.symm ne152)).other W134 (Ne.symm ne152))
  have ne154 : a1 ≠ b102 := (Nat.ne_of_lt (Nat.lt_of_lt_of_le H0.lt (Nat.le_of_eq g102.symm)))
  have f155 := ((((((((((((((V102.other W105 (Ne.symm ne154)).ext E106).other W109 (Ne.symm ne154)).ext E110).other W113 (Ne.symm ne154)).ext E114).other W117 (Ne.symm ne154)).ext E118).other W121 (Ne.symm ne154)).ext E122).other W125 (Ne.symm ne154)).other W128 (Ne.symm ne154)).other W131 (Ne.symm ne154)).other W134 (Ne.symm ne154))
  have ne156 : b106 ≠ b110 := (Nat.ne_of_lt (Nat.lt_of_lt_of_le (Qe106.wr W109).lt (Nat.le_of_eq g110.symm)))
  have ne157 : b106 ≠ b114 := (Nat.ne_of_lt (Nat.lt_of_lt_of_le (((Qe106.wr W109).ext E110).wr W113).lt (Nat.le_of_eq g114.symm)))
  have ne158 : b110 ≠ b114 := (Nat.ne_of_lt (Nat.lt_of_lt_of_le (Qe110.wr W113).lt (Nat.le_of_eq g114.symm)))
  have ne159 : b106 ≠ b118 := (Nat.ne_of_lt (Nat.lt_of_lt_of_le (((((Qe106.wr W109).ext E110).wr W113).ext E114).wr W117).lt (Nat.le_of_eq g118.symm)))
  have ne160 : b110 ≠ b118 := (Nat.ne_of_lt (Nat.lt_of_lt_of_le (((Qe110.wr W113).ext E114).wr W117).lt (Nat.le_of_eq g118.symm)))
  have ne161 : b114 ≠ b118 := (Nat.ne_of_lt (Nat.lt_of_lt_of_le (Qe114.wr W117).lt (Nat.le_of_eq g118.symm)))
  obtain ⟨fs, hr, hrun, hended, hW, hsame⟩ := X134.leave (v := none) (fun _ => rfl) (BodyLoose.notSynchronized Bd)
  refine ⟨_, _, pre0 _ ?_, hrun, hended, _, _, rfl, ?_, ⟨_, rfl⟩, hW, hsame.mono (by decide) (by decide)⟩
  · skip
    show Steps p.tables e below (s₁.setTop (mkF m 0 #[.val (.ref a1)] [])) _
    refine XS.aloadN X0.here hx rfl (hb hby d1_0) rfl rfl ?_
    refine st101 _ ?_
    refine XS.aloadN X101.here hx rfl (hb hby d1_4) rfl rfl ?_
    refine XS.bipush X101.here hx rfl (hb hby d1_5) ?_
    refine st102 _ ?_
    refine st105 _ ?_
    refine XS.aloadN X105.here hx rfl (hb hby d1_12) rfl rfl ?_
    refine XS.bipush X105.here hx rfl (hb hby d1_13) ?_
    refine st106 _ ?_
    refine st109 _ ?_
    show Steps p.tables e below (T109.setTop (mkF m 20 #[.val (.ref a1)] [])) _
    refine XS.aloadN X109.here hx rfl (hb hby d1_20) rfl rfl ?_
    refine XS.bipush X109.here hx rfl (hb hby d1_21) ?_
    refine st110 _ ?_
    refine st113 _ ?_
    refine XS.aloadN X113.here hx rfl (hb hby d1_28) rfl rfl ?_
    refine XS.bipush X113.here hx rfl (hb hby d1_29) ?_
    refine st114 _ ?_
    refine st117 _ ?_
    refine XS.aloadN X117.here hx rfl (hb hby d1_36) rfl rfl ?_
    refine XS.bipush X117.here hx rfl (hb hby d1_37) ?_
    show Steps p.tables e below (T117.setTop (mkF m 39 #[.val (.ref a1)] [(.int (16 : Int32)), (.ref a1)])) _
    refine st118 _ ?_
    refine st121 _ ?_
    refine XS.aloadN X121.here hx rfl (hb hby d1_44) rfl rfl ?_
    refine XS.bipush X121.here hx rfl (hb hby d1_45) ?_
    refine st122 _ ?_
    refine st125 _ ?_
    refine XS.aloadN X125.here hx rfl (hb hby d1_52) rfl rfl ?_
    refine XS.iconst X125.here hx rfl (hb hby d1_53) ?_
    refine st128 _ ?_
    refine XS.aloadN X128.here hx rfl (hb hby d1_57) rfl rfl ?_
    show Steps p.tables e below (T128.setTop (mkF m 58 #[.val (.ref a1)] [(.ref a1)])) _
    refine XS.iconst X128.here hx rfl (hb hby d1_58) ?_
    refine st131 _ ?_
    refine XS.aloadN X131.here hx rfl (hb hby d1_62) rfl rfl ?_
    refine XS.iconst X131.here hx rfl (hb hby d1_63) ?_
    refine st134 _ ?_
    show Steps p.tables e below (T134.setTop (mkF m 67 #[.val (.ref a1)] [])) _
    exact X134.returnOut hx Bd.returns (hb hby d1_67) hr
  · show Q1 Z a1 val h0 n0 _ T134.heap _
    rw [e134]
    exact ⟨b102, b106, b110, b114, b118, b122, k102, k106, k110, k114, k118, k122, rfl, N134, ((((((((((((((((Keep.refl h0 [a1]).ext E102).wr W105 (Or.inl (List.mem_of_getElem? (i := 0) rfl))).ext E106).wr W109 (Or.inl (List.mem_of_getElem? (i := 0) rfl))).ext E110).wr W113 (Or.inl (List.mem_of_getElem? (i := 0) rfl))).ext E114).wr W117 (Or.inl (List.mem_of_getElem? (i := 0) rfl))).ext E118).wr W121 (Or.inl (List.mem_of_getElem? (i := 0) rfl))).ext E122).wr W125 (Or.inl (List.mem_of_getElem? (i := 0) rfl))).wr W128 (Or.inl (List.mem_of_getElem? (i := 0) rfl))).wr W131 (Or.inl (List.mem_of_getElem? (i := 0) rfl))).wr W134 (Or.inl (List.mem_of_getElem? (i := 0) rfl))), f135, f136, f137, f138, f139, f140, f141, f142, Fw134, f143, f145, f147, f149, f151, f153, f155, (Nat.le_trans (Nat.le_refl _) (Nat.le_of_eq g102.symm)), (Nat.le_trans (Nat.le_trans (Nat.le_trans (Nat.le_refl _) E102.1) (Nat.le_of_eq W105.size.symm)) (Nat.le_of_eq g106.symm)), (Nat.le_trans (Nat.le_trans (Nat.le_trans (Nat.le_trans (Nat.le_trans (Nat.le_refl _) E102.1) (Nat.le_of_eq W105.size.symm)) E106.1) (Nat.le_of_eq W109.size.symm)) (Nat.le_of_eq g110.symm)), (Nat.le_trans (Nat.le_trans (Nat.le_trans (Nat.le_trans (Nat.le_trans (Nat.le_trans (Nat.le_trans (Nat.le_refl _) E102.1) (Nat.le_of_eq W105.size.symm)) E106.1) (Nat.le_of_eq W109.size.symm)) E110.1) (Nat.le_of_eq W113.size.symm)) (Nat.le_of_eq g114.symm)), (Nat.le_trans (Nat.le_trans (Nat.le_trans (Nat.le_trans (Nat.le_trans (Nat.le_trans (Nat.le_trans (Nat.le_trans (Nat.le_trans (Nat.le_refl _) E102.1) (Nat.le_of_eq W105.size.symm)) E106.1) (Nat.le_of_eq W109.size.symm)) E110.1) (Nat.le_of_eq W113.size.symm)) E114.1) (Nat.le_of_eq W117.size.symm)) (Nat.le_of_eq g118.symm)), (Nat.le_trans (Nat.le_trans (Nat.le_trans (Nat.le_trans (Nat.le_trans (Nat.le_trans (Nat.le_trans (Nat.le_trans (Nat.le_trans (Nat.le_trans (Nat.le_trans (Nat.le_refl _) E102.1) (Nat.le_of_eq W105.size.symm)) E106.1) (Nat.le_of_eq W109.size.symm)) E110.1) (Nat.le_of_eq W113.size.symm)) E114.1) (Nat.le_of_eq W117.size.symm)) E118.1) (Nat.le_of_eq W121.size.symm)) (Nat.le_of_eq g122.symm)), ne156, ne157, ne158, ne159, ne160, ne161⟩
theorem pd_5 : parseMethodDescriptor "()V" = some ⟨[], none⟩ := by decide +kernel
theorem pd_6 : parseMethodDescriptor "(D)V" = some ⟨[.double], none⟩ := by decide +kernel
theorem ef_0 (m : MethodId) (p1 : Int32) (p2 : Int32) (p3 : Int32) (p4 : Int32) (p5 : Int32) (p6 : Int32) : entryFrame m #[(.int p1), (.int p2), (.int p3), (.int p4), (.int p5), (.int p6)] maxLocals = mkF m 0 #[.val (.int p1), .val (.int p2), .val (.int p3), .val (.int p4), .val (.int p5), .val (.int p6), .unset, .unset, .unset, .unset, .unset, .unset, .unset, .unset, .unset, .unset] [] := by first | (simp [entryFrame, mkF, argsToLocals, Value.category, maxLocals]; done) | rfl
def Q0 (Z : State) (p1 : Int32) (p2 : Int32) (p3 : Int32) (p4 : Int32) (p5 : Int32) (p6 : Int32) (h0 : Heap) (n0 : Nat) (v : Option Value) (h : Heap) (L : List Loc) : Prop := v = some (.int (1 : Int32)) ∧ Fr n0 L
set_option maxRecDepth 65536 in
set_option maxHeartbeats 40000000 in
theorem rm0 (l : Launch) (Z : State) (a0 : Array Value) (hw : ∀ d ∈ tables_1, d.before a0 Z = true) (ws : List Jvm.Cond) (p1 : Int32) (p2 : Int32) (p3 : Int32) (p4 : Int32) (p5 : Int32) (p6 : Int32) (h0 : Heap) (n0 : Nat) (Z0 : n0 ≤ h0.size) :
    own_MF l x (Jvm.Cond.code x code maxLocals ret :: ws) room_1 #[(.int p1), (.int p2), (.int p3), (.int p4), (.int p5), (.int p6)] Z h0 (Q0 Z p1 p2 p3 p4 p5 p6 h0 n0) := by
  refine MetFree.of_bodySF (plainFor_of_name pn_com_example_prequential_prequential_measure_ScoreMultisetCountPinLaw) hisR ?_
  intro p e s m args below meth c s₁ Bd hml0 hP hK
  obtain ⟨rfl, hZ, hh⟩ := hP
  have hx := Bd.exec
  have hby := Bd.bytes
  have hml : c.maxLocals = 16 := hml0
  have hown : s.vm.findClass "com/example/prequential/prequential/measure/ScoreMultisetCountPinLaw" = some m.cls := findClass_of_methodNamed Bd.named
  have hnm := (name_of_methodNamed Bd.named Bd.method).1
  have X0 : Stand p l e room_1 s m #[(.int p1), (.int p2), (.int p3), (.int p4), (.int p5), (.int p6)] below meth c s₁ [] 0 0 := Stand.of_body Bd
  have e0 : s₁.heap = h0 := by rw [← hh, Bd.state]; rfl
  have N0 := Fr.nil n0
  have pre0 : ∀ t, Steps p.tables e below (s₁.setTop (mkF m 0 #[.val (.int p1), .val (.int p2), .val (.int p3), .val (.int p4), .val (.int p5), .val (.int p6), .unset, .unset, .unset, .unset, .unset, .unset, .unset, .unset, .unset, .unset] [])) t → Steps p.tables e below (s₁.setTop (entryFrame m #[(.int p1), (.int p2), (.int p3), (.int p4), (.int p5), (.int p6)] maxLocals)) t := fun t k => castTop (ef_0 m p1 p2 p3 p4 p5 p6) k
  obtain ⟨pe, h_pe⟩ : ∃ z : Int32, z = (p6 >>> ((3 : Int32) &&& 31)) := ⟨_, rfl⟩
  have pre101 : ∀ t, Steps p.tables e below (s₁.setTop (mkF m 4 #[.val (.int p1), .val (.int p2), .val (.int p3), .val (.int p4), .val (.int p5), .val (.int p6), .unset, .unset, .unset, .unset, .unset, .unset, .unset, .unset, .unset, .unset] [(.int (p6 >>> ((3 : Int32) &&& 31)))])) t → Steps p.tables e below (s₁.setTop (entryFrame m #[(.int p1), (.int p2), (.int p3), (.int p4), (.int p5), (.int p6)] maxLocals)) t := fun t kt => by
    refine pre0 t ?_
    show Steps p.tables e below (s₁.setTop (mkF m 0 #[.val (.int p1), .val (.int p2), .val (.int p3), .val (.int p4), .val (.int p5), .val (.int p6), .unset, .unset, .unset, .unset, .unset, .unset, .unset, .unset, .unset, .unset] [])) _
    refine XS.iload X0.here hx rfl (hb hby at_0) rfl ?_
    refine XS.iconst X0.here hx rfl (hb hby at_2) ?_
    refine XS.ishr X0.here hx rfl (hb hby at_3) rfl ?_
    show Steps p.tables e below (s₁.setTop (mkF m 4 #[.val (.int p1), .val (.int p2), .val (.int p3), .val (.int p4), .val (.int p5), .val (.int p6), .unset, .unset, .unset, .unset, .unset, .unset, .unset, .unset, .unset, .unset] [(.int (p6 >>> ((3 : Int32) &&& 31)))])) _
    exact kt
  have pre102 : ∀ t, Steps p.tables e below (s₁.setTop (mkF m 4 #[.val (.int p1), .val (.int p2), .val (.int p3), .val (.int p4), .val (.int p5), .val (.int p6), .unset, .unset, .unset, .unset, .unset, .unset, .unset, .unset, .unset, .unset] [(.int pe)])) t → Steps p.tables e below (s₁.setTop (entryFrame m #[(.int p1), (.int p2), (.int p3), (.int p4), (.int p5), (.int p6)] maxLocals)) t := by
    rw [h_pe]; exact pre101
  have pre103 : ∀ t, Steps p.tables e below (s₁.setTop (mkF m 6 #[.val (.int p1), .val (.int p2), .val (.int p3), .val (.int p4), .val (.int p5), .val (.int p6), .val (.int pe), .unset, .unset, .unset, .unset, .unset, .unset, .unset, .unset, .unset] [])) t → Steps p.tables e below (s₁.setTop (entryFrame m #[(.int p1), (.int p2), (.int p3), (.int p4), (.int p5), (.int p6)] maxLocals)) t := fun t kt => by
    refine pre102 t ?_
    show Steps p.tables e below (s₁.setTop (mkF m 4 #[.val (.int p1), .val (.int p2), .val (.int p3), .val (.int p4), .val (.int p5), .val (.int p6), .unset, .unset, .unset, .unset, .unset, .unset, .unset, .unset, .unset, .unset] [(.int pe)])) _
    refine XS.istore X0.here hx rfl (hb hby at_4) rfl (l' := #[.val (.int p1), .val (.int p2), .val (.int p3), .val (.int p4), .val (.int p5), .val (.int p6), .val (.int pe), .unset, .unset, .unset, .unset, .unset, .unset, .unset, .unset, .unset]) rfl ?_
    show Steps p.tables e below (s₁.setTop (mkF m 6 #[.val (.int p1), .val (.int p2), .val (.int p3), .val (.int p4), .val (.int p5), .val (.int p6), .val (.int pe), .unset, .unset, .unset, .unset, .unset, .unset, .unset, .unset, .unset] [])) _
    exact kt
  obtain ⟨T104, L104, X104, N104, e104, pre104⟩ : ∃ (T' : State) (L' : List Loc), Stand p l e room_1 s m #[(.int p1), (.int p2), (.int p3), (.int p4), (.int p5), (.int p6)] below meth c T' L' 0 0 ∧ Fr n0 L' ∧ T'.heap = h0 ∧ ∀ t, Steps p.tables e below (T'.setTop (mkF m 20 #[.val (.int p1), .val (.int p2), .val (.int p3), .val (.int p4), .val (.int p5), .val (.int p6), .val (.int pe), .val (.int (own_fl p6 (1 : Int32))), .unset, .unset, .unset, .unset, .unset, .unset, .unset, .unset] [])) t → Steps p.tables e below (s₁.setTop (entryFrame m #[(.int p1), (.int p2), (.int p3), (.int p4), (.int p5), (.int p6)] maxLocals)) t := by
    have pre105 : ∀ t, Steps p.tables e below (s₁.setTop (mkF m 10 #[.val (.int p1), .val (.int p2), .val (.int p3), .val (.int p4), .val (.int p5), .val (.int p6), .val (.int pe), .unset, .unset, .unset, .unset, .unset, .unset, .unset, .unset, .unset] [(.int (p6 &&& (1 : Int32)))])) t → Steps p.tables e below (s₁.setTop (entryFrame m #[(.int p1), (.int p2), (.int p3), (.int p4), (.int p5), (.int p6)] maxLocals)) t := fun t kt => by
      refine pre103 t ?_
      show Steps p.tables e below (s₁.setTop (mkF m 6 #[.val (.int p1), .val (.int p2), .val (.int p3), .val (.int p4), .val (.int p5), .val (.int p6), .val (.int pe), .unset, .unset, .unset, .unset, .unset, .unset, .unset, .unset, .unset] [])) _
      refine XS.iload X0.here hx rfl (hb hby at_6) rfl ?_
      refine XS.iconst X0.here hx rfl (hb hby at_8) ?_
      refine XS.iand X0.here hx rfl (hb hby at_9) rfl ?_
      show Steps p.tables e below (s₁.setTop (mkF m 10 #[.val (.int p1), .val (.int p2), .val (.int p3), .val (.int p4), .val (.int p5), .val (.int p6), .val (.int pe), .unset, .unset, .unset, .unset, .unset, .unset, .unset, .unset, .unset] [(.int (p6 &&& (1 : Int32)))])) _
      exact kt
    by_cases hc10_106 : (p6 &&& (1 : Int32)) = (0 : Int32)
    · skip
      have pre107 : ∀ t, Steps p.tables e below (s₁.setTop (mkF m 20 #[.val (.int p1), .val (.int p2), .val (.int p3), .val (.int p4), .val (.int p5), .val (.int p6), .val (.int pe), .val (.int (0 : Int32)), .unset, .unset, .unset, .unset, .unset, .unset, .unset, .unset] [])) t → Steps p.tables e below (s₁.setTop (entryFrame m #[(.int p1), (.int p2), (.int p3), (.int p4), (.int p5), (.int p6)] maxLocals)) t := fun t kt => by
        refine pre105 t ?_
        show Steps p.tables e below (s₁.setTop (mkF m 10 #[.val (.int p1), .val (.int p2), .val (.int p3), .val (.int p4), .val (.int p5), .val (.int p6), .val (.int pe), .unset, .unset, .unset, .unset, .unset, .unset, .unset, .unset, .unset] [(.int (p6 &&& (1 : Int32)))])) _
        refine XS.ifYes X0.here hx rfl (pc0 := 10) (pc' := 17) rfl (hb hby at_10) rfl ((if0 _ _).trans (teq (hc10_106 : (p6 &&& (1 : Int32)) = (0 : Int32))).1) (by decide) (by decide) ?_
        refine XS.iconst X0.here hx rfl (hb hby at_17) ?_
        refine XS.istore X0.here hx rfl (hb hby at_18) rfl (l' := #[.val (.int p1), .val (.int p2), .val (.int p3), .val (.int p4), .val (.int p5), .val (.int p6), .val (.int pe), .val (.int (0 : Int32)), .unset, .unset, .unset, .unset, .unset, .unset, .unset, .unset]) rfl ?_
        show Steps p.tables e below (s₁.setTop (mkF m 20 #[.val (.int p1), .val (.int p2), .val (.int p3), .val (.int p4), .val (.int p5), .val (.int p6), .val (.int pe), .val (.int (0 : Int32)), .unset, .unset, .unset, .unset, .unset, .unset, .unset, .unset] [])) _
        exact kt
      have hl108_7 : (own_fl p6 (1 : Int32)) = (0 : Int32) := by simp only [own_fl, eq_true hc10_106, if_true, if_false]
      exact ⟨_, _, X0, N0, e0, fun t kt => pre107 t (by rw [hl108_7] at kt; exact kt)⟩
    · skip
      have pre109 : ∀ t, Steps p.tables e below (s₁.setTop (mkF m 20 #[.val (.int p1), .val (.int p2), .val (.int p3), .val (.int p4), .val (.int p5), .val (.int p6), .val (.int pe), .val (.int (1 : Int32)), .unset, .unset, .unset, .unset, .unset, .unset, .unset, .unset] [])) t → Steps p.tables e below (s₁.setTop (entryFrame m #[(.int p1), (.int p2), (.int p3), (.int p4), (.int p5), (.int p6)] maxLocals)) t := fun t kt => by
        refine pre105 t ?_
        show Steps p.tables e below (s₁.setTop (mkF m 10 #[.val (.int p1), .val (.int p2), .val (.int p3), .val (.int p4), .val (.int p5), .val (.int p6), .val (.int pe), .unset, .unset, .unset, .unset, .unset, .unset, .unset, .unset, .unset] [(.int (p6 &&& (1 : Int32)))])) _
        refine XS.ifNo X0.here hx rfl (hb hby at_10) rfl ((if0 _ _).trans (feq (hc10_106 : ¬ ((p6 &&& (1 : Int32)) = (0 : Int32)))).1) ?_
        refine XS.iconst X0.here hx rfl (hb hby at_13) ?_
        refine XS.goto X0.here hx rfl (pc0 := 14) (pc' := 18) rfl (hb hby at_14) (by decide) (by decide) ?_
        refine XS.istore X0.here hx rfl (hb hby at_18) rfl (l' := #[.val (.int p1), .val (.int p2), .val (.int p3), .val (.int p4), .val (.int p5), .val (.int p6), .val (.int pe), .val (.int (1 : Int32)), .unset, .unset, .unset, .unset, .unset, .unset, .unset, .unset]) rfl ?_
        show Steps p.tables e below (s₁.setTop (mkF m 20 #[.val (.int p1), .val (.int p2), .val (.int p3), .val (.int p4), .val (.int p5), .val (.int p6), .val (.int pe), .val (.int (1 : Int32)), .unset, .unset, .unset, .unset, .unset, .unset, .unset, .unset] [])) _
        exact kt
      have hl110_7 : (own_fl p6 (1 : Int32)) = (1 : Int32) := by simp only [own_fl, eq_false hc10_106, if_true, if_false]
      exact ⟨_, _, X0, N0, e0, fun t kt => pre109 t (by rw [hl110_7] at kt; exact kt)⟩
  obtain ⟨T111, L111, X111, N111, e111, pre111⟩ : ∃ (T' : State) (L' : List Loc), Stand p l e room_1 s m #[(.int p1), (.int p2), (.int p3), (.int p4), (.int p5), (.int p6)] below meth c T' L' 0 0 ∧ Fr n0 L' ∧ T'.heap = h0 ∧ ∀ t, Steps p.tables e below (T'.setTop (mkF m 34 #[.val (.int p1), .val (.int p2), .val (.int p3), .val (.int p4), .val (.int p5), .val (.int p6), .val (.int pe), .val (.int (own_fl p6 (1 : Int32))), .val (.int (own_fl p6 (2 : Int32))), .unset, .unset, .unset, .unset, .unset, .unset, .unset] [])) t → Steps p.tables e below (s₁.setTop (entryFrame m #[(.int p1), (.int p2), (.int p3), (.int p4), (.int p5), (.int p6)] maxLocals)) t := by
    have pre112 : ∀ t, Steps p.tables e below (T104.setTop (mkF m 24 #[.val (.int p1), .val (.int p2), .val (.int p3), .val (.int p4), .val (.int p5), .val (.int p6), .val (.int pe), .val (.int (own_fl p6 (1 : Int32))), .unset, .unset, .unset, .unset, .unset, .unset, .unset, .unset] [(.int (p6 &&& (2 : Int32)))])) t → Steps p.tables e below (s₁.setTop (entryFrame m #[(.int p1), (.int p2), (.int p3), (.int p4), (.int p5), (.int p6)] maxLocals)) t := fun t kt => by
      refine pre104 t ?_
      show Steps p.tables e below (T104.setTop (mkF m 20 #[.val (.int p1), .val (.int p2), .val (.int p3), .val (.int p4), .val (.int p5), .val (.int p6), .val (.int pe), .val (.int (own_fl p6 (1 : Int32))), .unset, .unset, .unset, .unset, .unset, .unset, .unset, .unset] [])) _
      refine XS.iload X104.here hx rfl (hb hby at_20) rfl ?_
      refine XS.iconst X104.here hx rfl (hb hby at_22) ?_
      refine XS.iand X104.here hx rfl (hb hby at_23) rfl ?_
      show Steps p.tables e below (T104.setTop (mkF m 24 #[.val (.int p1), .val (.int p2), .val (.int p3), .val (.int p4), .val (.int p5), .val (.int p6), .val (.int pe), .val (.int (own_fl p6 (1 : Int32))), .unset, .unset, .unset, .unset, .unset, .unset, .unset, .unset] [(.int (p6 &&& (2 : Int32)))])) _
      exact kt
    by_cases hc24_113 : (p6 &&& (2 : Int32)) = (0 : Int32)
    · skip
      have pre114 : ∀ t, Steps p.tables e below (T104.setTop (mkF m 34 #[.val (.int p1), .val (.int p2), .val (.int p3), .val (.int p4), .val (.int p5), .val (.int p6), .val (.int pe), .val (.int (own_fl p6 (1 : Int32))), .val (.int (0 : Int32)), .unset, .unset, .unset, .unset, .unset, .unset, .unset] [])) t → Steps p.tables e below (s₁.setTop (entryFrame m #[(.int p1), (.int p2), (.int p3), (.int p4), (.int p5), (.int p6)] maxLocals)) t := fun t kt => by
        refine pre112 t ?_
        show Steps p.tables e below (T104.setTop (mkF m 24 #[.val (.int p1), .val (.int p2), .val (.int p3), .val (.int p4), .val (.int p5), .val (.int p6), .val (.int pe), .val (.int (own_fl p6 (1 : Int32))), .unset, .unset, .unset, .unset, .unset, .unset, .unset, .unset] [(.int (p6 &&& (2 : Int32)))])) _
        refine XS.ifYes X104.here hx rfl (pc0 := 24) (pc' := 31) rfl (hb hby at_24) rfl ((if0 _ _).trans (teq (hc24_113 : (p6 &&& (2 : Int32)) = (0 : Int32))).1) (by decide) (by decide) ?_
        refine XS.iconst X104.here hx rfl (hb hby at_31) ?_
        refine XS.istore X104.here hx rfl (hb hby at_32) rfl (l' := #[.val (.int p1), .val (.int p2), .val (.int p3), .val (.int p4), .val (.int p5), .val (.int p6), .val (.int pe), .val (.int (own_fl p6 (1 : Int32))), .val (.int (0 : Int32)), .unset, .unset, .unset, .unset, .unset, .unset, .unset]) rfl ?_
        show Steps p.tables e below (T104.setTop (mkF m 34 #[.val (.int p1), .val (.int p2), .val (.int p3), .val (.int p4), .val (.int p5), .val (.int p6), .val (.int pe), .val (.int (own_fl p6 (1 : Int32))), .val (.int (0 : Int32)), .unset, .unset, .unset, .unset, .unset, .unset, .unset] [])) _
        exact kt
      have hl115_8 : (own_fl p6 (2 : Int32)) = (0 : Int32) := by simp only [own_fl, eq_true hc24_113, if_true, if_false]
      exact ⟨_, _, X104, N104, e104, fun t kt => pre114 t (by rw [hl115_8] at kt; exact kt)⟩
    · skip
      have pre116 : ∀ t, Steps p.tables e below (T104.setTop (mkF m 34 #[.val (.int p1), .val (.int p2), .val (.int p3), .val (.int p4), .val (.int p5), .val (.int p6), .val (.int pe), .val (.int (own_fl p6 (1 : Int32))), .val (.int (1 : Int32)), .unset, .unset, .unset, .unset, .unset, .unset, .unset] [])) t → Steps p.tables e below (s₁.setTop (entryFrame m #[(.int p1), (.int p2), (.int p3), (.int p4), (.int p5), (.int p6)] maxLocals)) t := fun t kt => by
        refine pre112 t ?_
        show Steps p.tables e below (T104.setTop (mkF m 24 #[.val (.int p1), .val (.int p2), .val (.int p3), .val (.int p4), .val (.int p5), .val (.int p6), .val (.int pe), .val (.int (own_fl p6 (1 : Int32))), .unset, .unset, .unset, .unset, .unset, .unset, .unset, .unset] [(.int (p6 &&& (2 : Int32)))])) _
        refine XS.ifNo X104.here hx rfl (hb hby at_24) rfl ((if0 _ _).trans (feq (hc24_113 : ¬ ((p6 &&& (2 : Int32)) = (0 : Int32)))).1) ?_
        refine XS.iconst X104.here hx rfl (hb hby at_27) ?_
        refine XS.goto X104.here hx rfl (pc0 := 28) (pc' := 32) rfl (hb hby at_28) (by decide) (by decide) ?_
        refine XS.istore X104.here hx rfl (hb hby at_32) rfl (l' := #[.val (.int p1), .val (.int p2), .val (.int p3), .val (.int p4), .val (.int p5), .val (.int p6), .val (.int pe), .val (.int (own_fl p6 (1 : Int32))), .val (.int (1 : Int32)), .unset, .unset, .unset, .unset, .unset, .unset, .unset]) rfl ?_
        show Steps p.tables e below (T104.setTop (mkF m 34 #[.val (.int p1), .val (.int p2), .val (.int p3), .val (.int p4), .val (.int p5), .val (.int p6), .val (.int pe), .val (.int (own_fl p6 (1 : Int32))), .val (.int (1 : Int32)), .unset, .unset, .unset, .unset, .unset, .unset, .unset] [])) _
        exact kt
      have hl117_8 : (own_fl p6 (2 : Int32)) = (1 : Int32) := by simp only [own_fl, eq_false hc24_113, if_true, if_false]
      exact ⟨_, _, X104, N104, e104, fun t kt => pre116 t (by rw [hl117_8] at kt; exact kt)⟩
  obtain ⟨T118, L118, X118, N118, e118, pre118⟩ : ∃ (T' : State) (L' : List Loc), Stand p l e room_1 s m #[(.int p1), (.int p2), (.int p3), (.int p4), (.int p5), (.int p6)] below meth c T' L' 0 0 ∧ Fr n0 L' ∧ T'.heap = h0 ∧ ∀ t, Steps p.tables e below (T'.setTop (mkF m 48 #[.val (.int p1), .val (.int p2), .val (.int p3), .val (.int p4), .val (.int p5), .val (.int p6), .val (.int pe), .val (.int (own_fl p6 (1 : Int32))), .val (.int (own_fl p6 (2 : Int32))), .val (.int (own_fl p6 (4 : Int32))), .unset, .unset, .unset, .unset, .unset, .unset] [])) t → Steps p.tables e below (s₁.setTop (entryFrame m #[(.int p1), (.int p2), (.int p3), (.int p4), (.int p5), (.int p6)] maxLocals)) t := by
    have pre119 : ∀ t, Steps p.tables e below (T111.setTop (mkF m 38 #[.val (.int p1), .val (.int p2), .val (.int p3), .val (.int p4), .val (.int p5), .val (.int p6), .val (.int pe), .val (.int (own_fl p6 (1 : Int32))), .val (.int (own_fl p6 (2 : Int32))), .unset, .unset, .unset, .unset, .unset, .unset, .unset] [(.int (p6 &&& (4 : Int32)))])) t → Steps p.tables e below (s₁.setTop (entryFrame m #[(.int p1), (.int p2), (.int p3), (.int p4), (.int p5), (.int p6)] maxLocals)) t := fun t kt => by
      refine pre111 t ?_
      show Steps p.tables e below (T111.setTop (mkF m 34 #[.val (.int p1), .val (.int p2), .val (.int p3), .val (.int p4), .val (.int p5), .val (.int p6), .val (.int pe), .val (.int (own_fl p6 (1 : Int32))), .val (.int (own_fl p6 (2 : Int32))), .unset, .unset, .unset, .unset, .unset, .unset, .unset] [])) _
      refine XS.iload X111.here hx rfl (hb hby at_34) rfl ?_
      refine XS.iconst X111.here hx rfl (hb hby at_36) ?_
      refine XS.iand X111.here hx rfl (hb hby at_37) rfl ?_
      show Steps p.tables e below (T111.setTop (mkF m 38 #[.val (.int p1), .val (.int p2), .val (.int p3), .val (.int p4), .val (.int p5), .val (.int p6), .val (.int pe), .val (.int (own_fl p6 (1 : Int32))), .val (.int (own_fl p6 (2 : Int32))), .unset, .unset, .unset, .unset, .unset, .unset, .unset] [(.int (p6 &&& (4 : Int32)))])) _
      exact kt
    by_cases hc38_120 : (p6 &&& (4 : Int32)) = (0 : Int32)
    · skip
      have pre121 : ∀ t, Steps p.tables e below (T111.setTop (mkF m 48 #[.val (.int p1), .val (.int p2), .val (.int p3), .val (.int p4), .val (.int p5), .val (.int p6), .val (.int pe), .val (.int (own_fl p6 (1 : Int32))), .val (.int (own_fl p6 (2 : Int32))), .val (.int (0 : Int32)), .unset, .unset, .unset, .unset, .unset, .unset] [])) t → Steps p.tables e below (s₁.setTop (entryFrame m #[(.int p1), (.int p2), (.int p3), (.int p4), (.int p5), (.int p6)] maxLocals)) t := fun t kt => by
        refine pre119 t ?_
        show Steps p.tables e below (T111.setTop (mkF m 38 #[.val (.int p1), .val (.int p2), .val (.int p3), .val (.int p4), .val (.int p5), .val (.int p6), .val (.int pe), .val (.int (own_fl p6 (1 : Int32))), .val (.int (own_fl p6 (2 : Int32))), .unset, .unset, .unset, .unset, .unset, .unset, .unset] [(.int (p6 &&& (4 : Int32)))])) _
        refine XS.ifYes X111.here hx rfl (pc0 := 38) (pc' := 45) rfl (hb hby at_38) rfl ((if0 _ _).trans (teq (hc38_120 : (p6 &&& (4 : Int32)) = (0 : Int32))).1) (by decide) (by decide) ?_
        refine XS.iconst X111.here hx rfl (hb hby at_45) ?_
        refine XS.istore X111.here hx rfl (hb hby at_46) rfl (l' := #[.val (.int p1), .val (.int p2), .val (.int p3), .val (.int p4), .val (.int p5), .val (.int p6), .val (.int pe), .val (.int (own_fl p6 (1 : Int32))), .val (.int (own_fl p6 (2 : Int32))), .val (.int (0 : Int32)), .unset, .unset, .unset, .unset, .unset, .unset]) rfl ?_
        show Steps p.tables e below (T111.setTop (mkF m 48 #[.val (.int p1), .val (.int p2), .val (.int p3), .val (.int p4), .val (.int p5), .val (.int p6), .val (.int pe), .val (.int (own_fl p6 (1 : Int32))), .val (.int (own_fl p6 (2 : Int32))), .val (.int (0 : Int32)), .unset, .unset, .unset, .unset, .unset, .unset] [])) _
        exact kt
      have hl122_9 : (own_fl p6 (4 : Int32)) = (0 : Int32) := by simp only [own_fl, eq_true hc38_120, if_true, if_false]
      exact ⟨_, _, X111, N111, e111, fun t kt => pre121 t (by rw [hl122_9] at kt; exact kt)⟩
    · skip
      have pre123 : ∀ t, Steps p.tables e below (T111.setTop (mkF m 48 #[.val (.int p1), .val (.int p2), .val (.int p3), .val (.int p4), .val (.int p5), .val (.int p6), .val (.int pe), .val (.int (own_fl p6 (1 : Int32))), .val (.int (own_fl p6 (2 : Int32))), .val (.int (1 : Int32)), .unset, .unset, .unset, .unset, .unset, .unset] [])) t → Steps p.tables e below (s₁.setTop (entryFrame m #[(.int p1), (.int p2), (.int p3), (.int p4), (.int p5), (.int p6)] maxLocals)) t := fun t kt => by
        refine pre119 t ?_
        show Steps p.tables e below (T111.setTop (mkF m 38 #[.val (.int p1), .val (.int p2), .val (.int p3), .val (.int p4), .val (.int p5), .val (.int p6), .val (.int pe), .val (.int (own_fl p6 (1 : Int32))), .val (.int (own_fl p6 (2 : Int32))), .unset, .unset, .unset, .unset, .unset, .unset, .unset] [(.int (p6 &&& (4 : Int32)))])) _
        refine XS.ifNo X111.here hx rfl (hb hby at_38) rfl ((if0 _ _).trans (feq (hc38_120 : ¬ ((p6 &&& (4 : Int32)) = (0 : Int32)))).1) ?_
        refine XS.iconst X111.here hx rfl (hb hby at_41) ?_
        refine XS.goto X111.here hx rfl (pc0 := 42) (pc' := 46) rfl (hb hby at_42) (by decide) (by decide) ?_
        refine XS.istore X111.here hx rfl (hb hby at_46) rfl (l' := #[.val (.int p1), .val (.int p2), .val (.int p3), .val (.int p4), .val (.int p5), .val (.int p6), .val (.int pe), .val (.int (own_fl p6 (1 : Int32))), .val (.int (own_fl p6 (2 : Int32))), .val (.int (1 : Int32)), .unset, .unset, .unset, .unset, .unset, .unset]) rfl ?_
        show Steps p.tables e below (T111.setTop (mkF m 48 #[.val (.int p1), .val (.int p2), .val (.int p3), .val (.int p4), .val (.int p5), .val (.int p6), .val (.int pe), .val (.int (own_fl p6 (1 : Int32))), .val (.int (own_fl p6 (2 : Int32))), .val (.int (1 : Int32)), .unset, .unset, .unset, .unset, .unset, .unset] [])) _
        exact kt
      have hl124_9 : (own_fl p6 (4 : Int32)) = (1 : Int32) := by simp only [own_fl, eq_false hc38_120, if_true, if_false]
      exact ⟨_, _, X111, N111, e111, fun t kt => pre123 t (by rw [hl124_9] at kt; exact kt)⟩
  have pre125 : ∀ t, Steps p.tables e below (T118.setTop (mkF m 52 #[.val (.int p1), .val (.int p2), .val (.int p3), .val (.int p4), .val (.int p5), .val (.int p6), .val (.int pe), .val (.int (own_fl p6 (1 : Int32))), .val (.int (own_fl p6 (2 : Int32))), .val (.int (own_fl p6 (4 : Int32))), .val (.double (FP.l2d (p2).toInt64)), .second, .unset, .unset, .unset, .unset] [])) t → Steps p.tables e below (s₁.setTop (entryFrame m #[(.int p1), (.int p2), (.int p3), (.int p4), (.int p5), (.int p6)] maxLocals)) t := fun t kt => by
    refine pre118 t ?_
    show Steps p.tables e below (T118.setTop (mkF m 48 #[.val (.int p1), .val (.int p2), .val (.int p3), .val (.int p4), .val (.int p5), .val (.int p6), .val (.int pe), .val (.int (own_fl p6 (1 : Int32))), .val (.int (own_fl p6 (2 : Int32))), .val (.int (own_fl p6 (4 : Int32))), .unset, .unset, .unset, .unset, .unset, .unset] [])) _
    refine XS.iloadN X118.here hx rfl (hb hby at_48) rfl ?_
    refine XS.i2dS X118.here hx rfl (hb hby at_49) rfl (i2d_w _) ?_
    refine XS.dstore X118.here hx rfl (hb hby at_50) rfl (l' := #[.val (.int p1), .val (.int p2), .val (.int p3), .val (.int p4), .val (.int p5), .val (.int p6), .val (.int pe), .val (.int (own_fl p6 (1 : Int32))), .val (.int (own_fl p6 (2 : Int32))), .val (.int (own_fl p6 (4 : Int32))), .val (.double (FP.l2d (p2).toInt64)), .second, .unset, .unset, .unset, .unset]) rfl ?_
    show Steps p.tables e below (T118.setTop (mkF m 52 #[.val (.int p1), .val (.int p2), .val (.int p3), .val (.int p4), .val (.int p5), .val (.int p6), .val (.int pe), .val (.int (own_fl p6 (1 : Int32))), .val (.int (own_fl p6 (2 : Int32))), .val (.int (own_fl p6 (4 : Int32))), .val (.double (FP.l2d (p2).toInt64)), .second, .unset, .unset, .unset, .unset] [])) _
    exact kt
  obtain ⟨T126, L126, X126, N126, e126, pre126⟩ : ∃ (T' : State) (L' : List Loc), Stand p l e room_1 s m #[(.int p1), (.int p2), (.int p3), (.int p4), (.int p5), (.int p6)] below meth c T' L' 0 0 ∧ Fr n0 L' ∧ T'.heap = h0 ∧ ∀ t, Steps p.tables e below (T'.setTop (mkF m 66 #[.val (.int p1), .val (.int p2), .val (.int p3), .val (.int p4), .val (.int p5), .val (.int p6), .val (.int pe), .val (.int (own_fl p6 (1 : Int32))), .val (.int (own_fl p6 (2 : Int32))), .val (.int (own_fl p6 (4 : Int32))), .val (.double (own_nq (own_fl p6 (4 : Int32)) p2)), .second, .unset, .unset, .unset, .unset] [])) t → Steps p.tables e below (s₁.setTop (entryFrame m #[(.int p1), (.int p2), (.int p3), (.int p4), (.int p5), (.int p6)] maxLocals)) t := by
    have pre127 : ∀ t, Steps p.tables e below (T118.setTop (mkF m 54 #[.val (.int p1), .val (.int p2), .val (.int p3), .val (.int p4), .val (.int p5), .val (.int p6), .val (.int pe), .val (.int (own_fl p6 (1 : Int32))), .val (.int (own_fl p6 (2 : Int32))), .val (.int (own_fl p6 (4 : Int32))), .val (.double (FP.l2d (p2).toInt64)), .second, .unset, .unset, .unset, .unset] [(.int (own_fl p6 (4 : Int32)))])) t → Steps p.tables e below (s₁.setTop (entryFrame m #[(.int p1), (.int p2), (.int p3), (.int p4), (.int p5), (.int p6)] maxLocals)) t := fun t kt => by
      refine pre125 t ?_
      show Steps p.tables e below (T118.setTop (mkF m 52 #[.val (.int p1), .val (.int p2), .val (.int p3), .val (.int p4), .val (.int p5), .val (.int p6), .val (.int pe), .val (.int (own_fl p6 (1 : Int32))), .val (.int (own_fl p6 (2 : Int32))), .val (.int (own_fl p6 (4 : Int32))), .val (.double (FP.l2d (p2).toInt64)), .second, .unset, .unset, .unset, .unset] [])) _
      refine XS.iload X118.here hx rfl (hb hby at_52) rfl ?_
      show Steps p.tables e below (T118.setTop (mkF m 54 #[.val (.int p1), .val (.int p2), .val (.int p3), .val (.int p4), .val (.int p5), .val (.int p6), .val (.int pe), .val (.int (own_fl p6 (1 : Int32))), .val (.int (own_fl p6 (2 : Int32))), .val (.int (own_fl p6 (4 : Int32))), .val (.double (FP.l2d (p2).toInt64)), .second, .unset, .unset, .unset, .unset] [(.int (own_fl p6 (4 : Int32)))])) _
      exact kt
    by_cases hc54_128 : (own_fl p6 (4 : Int32)) = (0 : Int32)
    · skip
      have pre129 : ∀ t, Steps p.tables e below (T118.setTop (mkF m 66 #[.val (.int p1), .val (.int p2), .val (.int p3), .val (.int p4), .val (.int p5), .val (.int p6), .val (.int pe), .val (.int (own_fl p6 (1 : Int32))), .val (.int (own_fl p6 (2 : Int32))), .val (.int (own_fl p6 (4 : Int32))), .val (.double (FP.l2d (p2).toInt64)), .second, .unset, .unset, .unset, .unset] [])) t → Steps p.tables e below (s₁.setTop (entryFrame m #[(.int p1), (.int p2), (.int p3), (.int p4), (.int p5), (.int p6)] maxLocals)) t := fun t kt => by
        refine pre127 t ?_
        show Steps p.tables e below (T118.setTop (mkF m 54 #[.val (.int p1), .val (.int p2), .val (.int p3), .val (.int p4), .val (.int p5), .val (.int p6), .val (.int pe), .val (.int (own_fl p6 (1 : Int32))), .val (.int (own_fl p6 (2 : Int32))), .val (.int (own_fl p6 (4 : Int32))), .val (.double (FP.l2d (p2).toInt64)), .second, .unset, .unset, .unset, .unset] [(.int (own_fl p6 (4 : Int32)))])) _
        refine XS.ifYes X118.here hx rfl (pc0 := 54) (pc' := 66) rfl (hb hby at_54) rfl ((if0 _ _).trans (teq (hc54_128 : (own_fl p6 (4 : Int32)) = (0 : Int32))).1) (by decide) (by decide) ?_
        show Steps p.tables e below (T118.setTop (mkF m 66 #[.val (.int p1), .val (.int p2), .val (.int p3), .val (.int p4), .val (.int p5), .val (.int p6), .val (.int pe), .val (.int (own_fl p6 (1 : Int32))), .val (.int (own_fl p6 (2 : Int32))), .val (.int (own_fl p6 (4 : Int32))), .val (.double (FP.l2d (p2).toInt64)), .second, .unset, .unset, .unset, .unset] [])) _
        exact kt
      have hl130_10 : (own_nq (own_fl p6 (4 : Int32)) p2) = (FP.l2d (p2).toInt64) := by simp only [own_nq, eq_true hc54_128, if_true, if_false]
      exact ⟨_, _, X118, N118, e118, fun t kt => pre129 t (by rw [hl130_10] at kt; exact kt)⟩
    · skip
      have pre131 : ∀ t, Steps p.tables e below (T118.setTop (mkF m 58 #[.val (.int p1), .val (.int p2), .val (.int p3), .val (.int p4), .val (.int p5), .val (.int p6), .val (.int pe), .val (.int (own_fl p6 (1 : Int32))), .val (.int (own_fl p6 (2 : Int32))), .val (.int (own_fl p6 (4 : Int32))), .val (.double (FP.l2d (p2).toInt64)), .second, .unset, .unset, .unset, .unset] [(.int p2)])) t → Steps p.tables e below (s₁.setTop (entryFrame m #[(.int p1), (.int p2), (.int p3), (.int p4), (.int p5), (.int p6)] maxLocals)) t := fun t kt => by
        refine pre127 t ?_
        show Steps p.tables e below (T118.setTop (mkF m 54 #[.val (.int p1), .val (.int p2), .val (.int p3), .val (.int p4), .val (.int p5), .val (.int p6), .val (.int pe), .val (.int (own_fl p6 (1 : Int32))), .val (.int (own_fl p6 (2 : Int32))), .val (.int (own_fl p6 (4 : Int32))), .val (.double (FP.l2d (p2).toInt64)), .second, .unset, .unset, .unset, .unset] [(.int (own_fl p6 (4 : Int32)))])) _
        refine XS.ifNo X118.here hx rfl (hb hby at_54) rfl ((if0 _ _).trans (feq (hc54_128 : ¬ ((own_fl p6 (4 : Int32)) = (0 : Int32)))).1) ?_
        refine XS.iloadN X118.here hx rfl (hb hby at_57) rfl ?_
        show Steps p.tables e below (T118.setTop (mkF m 58 #[.val (.int p1), .val (.int p2), .val (.int p3), .val (.int p4), .val (.int p5), .val (.int p6), .val (.int pe), .val (.int (own_fl p6 (1 : Int32))), .val (.int (own_fl p6 (2 : Int32))), .val (.int (own_fl p6 (4 : Int32))), .val (.double (FP.l2d (p2).toInt64)), .second, .unset, .unset, .unset, .unset] [(.int p2)])) _
        exact kt
      by_cases hc58_132 : p2 = (0 : Int32)
      · skip
        have pre133 : ∀ t, Steps p.tables e below (T118.setTop (mkF m 66 #[.val (.int p1), .val (.int p2), .val (.int p3), .val (.int p4), .val (.int p5), .val (.int p6), .val (.int pe), .val (.int (own_fl p6 (1 : Int32))), .val (.int (own_fl p6 (2 : Int32))), .val (.int (own_fl p6 (4 : Int32))), .val (.double (9223372036854775808 : UInt64)), .second, .unset, .unset, .unset, .unset] [])) t → Steps p.tables e below (s₁.setTop (entryFrame m #[(.int p1), (.int p2), (.int p3), (.int p4), (.int p5), (.int p6)] maxLocals)) t := fun t kt => by
          refine pre131 t ?_
          show Steps p.tables e below (T118.setTop (mkF m 58 #[.val (.int p1), .val (.int p2), .val (.int p3), .val (.int p4), .val (.int p5), .val (.int p6), .val (.int pe), .val (.int (own_fl p6 (1 : Int32))), .val (.int (own_fl p6 (2 : Int32))), .val (.int (own_fl p6 (4 : Int32))), .val (.double (FP.l2d (p2).toInt64)), .second, .unset, .unset, .unset, .unset] [(.int p2)])) _
          refine XS.ifNo X118.here hx rfl (hb hby at_58) rfl ((if0 _ _).trans (teq (hc58_132 : p2 = (0 : Int32))).2) ?_
          show Steps p.tables e below (T118.setTop (mkF m 61 #[.val (.int p1), .val (.int p2), .val (.int p3), .val (.int p4), .val (.int p5), .val (.int p6), .val (.int pe), .val (.int (own_fl p6 (1 : Int32))), .val (.int (own_fl p6 (2 : Int32))), .val (.int (own_fl p6 (4 : Int32))), .val (.double (FP.l2d (p2).toInt64)), .second, .unset, .unset, .unset, .unset] [])) _
          refine X118.ldc2DoubleC hx hown (mvT hZ (own_w hw 0 rfl)) (g := (mkF m 61 #[.val (.int p1), .val (.int p2), .val (.int p3), .val (.int p4), .val (.int p5), .val (.int p6), .val (.int pe), .val (.int (own_fl p6 (1 : Int32))), .val (.int (own_fl p6 (2 : Int32))), .val (.int (own_fl p6 (4 : Int32))), .val (.double (FP.l2d (p2).toInt64)), .second, .unset, .unset, .unset, .unset] [])) rfl (hb hby at_61) _ ?_
          show Steps p.tables e below (T118.setTop (mkF m 64 #[.val (.int p1), .val (.int p2), .val (.int p3), .val (.int p4), .val (.int p5), .val (.int p6), .val (.int pe), .val (.int (own_fl p6 (1 : Int32))), .val (.int (own_fl p6 (2 : Int32))), .val (.int (own_fl p6 (4 : Int32))), .val (.double (FP.l2d (p2).toInt64)), .second, .unset, .unset, .unset, .unset] [(.double (9223372036854775808 : UInt64))])) _
          refine XS.dstore X118.here hx rfl (hb hby at_64) rfl (l' := #[.val (.int p1), .val (.int p2), .val (.int p3), .val (.int p4), .val (.int p5), .val (.int p6), .val (.int pe), .val (.int (own_fl p6 (1 : Int32))), .val (.int (own_fl p6 (2 : Int32))), .val (.int (own_fl p6 (4 : Int32))), .val (.double (9223372036854775808 : UInt64)), .second, .unset, .unset, .unset, .unset]) rfl ?_
          show Steps p.tables e below (T118.setTop (mkF m 66 #[.val (.int p1), .val (.int p2), .val (.int p3), .val (.int p4), .val (.int p5), .val (.int p6), .val (.int pe), .val (.int (own_fl p6 (1 : Int32))), .val (.int (own_fl p6 (2 : Int32))), .val (.int (own_fl p6 (4 : Int32))), .val (.double (9223372036854775808 : UInt64)), .second, .unset, .unset, .unset, .unset] [])) _
          exact kt
        have hl134_10 : (own_nq (own_fl p6 (4 : Int32)) p2) = (9223372036854775808 : UInt64) := by simp only [own_nq, eq_false hc54_128, eq_true hc58_132, if_true, if_false]
        exact ⟨_, _, X118, N118, e118, fun t kt => pre133 t (by rw [hl134_10] at kt; exact kt)⟩
      · skip
        have pre135 : ∀ t, Steps p.tables e below (T118.setTop (mkF m 66 #[.val (.int p1), .val (.int p2), .val (.int p3), .val (.int p4), .val (.int p5), .val (.int p6), .val (.int pe), .val (.int (own_fl p6 (1 : Int32))), .val (.int (own_fl p6 (2 : Int32))), .val (.int (own_fl p6 (4 : Int32))), .val (.double (FP.l2d (p2).toInt64)), .second, .unset, .unset, .unset, .unset] [])) t → Steps p.tables e below (s₁.setTop (entryFrame m #[(.int p1), (.int p2), (.int p3), (.int p4), (.int p5), (.int p6)] maxLocals)) t := fun t kt => by
          refine pre131 t ?_
          show Steps p.tables e below (T118.setTop (mkF m 58 #[.val (.int p1), .val (.int p2), .val (.int p3), .val (.int p4), .val (.int p5), .val (.int p6), .val (.int pe), .val (.int (own_fl p6 (1 : Int32))), .val (.int (own_fl p6 (2 : Int32))), .val (.int (own_fl p6 (4 : Int32))), .val (.double (FP.l2d (p2).toInt64)), .second, .unset, .unset, .unset, .unset] [(.int p2)])) _
          refine XS.ifYes X118.here hx rfl (pc0 := 58) (pc' := 66) rfl (hb hby at_58) rfl ((if0 _ _).trans (feq (hc58_132 : ¬ (p2 = (0 : Int32)))).2) (by decide) (by decide) ?_
          show Steps p.tables e below (T118.setTop (mkF m 66 #[.val (.int p1), .val (.int p2), .val (.int p3), .val (.int p4), .val (.int p5), .val (.int p6), .val (.int pe), .val (.int (own_fl p6 (1 : Int32))), .val (.int (own_fl p6 (2 : Int32))), .val (.int (own_fl p6 (4 : Int32))), .val (.double (FP.l2d (p2).toInt64)), .second, .unset, .unset, .unset, .unset] [])) _
          exact kt
        have hl136_10 : (own_nq (own_fl p6 (4 : Int32)) p2) = (FP.l2d (p2).toInt64) := by simp only [own_nq, eq_false hc54_128, eq_false hc58_132, if_true, if_false]
        exact ⟨_, _, X118, N118, e118, fun t kt => pre135 t (by rw [hl136_10] at kt; exact kt)⟩
  have pre137 : ∀ t, Steps p.tables e below (T126.setTop (mkF m 71 #[.val (.int p1), .val (.int p2), .val (.int p3), .val (.int p4), .val (.int p5), .val (.int p6), .val (.int pe), .val (.int (own_fl p6 (1 : Int32))), .val (.int (own_fl p6 (2 : Int32))), .val (.int (own_fl p6 (4 : Int32))), .val (.double (own_nq (own_fl p6 (4 : Int32)) p2)), .second, .val (.double (FP.l2d (p5).toInt64)), .second, .unset, .unset] [])) t → Steps p.tables e below (s₁.setTop (entryFrame m #[(.int p1), (.int p2), (.int p3), (.int p4), (.int p5), (.int p6)] maxLocals)) t := fun t kt => by
    refine pre126 t ?_
    show Steps p.tables e below (T126.setTop (mkF m 66 #[.val (.int p1), .val (.int p2), .val (.int p3), .val (.int p4), .val (.int p5), .val (.int p6), .val (.int pe), .val (.int (own_fl p6 (1 : Int32))), .val (.int (own_fl p6 (2 : Int32))), .val (.int (own_fl p6 (4 : Int32))), .val (.double (own_nq (own_fl p6 (4 : Int32)) p2)), .second, .unset, .unset, .unset, .unset] [])) _
    refine XS.iload X126.here hx rfl (hb hby at_66) rfl ?_
    refine XS.i2dS X126.here hx rfl (hb hby at_68) rfl (i2d_w _) ?_
    refine XS.dstore X126.here hx rfl (hb hby at_69) rfl (l' := #[.val (.int p1), .val (.int p2), .val (.int p3), .val (.int p4), .val (.int p5), .val (.int p6), .val (.int pe), .val (.int (own_fl p6 (1 : Int32))), .val (.int (own_fl p6 (2 : Int32))), .val (.int (own_fl p6 (4 : Int32))), .val (.double (own_nq (own_fl p6 (4 : Int32)) p2)), .second, .val (.double (FP.l2d (p5).toInt64)), .second, .unset, .unset]) rfl ?_
    show Steps p.tables e below (T126.setTop (mkF m 71 #[.val (.int p1), .val (.int p2), .val (.int p3), .val (.int p4), .val (.int p5), .val (.int p6), .val (.int pe), .val (.int (own_fl p6 (1 : Int32))), .val (.int (own_fl p6 (2 : Int32))), .val (.int (own_fl p6 (4 : Int32))), .val (.double (own_nq (own_fl p6 (4 : Int32)) p2)), .second, .val (.double (FP.l2d (p5).toInt64)), .second, .unset, .unset] [])) _
    exact kt
  obtain ⟨T138, L138, X138, N138, e138, pre138⟩ : ∃ (T' : State) (L' : List Loc), Stand p l e room_1 s m #[(.int p1), (.int p2), (.int p3), (.int p4), (.int p5), (.int p6)] below meth c T' L' 0 0 ∧ Fr n0 L' ∧ T'.heap = h0 ∧ ∀ t, Steps p.tables e below (T'.setTop (mkF m 86 #[.val (.int p1), .val (.int p2), .val (.int p3), .val (.int p4), .val (.int p5), .val (.int p6), .val (.int pe), .val (.int (own_fl p6 (1 : Int32))), .val (.int (own_fl p6 (2 : Int32))), .val (.int (own_fl p6 (4 : Int32))), .val (.double (own_nq (own_fl p6 (4 : Int32)) p2)), .second, .val (.double (own_nq (own_fl p6 (2 : Int32)) p5)), .second, .unset, .unset] [])) t → Steps p.tables e below (s₁.setTop (entryFrame m #[(.int p1), (.int p2), (.int p3), (.int p4), (.int p5), (.int p6)] maxLocals)) t := by
    have pre139 : ∀ t, Steps p.tables e below (T126.setTop (mkF m 73 #[.val (.int p1), .val (.int p2), .val (.int p3), .val (.int p4), .val (.int p5), .val (.int p6), .val (.int pe), .val (.int (own_fl p6 (1 : Int32))), .val (.int (own_fl p6 (2 : Int32))), .val (.int (own_fl p6 (4 : Int32))), .val (.double (own_nq (own_fl p6 (4 : Int32)) p2)), .second, .val (.double (FP.l2d (p5).toInt64)), .second, .unset, .unset] [(.int (own_fl p6 (2 : Int32)))])) t → Steps p.tables e below (s₁.setTop (entryFrame m #[(.int p1), (.int p2), (.int p3), (.int p4), (.int p5), (.int p6)] maxLocals)) t := fun t kt => by
      refine pre137 t ?_
      show Steps p.tables e below (T126.setTop (mkF m 71 #[.val (.int p1), .val (.int p2), .val (.int p3), .val (.int p4), .val (.int p5), .val (.int p6), .val (.int pe), .val (.int (own_fl p6 (1 : Int32))), .val (.int (own_fl p6 (2 : Int32))), .val (.int (own_fl p6 (4 : Int32))), .val (.double (own_nq (own_fl p6 (4 : Int32)) p2)), .second, .val (.double (FP.l2d (p5).toInt64)), .second, .unset, .unset] [])) _
      refine XS.iload X126.here hx rfl (hb hby at_71) rfl ?_
      show Steps p.tables e below (T126.setTop (mkF m 73 #[.val (.int p1), .val (.int p2), .val (.int p3), .val (.int p4), .val (.int p5), .val (.int p6), .val (.int pe), .val (.int (own_fl p6 (1 : Int32))), .val (.int (own_fl p6 (2 : Int32))), .val (.int (own_fl p6 (4 : Int32))), .val (.double (own_nq (own_fl p6 (4 : Int32)) p2)), .second, .val (.double (FP.l2d (p5).toInt64)), .second, .unset, .unset] [(.int (own_fl p6 (2 : Int32)))])) _
      exact kt
    by_cases hc73_140 : (own_fl p6 (2 : Int32)) = (0 : Int32)
    · skip
      have pre141 : ∀ t, Steps p.tables e below (T126.setTop (mkF m 86 #[.val (.int p1), .val (.int p2), .val (.int p3), .val (.int p4), .val (.int p5), .val (.int p6), .val (.int pe), .val (.int (own_fl p6 (1 : Int32))), .val (.int (own_fl p6 (2 : Int32))), .val (.int (own_fl p6 (4 : Int32))), .val (.double (own_nq (own_fl p6 (4 : Int32)) p2)), .second, .val (.double (FP.l2d (p5).toInt64)), .second, .unset, .unset] [])) t → Steps p.tables e below (s₁.setTop (entryFrame m #[(.int p1), (.int p2), (.int p3), (.int p4), (.int p5), (.int p6)] maxLocals)) t := fun t kt => by
        refine pre139 t ?_
        show Steps p.tables e below (T126.setTop (mkF m 73 #[.val (.int p1), .val (.int p2), .val (.int p3), .val (.int p4), .val (.int p5), .val (.int p6), .val (.int pe), .val (.int (own_fl p6 (1 : Int32))), .val (.int (own_fl p6 (2 : Int32))), .val (.int (own_fl p6 (4 : Int32))), .val (.double (own_nq (own_fl p6 (4 : Int32)) p2)), .second, .val (.double (FP.l2d (p5).toInt64)), .second, .unset, .unset] [(.int (own_fl p6 (2 : Int32)))])) _
        refine XS.ifYes X126.here hx rfl (pc0 := 73) (pc' := 86) rfl (hb hby at_73) rfl ((if0 _ _).trans (teq (hc73_140 : (own_fl p6 (2 : Int32)) = (0 : Int32))).1) (by decide) (by decide) ?_
        show Steps p.tables e below (T126.setTop (mkF m 86 #[.val (.int p1), .val (.int p2), .val (.int p3), .val (.int p4), .val (.int p5), .val (.int p6), .val (.int pe), .val (.int (own_fl p6 (1 : Int32))), .val (.int (own_fl p6 (2 : Int32))), .val (.int (own_fl p6 (4 : Int32))), .val (.double (own_nq (own_fl p6 (4 : Int32)) p2)), .second, .val (.double (FP.l2d (p5).toInt64)), .second, .unset, .unset] [])) _
        exact kt
      have hl142_12 : (own_nq (own_fl p6 (2 : Int32)) p5) = (FP.l2d (p5).toInt64) := by simp only [own_nq, eq_true hc73_140, if_true, if_false]
      exact ⟨_, _, X126, N126, e126, fun t kt => pre141 t (by rw [hl142_12] at kt; exact kt)⟩
    · skip
      have pre143 : ∀ t, Steps p.tables e below (T126.setTop (mkF m 78 #[.val (.int p1), .val (.int p2), .val (.int p3), .val (.int p4), .val (.int p5), .val (.int p6), .val (.int pe), .val (.int (own_fl p6 (1 : Int32))), .val (.int (own_fl p6 (2 : Int32))), .val (.int (own_fl p6 (4 : Int32))), .val (.double (own_nq (own_fl p6 (4 : Int32)) p2)), .second, .val (.double (FP.l2d (p5).toInt64)), .second, .unset, .unset] [(.int p5)])) t → Steps p.tables e below (s₁.setTop (entryFrame m #[(.int p1), (.int p2), (.int p3), (.int p4), (.int p5), (.int p6)] maxLocals)) t := fun t kt => by
        refine pre139 t ?_
        show Steps p.tables e below (T126.setTop (mkF m 73 #[.val (.int p1), .val (.int p2), .val (.int p3), .val (.int p4), .val (.int p5), .val (.int p6), .val (.int pe), .val (.int (own_fl p6 (1 : Int32))), .val (.int (own_fl p6 (2 : Int32))), .val (.int (own_fl p6 (4 : Int32))), .val (.double (own_nq (own_fl p6 (4 : Int32)) p2)), .second, .val (.double (FP.l2d (p5).toInt64)), .second, .unset, .unset] [(.int (own_fl p6 (2 : Int32)))])) _
        refine XS.ifNo X126.here hx rfl (hb hby at_73) rfl ((if0 _ _).trans (feq (hc73_140 : ¬ ((own_fl p6 (2 : Int32)) = (0 : Int32)))).1) ?_
        refine XS.iload X126.here hx rfl (hb hby at_76) rfl ?_
        show Steps p.tables e below (T126.setTop (mkF m 78 #[.val (.int p1), .val (.int p2), .val (.int p3), .val (.int p4), .val (.int p5), .val (.int p6), .val (.int pe), .val (.int (own_fl p6 (1 : Int32))), .val (.int (own_fl p6 (2 : Int32))), .val (.int (own_fl p6 (4 : Int32))), .val (.double (own_nq (own_fl p6 (4 : Int32)) p2)), .second, .val (.double (FP.l2d (p5).toInt64)), .second, .unset, .unset] [(.int p5)])) _
        exact kt
      by_cases hc78_144 : p5 = (0 : Int32)
      · skip
        have pre145 : ∀ t, Steps p.tables e below (T126.setTop (mkF m 86 #[.val (.int p1), .val (.int p2), .val (.int p3), .val (.int p4), .val (.int p5), .val (.int p6), .val (.int pe), .val (.int (own_fl p6 (1 : Int32))), .val (.int (own_fl p6 (2 : Int32))), .val (.int (own_fl p6 (4 : Int32))), .val (.double (own_nq (own_fl p6 (4 : Int32)) p2)), .second, .val (.double (9223372036854775808 : UInt64)), .second, .unset, .unset] [])) t → Steps p.tables e below (s₁.setTop (entryFrame m #[(.int p1), (.int p2), (.int p3), (.int p4), (.int p5), (.int p6)] maxLocals)) t := fun t kt => by
          refine pre143 t ?_
          show Steps p.tables e below (T126.setTop (mkF m 78 #[.val (.int p1), .val (.int p2), .val (.int p3), .val (.int p4), .val (.int p5), .val (.int p6), .val (.int pe), .val (.int (own_fl p6 (1 : Int32))), .val (.int (own_fl p6 (2 : Int32))), .val (.int (own_fl p6 (4 : Int32))), .val (.double (own_nq (own_fl p6 (4 : Int32)) p2)), .second, .val (.double (FP.l2d (p5).toInt64)), .second, .unset, .unset] [(.int p5)])) _
          refine XS.ifNo X126.here hx rfl (hb hby at_78) rfl ((if0 _ _).trans (teq (hc78_144 : p5 = (0 : Int32))).2) ?_
          show Steps p.tables e below (T126.setTop (mkF m 81 #[.val (.int p1), .val (.int p2), .val (.int p3), .val (.int p4), .val (.int p5), .val (.int p6), .val (.int pe), .val (.int (own_fl p6 (1 : Int32))), .val (.int (own_fl p6 (2 : Int32))), .val (.int (own_fl p6 (4 : Int32))), .val (.double (own_nq (own_fl p6 (4 : Int32)) p2)), .second, .val (.double (FP.l2d (p5).toInt64)), .second, .unset, .unset] [])) _
          refine X126.ldc2DoubleC hx hown (mvT hZ (own_w hw 0 rfl)) (g := (mkF m 81 #[.val (.int p1), .val (.int p2), .val (.int p3), .val (.int p4), .val (.int p5), .val (.int p6), .val (.int pe), .val (.int (own_fl p6 (1 : Int32))), .val (.int (own_fl p6 (2 : Int32))), .val (.int (own_fl p6 (4 : Int32))), .val (.double (own_nq (own_fl p6 (4 : Int32)) p2)), .second, .val (.double (FP.l2d (p5).toInt64)), .second, .unset, .unset] [])) rfl (hb hby at_81) _ ?_
          show Steps p.tables e below (T126.setTop (mkF m 84 #[.val (.int p1), .val (.int p2), .val (.int p3), .val (.int p4), .val (.int p5), .val (.int p6), .val (.int pe), .val (.int (own_fl p6 (1 : Int32))), .val (.int (own_fl p6 (2 : Int32))), .val (.int (own_fl p6 (4 : Int32))), .val (.double (own_nq (own_fl p6 (4 : Int32)) p2)), .second, .val (.double (FP.l2d (p5).toInt64)), .second, .unset, .unset] [(.double (9223372036854775808 : UInt64))])) _
          refine XS.dstore X126.here hx rfl (hb hby at_84) rfl (l' := #[.val (.int p1), .val (.int p2), .val (.int p3), .val (.int p4), .val (.int p5), .val (.int p6), .val (.int pe), .val (.int (own_fl p6 (1 : Int32))), .val (.int (own_fl p6 (2 : Int32))), .val (.int (own_fl p6 (4 : Int32))), .val (.double (own_nq (own_fl p6 (4 : Int32)) p2)), .second, .val (.double (9223372036854775808 : UInt64)), .second, .unset, .unset]) rfl ?_
          show Steps p.tables e below (T126.setTop (mkF m 86 #[.val (.int p1), .val (.int p2), .val (.int p3), .val (.int p4), .val (.int p5), .val (.int p6), .val (.int pe), .val (.int (own_fl p6 (1 : Int32))), .val (.int (own_fl p6 (2 : Int32))), .val (.int (own_fl p6 (4 : Int32))), .val (.double (own_nq (own_fl p6 (4 : Int32)) p2)), .second, .val (.double (9223372036854775808 : UInt64)), .second, .unset, .unset] [])) _
          exact kt
        have hl146_12 : (own_nq (own_fl p6 (2 : Int32)) p5) = (9223372036854775808 : UInt64) := by simp only [own_nq, eq_false hc73_140, eq_true hc78_144, if_true, if_false]
        exact ⟨_, _, X126, N126, e126, fun t kt => pre145 t (by rw [hl146_12] at kt; exact kt)⟩
      · skip
        have pre147 : ∀ t, Steps p.tables e below (T126.setTop (mkF m 86 #[.val (.int p1), .val (.int p2), .val (.int p3), .val (.int p4), .val (.int p5), .val (.int p6), .val (.int pe), .val (.int (own_fl p6 (1 : Int32))), .val (.int (own_fl p6 (2 : Int32))), .val (.int (own_fl p6 (4 : Int32))), .val (.double (own_nq (own_fl p6 (4 : Int32)) p2)), .second, .val (.double (FP.l2d (p5).toInt64)), .second, .unset, .unset] [])) t → Steps p.tables e below (s₁.setTop (entryFrame m #[(.int p1), (.int p2), (.int p3), (.int p4), (.int p5), (.int p6)] maxLocals)) t := fun t kt => by
          refine pre143 t ?_
          show Steps p.tables e below (T126.setTop (mkF m 78 #[.val (.int p1), .val (.int p2), .val (.int p3), .val (.int p4), .val (.int p5), .val (.int p6), .val (.int pe), .val (.int (own_fl p6 (1 : Int32))), .val (.int (own_fl p6 (2 : Int32))), .val (.int (own_fl p6 (4 : Int32))), .val (.double (own_nq (own_fl p6 (4 : Int32)) p2)), .second, .val (.double (FP.l2d (p5).toInt64)), .second, .unset, .unset] [(.int p5)])) _
          refine XS.ifYes X126.here hx rfl (pc0 := 78) (pc' := 86) rfl (hb hby at_78) rfl ((if0 _ _).trans (feq (hc78_144 : ¬ (p5 = (0 : Int32)))).2) (by decide) (by decide) ?_
          show Steps p.tables e below (T126.setTop (mkF m 86 #[.val (.int p1), .val (.int p2), .val (.int p3), .val (.int p4), .val (.int p5), .val (.int p6), .val (.int pe), .val (.int (own_fl p6 (1 : Int32))), .val (.int (own_fl p6 (2 : Int32))), .val (.int (own_fl p6 (4 : Int32))), .val (.double (own_nq (own_fl p6 (4 : Int32)) p2)), .second, .val (.double (FP.l2d (p5).toInt64)), .second, .unset, .unset] [])) _
          exact kt
        have hl148_12 : (own_nq (own_fl p6 (2 : Int32)) p5) = (FP.l2d (p5).toInt64) := by simp only [own_nq, eq_false hc73_140, eq_false hc78_144, if_true, if_false]
        exact ⟨_, _, X126, N126, e126, fun t kt => pre147 t (by rw [hl148_12] at kt; exact kt)⟩
  obtain ⟨val, cc, cq, ⟨hv0, hv1, hv2, hv3, hv4, hv6⟩, hcv, hcq, ⟨hb0, hb1, hb2, hb3, hb4, hb5⟩, ⟨hy1, hz1⟩, ⟨hy2, hz2⟩⟩ := own_setup p1 p2 p3 p4 pe p5 _ _ _ _ _ (own_nq (own_fl p6 (2 : Int32)) p5) (own_Di p1) (own_Dnz _ _) (own_Di p3) (own_Di p4) (own_Di pe) (own_Dnz _ _)
  have Eq0 : own_q0 = ((own_z16, own_z16, own_z16, own_z16, own_z16, own_K0, (1 : Int32), (0 : Int32), (0 : Int32)), (0 : Int32)) := rfl
  have hy0w := own_ok_w Eq0 hb0
  obtain ⟨T149, h149, X149, e149, E149, A149, D149, -, st149⟩ := newO X138 hx hZ hown (own_w hw 1 rfl) (own_w hw 2 rfl) (own_w hw 3 rfl) e138 (g := (mkF m 86 #[.val (.int p1), .val (.int p2), .val (.int p3), .val (.int p4), .val (.int p5), .val (.int p6), .val (.int pe), .val (.int (own_fl p6 (1 : Int32))), .val (.int (own_fl p6 (2 : Int32))), .val (.int (own_fl p6 (4 : Int32))), .val (.double (own_nq (own_fl p6 (4 : Int32)) p2)), .second, .val (.double (own_nq (own_fl p6 (2 : Int32)) p5)), .second, .unset, .unset] [])) rfl (hb hby at_86) (by decide) (by decide)
  obtain ⟨b149, g149⟩ : ∃ z, z = h0.size := ⟨_, rfl⟩
  rw [← g149] at A149 D149 st149
  have F150 : Fld Z h149 b149 "com/example/prequential/prequential/measure/ScoreMultiset" "key" "[D" .null := D149 (Or.inl (own_w hw 12 rfl)) (ty := (.array .double)) (by decide)
  have F151 : Fld Z h149 b149 "com/example/prequential/prequential/measure/ScoreMultiset" "left" "[I" .null := D149 (Or.inl (own_w hw 15 rfl)) (ty := (.array .int)) (by decide)
  have F152 : Fld Z h149 b149 "com/example/prequential/prequential/measure/ScoreMultiset" "right" "[I" .null := D149 (Or.inl (own_w hw 17 rfl)) (ty := (.array .int)) (by decide)
  have F153 : Fld Z h149 b149 "com/example/prequential/prequential/measure/ScoreMultiset" "count" "[I" .null := D149 (Or.inl (own_w hw 19 rfl)) (ty := (.array .int)) (by decide)
  have F154 : Fld Z h149 b149 "com/example/prequential/prequential/measure/ScoreMultiset" "total" "[I" .null := D149 (Or.inl (own_w hw 21 rfl)) (ty := (.array .int)) (by decide)
  have F155 : Fld Z h149 b149 "com/example/prequential/prequential/measure/ScoreMultiset" "height" "[B" .null := D149 (Or.inl (own_w hw 24 rfl)) (ty := (.array .byte)) (by decide)
  have F156 : Fld Z h149 b149 "com/example/prequential/prequential/measure/ScoreMultiset" "root" "I" (.int (0 : Int32)) := D149 (Or.inl (own_w hw 26 rfl)) (ty := .int) (by decide)
  have F157 : Fld Z h149 b149 "com/example/prequential/prequential/measure/ScoreMultiset" "unused" "I" (.int (0 : Int32)) := D149 (Or.inl (own_w hw 28 rfl)) (ty := .int) (by decide)
  have F158 : Fld Z h149 b149 "com/example/prequential/prequential/measure/ScoreMultiset" "freed" "I" (.int (0 : Int32)) := D149 (Or.inl (own_w hw 30 rfl)) (ty := .int) (by decide)
  have F159 : Fld Z h149 b149 "com/example/prequential/prequential/measure/ScoreMultiset" "reshaped" "Z" (.int (0 : Int32)) := D149 (Or.inl (own_w hw 37 rfl)) (ty := .boolean) (by decide)
  have g160 : n0 ≤ b149 := Nat.le_trans Z0 (Nat.le_of_eq g149.symm)
  have z162 : n0 ≤ h149.size := (Nat.le_trans Z0 E149.1)
  obtain ⟨_, _, ⟨T161, L161, k161, n161⟩, -, X161, ⟨Lc161, hQ161, l161, y161, z161⟩, st161⟩ := X149.specialBack hx (y := (⟨"com/example/prequential/prequential/measure/ScoreMultiset", "<init>", "()V"⟩ : MethodName)) rfl hown (mvT hZ (own_w hw 4 rfl)) (mvT hZ (own_w hw 5 rfl)) (mvT hZ (own_w hw 6 rfl)) (by decide) (backOf (W := 1) (rm1 l Z a0 hw [] b149 val h149 n0 z162 A149 F150 F151 F152 F153 F154 F155 F156 F157 F158 F159 g160 hv6) hZ (own_w hw 6 rfl) (own_w hw 3 rfl) (by decide) (by decide)) (g := (mkF m 90 #[.val (.int p1), .val (.int p2), .val (.int p3), .val (.int p4), .val (.int p5), .val (.int p6), .val (.int pe), .val (.int (own_fl p6 (1 : Int32))), .val (.int (own_fl p6 (2 : Int32))), .val (.int (own_fl p6 (4 : Int32))), .val (.double (own_nq (own_fl p6 (4 : Int32)) p2)), .second, .val (.double (own_nq (own_fl p6 (2 : Int32)) p5)), .second, .unset, .unset] [(.ref b149), (.ref b149)])) rfl (by rw [hml]; rfl) (Steps.refl _) (a := b149) (argsL := []) (rest := [(.ref b149)]) (lenOf pd_5 rfl) rfl (by show 2 * 0 + _ ≤ _; exact Nat.le_of_eq rfl) (hb hby at_90) (fun _ _ => ⟨rfl, e149, (by decide : 1 + 6 ≤ _), (by decide : 10 + 96 ≤ _)⟩)
  dsimp only [Pt.U, Pt.locs, Pt.cells, Pt.slots] at X161 l161 y161 z161 st161 hQ161
  subst l161 y161 z161
  obtain ⟨ak161, al161, ar161, ac161, au161, ah161, kk161, kl161, kr161, kc161, ku161, kh161, rfl, Nq161, K161, R161_1, R161_2, R161_3, R161_4, R161_5, R161_6, R161_7, R161_8, R161_9, R161_10, R161_11, R161_12, R161_13, R161_14, R161_15, R161_16, R161_17, R161_18, R161_19, R161_20, R161_21, R161_22, R161_23, R161_24, R161_25, R161_26, R161_27, R161_28⟩ := hQ161
  have N161 := Fr.app N138 Nq161
  have f163 := (A149.keep K161)
  have g164 : n0 ≤ ak161 := Nat.le_trans z162 R161_17
  have g165 : n0 ≤ al161 := Nat.le_trans z162 R161_18
  have g166 : n0 ≤ ar161 := Nat.le_trans z162 R161_19
  have g167 : n0 ≤ ac161 := Nat.le_trans z162 R161_20
  have g168 : n0 ≤ au161 := Nat.le_trans z162 R161_21
  have g169 : n0 ≤ ah161 := Nat.le_trans z162 R161_22
  have z171 : n0 ≤ T161.heap.size := (Nat.le_trans z162 K161.1)
  obtain ⟨cq170, kq170, q170a, q170b, q170c⟩ := isOf hZ rfl f163
  obtain ⟨_, _, ⟨T170, L170, k170, n170⟩, -, X170, ⟨Lc170, hQ170, l170, y170, z170⟩, st170⟩ := X161.virtualBack hx (y := (⟨"com/example/prequential/prequential/measure/ScoreMultiset", "add", "(D)V"⟩ : MethodName)) (z := (⟨"com/example/prequential/prequential/measure/ScoreMultiset", "add", "(D)V"⟩ : MethodName)) hown (mvT hZ (own_w hw 31 rfl)) (mvT hZ (own_w hw 32 rfl)) (notFace_of_selects (args := #[]) (mvT hZ (own_w hw 34 rfl))) (mvT hZ (own_w hw 34 rfl)) (mvT hZ (own_w hw 33 rfl)) (by decide) (backOf (W := 0) (rm3 l Z a0 hw [] b149 (FP.l2d (p1).toInt64) ak161 (0 : Int32) (1 : Int32) (0 : Int32) al161 kl161 own_z16 ar161 kr161 own_z16 ac161 kc161 own_z16 au161 ku161 own_z16 ah161 kh161 own_z16 kk161 own_K0 val cc 0 T161.heap n0 z171 f163 R161_1 R161_2 R161_3 R161_4 R161_5 R161_6 R161_7 R161_8 R161_9 R161_10 R161_11 R161_12 R161_13 R161_14 R161_15 R161_16 g160 g164 g165 g166 g167 g168 g169 R161_23 R161_24 R161_25 R161_26 R161_27 R161_28 own_rz own_rz rfl rfl rfl (by decide) (by decide) hy0w hcv (by decide) hv0) hZ (own_w hw 35 rfl) (own_w hw 3 rfl) (by decide) (by decide)) q170a q170c (g := (mkF m 99 #[.val (.int p1), .val (.int p2), .val (.int p3), .val (.int p4), .val (.int p5), .val (.int p6), .val (.int pe), .val (.int (own_fl p6 (1 : Int32))), .val (.int (own_fl p6 (2 : Int32))), .val (.int (own_fl p6 (4 : Int32))), .val (.double (own_nq (own_fl p6 (4 : Int32)) p2)), .second, .val (.double (own_nq (own_fl p6 (2 : Int32)) p5)), .second, .val (.ref b149), .unset] [(.double (FP.l2d (p1).toInt64)), (.ref b149)])) rfl (by rw [hml]; rfl) (Steps.refl _) (argsL := [(.double (FP.l2d (p1).toInt64))]) (rest := []) (lenOf pd_6 rfl) rfl (by show 2 * 0 + _ ≤ _; exact Nat.le_of_eq rfl) (hb hby at_99) (fun _ _ => ⟨rfl, rfl, (by decide : 7 + 0 ≤ _), (by decide : 106 + 0 ≤ _)⟩)
  dsimp only [Pt.U, Pt.locs, Pt.cells, Pt.slots] at X170 l170 y170 z170 st170 hQ170
  subst l170 y170 z170
  obtain ⟨lL2170, lR2170, lC2170, lT2170, lH2170, kK2170, u2170, r2170, v2170, rfl, Nq170, K170, R170_1, R170_2, R170_3, R170_4, R170_5, R170_6, R170_7, R170_8, R170_9, R170_10, R170_11, R170_12, R170_13, R170_14, R170_15, R170_16, R170_17, R170_18, R170_19, R170_20, R170_21, R170_22, R170_23⟩ := hQ170
  have N170 := Fr.app N161 Nq170
  have Eq1 : own_c1 cc = ((lL2170, lR2170, lC2170, lT2170, lH2170, kK2170, u2170, (0 : Int32), r2170), v2170) := own_nx Eq0 R170_23
  have hu1 := own_ok_u Eq1 hb1
  have hy1w := own_ok_w Eq1 hb1
  have f172 := (f163.keep K170)
  have z174 : n0 ≤ T170.heap.size := (Nat.le_trans z171 K170.1)
  obtain ⟨cq173, kq173, q173a, q173b, q173c⟩ := isOf hZ rfl f172
  obtain ⟨_, _, ⟨T173, L173, k173, n173⟩, -, X173, ⟨Lc173, hQ173, l173, y173, z173⟩, st173⟩ := X170.virtualBack hx (y := (⟨"com/example/prequential/prequential/measure/ScoreMultiset", "add", "(D)V"⟩ : MethodName)) (z := (⟨"com/example/prequential/prequential/measure/ScoreMultiset", "add", "(D)V"⟩ : MethodName)) hown (mvT hZ (own_w hw 31 rfl)) (mvT hZ (own_w hw 32 rfl)) (notFace_of_selects (args := #[]) (mvT hZ (own_w hw 34 rfl))) (mvT hZ (own_w hw 34 rfl)) (mvT hZ (own_w hw 33 rfl)) (by decide) (backOf (W := 0) (rm3 l Z a0 hw [] b149 (own_nq (own_fl p6 (4 : Int32)) p2) ak161 v2170 u2170 r2170 al161 kl161 lL2170 ar161 kr161 lR2170 ac161 kc161 lC2170 au161 ku161 lT2170 ah161 kh161 lH2170 kk161 kK2170 val cc 1 T170.heap n0 z174 f172 R170_1 R170_2 R170_3 R170_4 R170_5 R170_6 R170_7 R170_8 R170_9 R170_10 R170_11 R170_12 R170_13 R170_14 R170_15 R170_16 g160 g164 g165 g166 g167 g168 g169 R161_23 R161_24 R161_25 R161_26 R161_27 R161_28 R170_17 R170_18 R170_19 R170_20 R170_21 R170_22 hu1 hy1w hcv (by decide) hv1) hZ (own_w hw 35 rfl) (own_w hw 3 rfl) (by decide) (by decide)) q173a q173c (g := (mkF m 106 #[.val (.int p1), .val (.int p2), .val (.int p3), .val (.int p4), .val (.int p5), .val (.int p6), .val (.int pe), .val (.int (own_fl p6 (1 : Int32))), .val (.int (own_fl p6 (2 : Int32))), .val (.int (own_fl p6 (4 : Int32))), .val (.double (own_nq (own_fl p6 (4 : Int32)) p2)), .second, .val (.double (own_nq (own_fl p6 (2 : Int32)) p5)), .second, .val (.ref b149), .unset] [(.double (own_nq (own_fl p6 (4 : Int32)) p2)), (.ref b149)])) rfl (by rw [hml]; rfl) (Steps.refl _) (argsL := [(.double (own_nq (own_fl p6 (4 : Int32)) p2))]) (rest := []) (lenOf pd_6 rfl) rfl (by show 2 * 0 + _ ≤ _; exact Nat.le_of_eq rfl) (hb hby at_106) (fun _ _ => ⟨rfl, rfl, (by decide : 7 + 0 ≤ _), (by decide : 106 + 0 ≤ _)⟩)
  dsimp only [Pt.U, Pt.locs, Pt.cells, Pt.slots] at X173 l173 y173 z173 st173 hQ173
  subst l173 y173 z173
  obtain ⟨lL2173, lR2173, lC2173, lT2173, lH2173, kK2173, u2173, r2173, v2173, rfl, Nq173, K173, R173_1, R173_2, R173_3, R173_4, R173_5, R173_6, R173_7, R173_8, R173_9, R173_10, R173_11, R173_12, R173_13, R173_14, R173_15, R173_16, R173_17, R173_18, R173_19, R173_20, R173_21, R173_22, R173_23⟩ := hQ173
  have N173 := Fr.app N170 Nq173
  have Eq2 : own_c2 cc = ((lL2173, lR2173, lC2173, lT2173, lH2173, kK2173, u2173, (0 : Int32), r2173), v2173) := own_nx Eq1 R173_23
  have hu2 := own_ok_u Eq2 hb2
  have hy2w := own_ok_w Eq2 hb2
  have f175 := (f172.keep K173)
  have z177 : n0 ≤ T173.heap.size := (Nat.le_trans z174 K173.1)
  obtain ⟨cq176, kq176, q176a, q176b, q176c⟩ := isOf hZ rfl f175
  obtain ⟨_, _, ⟨T176, L176, k176, n176⟩, -, X176, ⟨Lc176, hQ176, l176, y176, z176⟩, st176⟩ := X173.virtualBack hx (y := (⟨"com/example/prequential/prequential/measure/ScoreMultiset", "add", "(D)V"⟩ : MethodName)) (z := (⟨"com/example/prequential/prequential/measure/ScoreMultiset", "add", "(D)V"⟩ : MethodName)) hown (mvT hZ (own_w hw 31 rfl)) (mvT hZ (own_w hw 32 rfl)) (notFace_of_selects (args := #[]) (mvT hZ (own_w hw 34 rfl))) (mvT hZ (own_w hw 34 rfl)) (mvT hZ (own_w hw 33 rfl)) (by decide) (backOf (W := 0) (rm3 l Z a0 hw [] b149 (FP.l2d (p3).toInt64) ak161 v2173 u2173 r2173 al161 kl161 lL2173 ar161 kr161 lR2173 ac161 kc161 lC2173 au161 ku161 lT2173 ah161 kh161 lH2173 kk161 kK2173 val cc 2 T173.heap n0 z177 f175 R173_1 R173_2 R173_3 R173_4 R173_5 R173_6 R173_7 R173_8 R173_9 R173_10 R173_11 R173_12 R173_13 R173_14 R173_15 R173_16 g160 g164 g165 g166 g167 g168 g169 R161_23 R161_24 R161_25 R161_26 R161_27 R161_28 R173_17 R173_18 R173_19 R173_20 R173_21 R173_22 hu2 hy2w hcv (by decide) hv2) hZ (own_w hw 35 rfl) (own_w hw 3 rfl) (by decide) (by decide)) q176a q176c (g := (mkF m 113 #[.val (.int p1), .val (.int p2), .val (.int p3), .val (.int p4), .val (.int p5), .val (.int p6), .val (.int pe), .val (.int (own_fl p6 (1 : Int32))), .val (.int (own_fl p6 (2 : Int32))), .val (.int (own_fl p6 (4 : Int32))), .val (.double (own_nq (own_fl p6 (4 : Int32)) p2)), .second, .val (.double (own_nq (own_fl p6 (2 : Int32)) p5)), .second, .val (.ref b149), .unset] [(.double (FP.l2d (p3).toInt64)), (.ref b149)])) rfl (by rw [hml]; rfl) (Steps.refl _) (argsL := [(.double (FP.l2d (p3).toInt64))]) (rest := []) (lenOf pd_6 rfl) rfl (by show 2 * 0 + _ ≤ _; exact Nat.le_of_eq rfl) (hb hby at_113) (fun _ _ => ⟨rfl, rfl, (by decide : 7 + 0 ≤ _), (by decide : 106 + 0 ≤ _)⟩)
  dsimp only [Pt.U, Pt.locs, Pt.cells, Pt.slots] at X176 l176 y176 z176 st176 hQ176
  subst l176 y176 z176
  obtain ⟨lL2176, lR2176, lC2176, lT2176, lH2176, kK2176, u2176, r2176, v2176, rfl, Nq176, K176, R176_1, R176_2, R176_3, R176_4, R176_5, R176_6, R176_7, R176_8, R176_9, R176_10, R176_11, R176_12, R176_13, R176_14, R176_15, R176_16, R176_17, R176_18, R176_19, R176_20, R176_21, R176_22, R176_23⟩ := hQ176
  have N176 := Fr.app N173 Nq176
  have Eq3 : own_c3 cc = ((lL2176, lR2176, lC2176, lT2176, lH2176, kK2176, u2176, (0 : Int32), r2176), v2176) := own_nx Eq2 R176_23
  have hu3 := own_ok_u Eq3 hb3
  have hy3w := own_ok_w Eq3 hb3
  have f178 := (f175.keep K176)
  have z180 : n0 ≤ T176.heap.size := (Nat.le_trans z177 K176.1)
  obtain ⟨cq179, kq179, q179a, q179b, q179c⟩ := isOf hZ rfl f178
  obtain ⟨_, _, ⟨T179, L179, k179, n179⟩, -, X179, ⟨Lc179, hQ179, l179, y179, z179⟩, st179⟩ := X176.virtualBack hx (y := (⟨"com/example/prequential/prequential/measure/ScoreMultiset", "add", "(D)V"⟩ : MethodName)) (z := (⟨"com/example/prequential/prequential/measure/ScoreMultiset", "add", "(D)V"⟩ : MethodName)) hown (mvT hZ (own_w hw 31 rfl)) (mvT hZ (own_w hw 32 rfl)) (notFace_of_selects (args := #[]) (mvT hZ (own_w hw 34 rfl))) (mvT hZ (own_w hw 34 rfl)) (mvT hZ (own_w hw 33 rfl)) (by decide) (backOf (W := 0) (rm3 l Z a0 hw [] b149 (FP.l2d (p4).toInt64) ak161 v2176 u2176 r2176 al161 kl161 lL2176 ar161 kr161 lR2176 ac161 kc161 lC2176 au161 ku161 lT2176 ah161 kh161 lH2176 kk161 kK2176 val cc 3 T176.heap n0 z180 f178 R176_1 R176_2 R176_3 R176_4 R176_5 R176_6 R176_7 R176_8 R176_9 R176_10 R176_11 R176_12 R176_13 R176_14 R176_15 R176_16 g160 g164 g165 g166 g167 g168 g169 R161_23 R161_24 R161_25 R161_26 R161_27 R161_28 R176_17 R176_18 R176_19 R176_20 R176_21 R176_22 hu3 hy3w hcv (by decide) hv3) hZ (own_w hw 35 rfl) (own_w hw 3 rfl) (by decide) (by decide)) q179a q179c (g := (mkF m 120 #[.val (.int p1), .val (.int p2), .val (.int p3), .val (.int p4), .val (.int p5), .val (.int p6), .val (.int pe), .val (.int (own_fl p6 (1 : Int32))), .val (.int (own_fl p6 (2 : Int32))), .val (.int (own_fl p6 (4 : Int32))), .val (.double (own_nq (own_fl p6 (4 : Int32)) p2)), .second, .val (.double (own_nq (own_fl p6 (2 : Int32)) p5)), .second, .val (.ref b149), .unset] [(.double (FP.l2d (p4).toInt64)), (.ref b149)])) rfl (by rw [hml]; rfl) (Steps.refl _) (argsL := [(.double (FP.l2d (p4).toInt64))]) (rest := []) (lenOf pd_6 rfl) rfl (by show 2 * 0 + _ ≤ _; exact Nat.le_of_eq rfl) (hb hby at_120) (fun _ _ => ⟨rfl, rfl, (by decide : 7 + 0 ≤ _), (by decide : 106 + 0 ≤ _)⟩)
  dsimp only [Pt.U, Pt.locs, Pt.cells, Pt.slots] at X179 l179 y179 z179 st179 hQ179
  subst l179 y179 z179
  obtain ⟨lL2179, lR2179, lC2179, lT2179, lH2179, kK2179, u2179, r2179, v2179, rfl, Nq179, K179, R179_1, R179_2, R179_3, R179_4, R179_5, R179_6, R179_7, R179_8, R179_9, R179_10, R179_11, R179_12, R179_13, R179_14, R179_15, R179_16, R179_17, R179_18, R179_19, R179_20, R179_21, R179_22, R179_23⟩ := hQ179
  have N179 := Fr.app N176 Nq179
  have Eq4 : own_c4 cc = ((lL2179, lR2179, lC2179, lT2179, lH2179, kK2179, u2179, (0 : Int32), r2179), v2179) := own_nx Eq3 R179_23
  have hu4 := own_ok_u Eq4 hb4
  have hy4w := own_ok_w Eq4 hb4
  have f181 := (f178.keep K179)
  have z183 : n0 ≤ T179.heap.size := (Nat.le_trans z180 K179.1)
  obtain ⟨cq182, kq182, q182a, q182b, q182c⟩ := isOf hZ rfl f181
  obtain ⟨_, _, ⟨T182, L182, k182, n182⟩, -, X182, ⟨Lc182, hQ182, l182, y182, z182⟩, st182⟩ := X179.virtualBack hx (y := (⟨"com/example/prequential/prequential/measure/ScoreMultiset", "add", "(D)V"⟩ : MethodName)) (z := (⟨"com/example/prequential/prequential/measure/ScoreMultiset", "add", "(D)V"⟩ : MethodName)) hown (mvT hZ (own_w hw 31 rfl)) (mvT hZ (own_w hw 32 rfl)) (notFace_of_selects (args := #[]) (mvT hZ (own_w hw 34 rfl))) (mvT hZ (own_w hw 34 rfl)) (mvT hZ (own_w hw 33 rfl)) (by decide) (backOf (W := 0) (rm3 l Z a0 hw [] b149 (FP.l2d (pe).toInt64) ak161 v2179 u2179 r2179 al161 kl161 lL2179 ar161 kr161 lR2179 ac161 kc161 lC2179 au161 ku161 lT2179 ah161 kh161 lH2179 kk161 kK2179 val cc 4 T179.heap n0 z183 f181 R179_1 R179_2 R179_3 R179_4 R179_5 R179_6 R179_7 R179_8 R179_9 R179_10 R179_11 R179_12 R179_13 R179_14 R179_15 R179_16 g160 g164 g165 g166 g167 g168 g169 R161_23 R161_24 R161_25 R161_26 R161_27 R161_28 R179_17 R179_18 R179_19 R179_20 R179_21 R179_22 hu4 hy4w hcv (by decide) hv4) hZ (own_w hw 35 rfl) (own_w hw 3 rfl) (by decide) (by decide)) q182a q182c (g := (mkF m 128 #[.val (.int p1), .val (.int p2), .val (.int p3), .val (.int p4), .val (.int p5), .val (.int p6), .val (.int pe), .val (.int (own_fl p6 (1 : Int32))), .val (.int (own_fl p6 (2 : Int32))), .val (.int (own_fl p6 (4 : Int32))), .val (.double (own_nq (own_fl p6 (4 : Int32)) p2)), .second, .val (.double (own_nq (own_fl p6 (2 : Int32)) p5)), .second, .val (.ref b149), .unset] [(.double (FP.l2d (pe).toInt64)), (.ref b149)])) rfl (by rw [hml]; rfl) (Steps.refl _) (argsL := [(.double (FP.l2d (pe).toInt64))]) (rest := []) (lenOf pd_6 rfl) rfl (by show 2 * 0 + _ ≤ _; exact Nat.le_of_eq rfl) (hb hby at_128) (fun _ _ => ⟨rfl, rfl, (by decide : 7 + 0 ≤ _), (by decide : 106 + 0 ≤ _)⟩)
  dsimp only [Pt.U, Pt.locs, Pt.cells, Pt.slots] at X182 l182 y182 z182 st182 hQ182
  subst l182 y182 z182
  obtain ⟨lL2182, lR2182, lC2182, lT2182, lH2182, kK2182, u2182, r2182, v2182, rfl, Nq182, K182, R182_1, R182_2, R182_3, R182_4, R182_5, R182_6, R182_7, R182_8, R182_9, R182_10, R182_11, R182_12, R182_13, R182_14, R182_15, R182_16, R182_17, R182_18, R182_19, R182_20, R182_21, R182_22, R182_23⟩ := hQ182
  have N182 := Fr.app N179 Nq182
  have Eq5 : own_c5 cc = ((lL2182, lR2182, lC2182, lT2182, lH2182, kK2182, u2182, (0 : Int32), r2182), v2182) := own_nx Eq4 R182_23
  have hy5w := own_ok_d Eq5 hb5
  have hy5q := own_ok_q Eq5 hy1
  have pre184 : ∀ t, Steps p.tables e below (T182.setTop (mkF m 133 #[.val (.int p1), .val (.int p2), .val (.int p3), .val (.int p4), .val (.int p5), .val (.int p6), .val (.int pe), .val (.int (own_fl p6 (1 : Int32))), .val (.int (own_fl p6 (2 : Int32))), .val (.int (own_fl p6 (4 : Int32))), .val (.double (own_nq (own_fl p6 (4 : Int32)) p2)), .second, .val (.double (own_nq (own_fl p6 (2 : Int32)) p5)), .second, .val (.ref b149), .unset] [(.int (own_fl p6 (1 : Int32)))])) t → Steps p.tables e below (s₁.setTop (entryFrame m #[(.int p1), (.int p2), (.int p3), (.int p4), (.int p5), (.int p6)] maxLocals)) t := fun t kt => by
    refine pre138 t ?_
    show Steps p.tables e below (T138.setTop (mkF m 86 #[.val (.int p1), .val (.int p2), .val (.int p3), .val (.int p4), .val (.int p5), .val (.int p6), .val (.int pe), .val (.int (own_fl p6 (1 : Int32))), .val (.int (own_fl p6 (2 : Int32))), .val (.int (own_fl p6 (4 : Int32))), .val (.double (own_nq (own_fl p6 (4 : Int32)) p2)), .second, .val (.double (own_nq (own_fl p6 (2 : Int32)) p5)), .second, .unset, .unset] [])) _
    refine st149 _ ?_
    refine XS.dup X149.here hx rfl (hb hby at_89) rfl rfl ?_
    show Steps p.tables e below (T149.setTop (mkF m 90 #[.val (.int p1), .val (.int p2), .val (.int p3), .val (.int p4), .val (.int p5), .val (.int p6), .val (.int pe), .val (.int (own_fl p6 (1 : Int32))), .val (.int (own_fl p6 (2 : Int32))), .val (.int (own_fl p6 (4 : Int32))), .val (.double (own_nq (own_fl p6 (4 : Int32)) p2)), .second, .val (.double (own_nq (own_fl p6 (2 : Int32)) p5)), .second, .unset, .unset] [(.ref b149), (.ref b149)])) _
    refine st161.trans ?_
    show Steps p.tables e below (T161.setTop (mkF m 93 #[.val (.int p1), .val (.int p2), .val (.int p3), .val (.int p4), .val (.int p5), .val (.int p6), .val (.int pe), .val (.int (own_fl p6 (1 : Int32))), .val (.int (own_fl p6 (2 : Int32))), .val (.int (own_fl p6 (4 : Int32))), .val (.double (own_nq (own_fl p6 (4 : Int32)) p2)), .second, .val (.double (own_nq (own_fl p6 (2 : Int32)) p5)), .second, .unset, .unset] [(.ref b149)])) _
    refine XS.astore X161.here hx rfl (hb hby at_93) rfl rfl (l' := #[.val (.int p1), .val (.int p2), .val (.int p3), .val (.int p4), .val (.int p5), .val (.int p6), .val (.int pe), .val (.int (own_fl p6 (1 : Int32))), .val (.int (own_fl p6 (2 : Int32))), .val (.int (own_fl p6 (4 : Int32))), .val (.double (own_nq (own_fl p6 (4 : Int32)) p2)), .second, .val (.double (own_nq (own_fl p6 (2 : Int32)) p5)), .second, .val (.ref b149), .unset]) rfl ?_
    refine XS.aload X161.here hx rfl (hb hby at_95) rfl rfl ?_
    refine XS.iloadN X161.here hx rfl (hb hby at_97) rfl ?_
    refine XS.i2dS X161.here hx rfl (hb hby at_98) rfl (i2d_w _) ?_
    show Steps p.tables e below (T161.setTop (mkF m 99 #[.val (.int p1), .val (.int p2), .val (.int p3), .val (.int p4), .val (.int p5), .val (.int p6), .val (.int pe), .val (.int (own_fl p6 (1 : Int32))), .val (.int (own_fl p6 (2 : Int32))), .val (.int (own_fl p6 (4 : Int32))), .val (.double (own_nq (own_fl p6 (4 : Int32)) p2)), .second, .val (.double (own_nq (own_fl p6 (2 : Int32)) p5)), .second, .val (.ref b149), .unset] [(.double (FP.l2d (p1).toInt64)), (.ref b149)])) _
    refine st170.trans ?_
    show Steps p.tables e below (T170.setTop (mkF m 102 #[.val (.int p1), .val (.int p2), .val (.int p3), .val (.int p4), .val (.int p5), .val (.int p6), .val (.int pe), .val (.int (own_fl p6 (1 : Int32))), .val (.int (own_fl p6 (2 : Int32))), .val (.int (own_fl p6 (4 : Int32))), .val (.double (own_nq (own_fl p6 (4 : Int32)) p2)), .second, .val (.double (own_nq (own_fl p6 (2 : Int32)) p5)), .second, .val (.ref b149), .unset] [])) _
    refine XS.aload X170.here hx rfl (hb hby at_102) rfl rfl ?_
    refine XS.dload X170.here hx rfl (hb hby at_104) rfl ?_
    show Steps p.tables e below (T170.setTop (mkF m 106 #[.val (.int p1), .val (.int p2), .val (.int p3), .val (.int p4), .val (.int p5), .val (.int p6), .val (.int pe), .val (.int (own_fl p6 (1 : Int32))), .val (.int (own_fl p6 (2 : Int32))), .val (.int (own_fl p6 (4 : Int32))), .val (.double (own_nq (own_fl p6 (4 : Int32)) p2)), .second, .val (.double (own_nq (own_fl p6 (2 : Int32)) p5)), .second, .val (.ref b149), .unset] [(.double (own_nq (own_fl p6 (4 : Int32)) p2)), (.ref b149)])) _
    refine st173.trans ?_
    show Steps p.tables e below (T173.setTop (mkF m 109 #[.val (.int p1), .val (.int p2), .val (.int p3), .val (.int p4), .val (.int p5), .val (.int p6), .val (.int pe), .val (.int (own_fl p6 (1 : Int32))), .val (.int (own_fl p6 (2 : Int32))), .val (.int (own_fl p6 (4 : Int32))), .val (.double (own_nq (own_fl p6 (4 : Int32)) p2)), .second, .val (.double (own_nq (own_fl p6 (2 : Int32)) p5)), .second, .val (.ref b149), .unset] [])) _
    refine XS.aload X173.here hx rfl (hb hby at_109) rfl rfl ?_
    refine XS.iloadN X173.here hx rfl (hb hby at_111) rfl ?_
    refine XS.i2dS X173.here hx rfl (hb hby at_112) rfl (i2d_w _) ?_
    show Steps p.tables e below (T173.setTop (mkF m 113 #[.val (.int p1), .val (.int p2), .val (.int p3), .val (.int p4), .val (.int p5), .val (.int p6), .val (.int pe), .val (.int (own_fl p6 (1 : Int32))), .val (.int (own_fl p6 (2 : Int32))), .val (.int (own_fl p6 (4 : Int32))), .val (.double (own_nq (own_fl p6 (4 : Int32)) p2)), .second, .val (.double (own_nq (own_fl p6 (2 : Int32)) p5)), .second, .val (.ref b149), .unset] [(.double (FP.l2d (p3).toInt64)), (.ref b149)])) _
    refine st176.trans ?_
    show Steps p.tables e below (T176.setTop (mkF m 116 #[.val (.int p1), .val (.int p2), .val (.int p3), .val (.int p4), .val (.int p5), .val (.int p6), .val (.int pe), .val (.int (own_fl p6 (1 : Int32))), .val (.int (own_fl p6 (2 : Int32))), .val (.int (own_fl p6 (4 : Int32))), .val (.double (own_nq (own_fl p6 (4 : Int32)) p2)), .second, .val (.double (own_nq (own_fl p6 (2 : Int32)) p5)), .second, .val (.ref b149), .unset] [])) _
    refine XS.aload X176.here hx rfl (hb hby at_116) rfl rfl ?_
    refine XS.iloadN X176.here hx rfl (hb hby at_118) rfl ?_
    refine XS.i2dS X176.here hx rfl (hb hby at_119) rfl (i2d_w _) ?_
    show Steps p.tables e below (T176.setTop (mkF m 120 #[.val (.int p1), .val (.int p2), .val (.int p3), .val (.int p4), .val (.int p5), .val (.int p6), .val (.int pe), .val (.int (own_fl p6 (1 : Int32))), .val (.int (own_fl p6 (2 : Int32))), .val (.int (own_fl p6 (4 : Int32))), .val (.double (own_nq (own_fl p6 (4 : Int32)) p2)), .second, .val (.double (own_nq (own_fl p6 (2 : Int32)) p5)), .second, .val (.ref b149), .unset] [(.double (FP.l2d (p4).toInt64)), (.ref b149)])) _
    refine st179.trans ?_
    show Steps p.tables e below (T179.setTop (mkF m 123 #[.val (.int p1), .val (.int p2), .val (.int p3), .val (.int p4), .val (.int p5), .val (.int p6), .val (.int pe), .val (.int (own_fl p6 (1 : Int32))), .val (.int (own_fl p6 (2 : Int32))), .val (.int (own_fl p6 (4 : Int32))), .val (.double (own_nq (own_fl p6 (4 : Int32)) p2)), .second, .val (.double (own_nq (own_fl p6 (2 : Int32)) p5)), .second, .val (.ref b149), .unset] [])) _
    refine XS.aload X179.here hx rfl (hb hby at_123) rfl rfl ?_
    refine XS.iload X179.here hx rfl (hb hby at_125) rfl ?_
    refine XS.i2dS X179.here hx rfl (hb hby at_127) rfl (i2d_w _) ?_
    show Steps p.tables e below (T179.setTop (mkF m 128 #[.val (.int p1), .val (.int p2), .val (.int p3), .val (.int p4), .val (.int p5), .val (.int p6), .val (.int pe), .val (.int (own_fl p6 (1 : Int32))), .val (.int (own_fl p6 (2 : Int32))), .val (.int (own_fl p6 (4 : Int32))), .val (.double (own_nq (own_fl p6 (4 : Int32)) p2)), .second, .val (.double (own_nq (own_fl p6 (2 : Int32)) p5)), .second, .val (.ref b149), .unset] [(.double (FP.l2d (pe).toInt64)), (.ref b149)])) _
    refine st182.trans ?_
    show Steps p.tables e below (T182.setTop (mkF m 131 #[.val (.int p1), .val (.int p2), .val (.int p3), .val (.int p4), .val (.int p5), .val (.int p6), .val (.int pe), .val (.int (own_fl p6 (1 : Int32))), .val (.int (own_fl p6 (2 : Int32))), .val (.int (own_fl p6 (4 : Int32))), .val (.double (own_nq (own_fl p6 (4 : Int32)) p2)), .second, .val (.double (own_nq (own_fl p6 (2 : Int32)) p5)), .second, .val (.ref b149), .unset] [])) _
    refine XS.iload X182.here hx rfl (hb hby at_131) rfl ?_
    show Steps p.tables e below (T182.setTop (mkF m 133 #[.val (.int p1), .val (.int p2), .val (.int p3), .val (.int p4), .val (.int p5), .val (.int p6), .val (.int pe), .val (.int (own_fl p6 (1 : Int32))), .val (.int (own_fl p6 (2 : Int32))), .val (.int (own_fl p6 (4 : Int32))), .val (.double (own_nq (own_fl p6 (4 : Int32)) p2)), .second, .val (.double (own_nq (own_fl p6 (2 : Int32)) p5)), .second, .val (.ref b149), .unset] [(.int (own_fl p6 (1 : Int32)))])) _
    exact kt
  by_cases hc133_185 : (own_fl p6 (1 : Int32)) = (0 : Int32)
  · skip
    have z187 : n0 ≤ T182.heap.size := (Nat.le_trans z183 K182.1)
    obtain ⟨_, _, ⟨T186, L186, k186, n186⟩, -, X186, ⟨Lc186, hQ186, l186, y186, z186⟩, st186⟩ := Jvm.LawKit.callS X182 hx (y := (⟨"com/example/prequential/prequential/measure/ScoreMultisetCountPinLaw", "eq", "(II)I"⟩ : MethodName)) hown (mvT hZ (own_w hw 79 rfl)) (mvT hZ (own_w hw 80 rfl)) (mvT hZ (own_w hw 81 rfl)) (mvT hZ (own_w hw 82 rfl)) (by decide) (backOf (W := 0) (rm14 l Z a0 hw [] p1 p5 T182.heap n0 z187) hZ (own_w hw 82 rfl) (own_w hw 81 rfl) (by decide) (by decide)) (g := (mkF m 146 #[.val (.int p1), .val (.int p2), .val (.int p3), .val (.int p4), .val (.int p5), .val (.int p6), .val (.int pe), .val (.int (own_fl p6 (1 : Int32))), .val (.int (own_fl p6 (2 : Int32))), .val (.int (own_fl p6 (4 : Int32))), .val (.double (own_nq (own_fl p6 (4 : Int32)) p2)), .second, .val (.double (own_nq (own_fl p6 (2 : Int32)) p5)), .second, .val (.ref b149), .unset] [(.int p5), (.int p1)])) rfl (by rw [hml]; rfl) (argsL := [(.int p1), (.int p5)]) (rest := []) (lenOf pd_0 rfl) rfl (by show 2 * 0 + _ ≤ _; exact Nat.le_of_eq rfl) (hb hby at_146) (fun _ _ => ⟨rfl, rfl, (by decide : 7 + 0 ≤ _), (by decide : 106 + 0 ≤ _)⟩)
    dsimp only [Pt.U, Pt.locs, Pt.cells, Pt.slots] at X186 l186 y186 z186 st186 hQ186
    subst l186 y186 z186
    obtain ⟨rfl, Nq186, Heq186⟩ := hQ186
    have N186 := Fr.app N182 Nq186
    obtain ⟨_, _, ⟨T188, L188, k188, n188⟩, -, X188, ⟨Lc188, hQ188, l188, y188, z188⟩, st188⟩ := Jvm.LawKit.callS X186 hx (y := (⟨"com/example/prequential/prequential/measure/ScoreMultisetCountPinLaw", "eq", "(II)I"⟩ : MethodName)) hown (mvT hZ (own_w hw 79 rfl)) (mvT hZ (own_w hw 80 rfl)) (mvT hZ (own_w hw 81 rfl)) (mvT hZ (own_w hw 82 rfl)) (by decide) (backOf (W := 1) (rm14 l Z a0 hw [] p2 p5 T182.heap n0 z187) hZ (own_w hw 82 rfl) (own_w hw 81 rfl) (by decide) (by decide)) (g := (mkF m 152 #[.val (.int p1), .val (.int p2), .val (.int p3), .val (.int p4), .val (.int p5), .val (.int p6), .val (.int pe), .val (.int (own_fl p6 (1 : Int32))), .val (.int (own_fl p6 (2 : Int32))), .val (.int (own_fl p6 (4 : Int32))), .val (.double (own_nq (own_fl p6 (4 : Int32)) p2)), .second, .val (.double (own_nq (own_fl p6 (2 : Int32)) p5)), .second, .val (.ref b149), .unset] [(.int p5), (.int p2), (.int (own_eq p1 p5))])) rfl (by rw [hml]; rfl) (argsL := [(.int p2), (.int p5)]) (rest := [(.int (own_eq p1 p5))]) (lenOf pd_0 rfl) rfl (by show 2 * 0 + _ ≤ _; exact Nat.le_of_eq rfl) (hb hby at_152) (fun _ _ => ⟨rfl, Heq186, (by decide : 7 + 0 ≤ _), (by decide : 106 + 0 ≤ _)⟩)
    dsimp only [Pt.U, Pt.locs, Pt.cells, Pt.slots] at X188 l188 y188 z188 st188 hQ188
    subst l188 y188 z188
    obtain ⟨rfl, Nq188, Heq188⟩ := hQ188
    have N188 := Fr.app N186 Nq188
    obtain ⟨_, _, ⟨T189, L189, k189, n189⟩, -, X189, ⟨Lc189, hQ189, l189, y189, z189⟩, st189⟩ := Jvm.LawKit.callS X188 hx (y := (⟨"com/example/prequential/prequential/measure/ScoreMultisetCountPinLaw", "eq", "(II)I"⟩ : MethodName)) hown (mvT hZ (own_w hw 79 rfl)) (mvT hZ (own_w hw 80 rfl)) (mvT hZ (own_w hw 81 rfl)) (mvT hZ (own_w hw 82 rfl)) (by decide) (backOf (W := 1) (rm14 l Z a0 hw [] p3 p5 T182.heap n0 z187) hZ (own_w hw 82 rfl) (own_w hw 81 rfl) (by decide) (by decide)) (g := (mkF m 159 #[.val (.int p1), .val (.int p2), .val (.int p3), .val (.int p4), .val (.int p5), .val (.int p6), .val (.int pe), .val (.int (own_fl p6 (1 : Int32))), .val (.int (own_fl p6 (2 : Int32))), .val (.int (own_fl p6 (4 : Int32))), .val (.double (own_nq (own_fl p6 (4 : Int32)) p2)), .second, .val (.double (own_nq (own_fl p6 (2 : Int32)) p5)), .second, .val (.ref b149), .unset] [(.int p5), (.int p3), (.int ((own_eq p1 p5) + (own_eq p2 p5)))])) rfl (by rw [hml]; rfl) (argsL := [(.int p3), (.int p5)]) (rest := [(.int ((own_eq p1 p5) + (own_eq p2 p5)))]) (lenOf pd_0 rfl) rfl (by show 2 * 0 + _ ≤ _; exact Nat.le_of_eq rfl) (hb hby at_159) (fun _ _ => ⟨rfl, Heq188, (by decide : 7 + 0 ≤ _), (by decide : 106 + 0 ≤ _)⟩)
    dsimp only [Pt.U, Pt.locs, Pt.cells, Pt.slots] at X189 l189 y189 z189 st189 hQ189
    subst l189 y189 z189
    obtain ⟨rfl, Nq189, Heq189⟩ := hQ189
    have N189 := Fr.app N188 Nq189
    obtain ⟨_, _, ⟨T190, L190, k190, n190⟩, -, X190, ⟨Lc190, hQ190, l190, y190, z190⟩, st190⟩ := Jvm.LawKit.callS X189 hx (y := (⟨"com/example/prequential/prequential/measure/ScoreMultisetCountPinLaw", "eq", "(II)I"⟩ : MethodName)) hown (mvT hZ (own_w hw 79 rfl)) (mvT hZ (own_w hw 80 rfl)) (mvT hZ (own_w hw 81 rfl)) (mvT hZ (own_w hw 82 rfl)) (by decide) (backOf (W := 1) (rm14 l Z a0 hw [] p4 p5 T182.heap n0 z187) hZ (own_w hw 82 rfl) (own_w hw 81 rfl) (by decide) (by decide)) (g := (mkF m 166 #[.val (.int p1), .val (.int p2), .val (.int p3), .val (.int p4), .val (.int p5), .val (.int p6), .val (.int pe), .val (.int (own_fl p6 (1 : Int32))), .val (.int (own_fl p6 (2 : Int32))), .val (.int (own_fl p6 (4 : Int32))), .val (.double (own_nq (own_fl p6 (4 : Int32)) p2)), .second, .val (.double (own_nq (own_fl p6 (2 : Int32)) p5)), .second, .val (.ref b149), .unset] [(.int p5), (.int p4), (.int (((own_eq p1 p5) + (own_eq p2 p5)) + (own_eq p3 p5)))])) rfl (by rw [hml]; rfl) (argsL := [(.int p4), (.int p5)]) (rest := [(.int (((own_eq p1 p5) + (own_eq p2 p5)) + (own_eq p3 p5)))]) (lenOf pd_0 rfl) rfl (by show 2 * 0 + _ ≤ _; exact Nat.le_of_eq rfl) (hb hby at_166) (fun _ _ => ⟨rfl, Heq189, (by decide : 7 + 0 ≤ _), (by decide : 106 + 0 ≤ _)⟩)
    dsimp only [Pt.U, Pt.locs, Pt.cells, Pt.slots] at X190 l190 y190 z190 st190 hQ190
    subst l190 y190 z190
    obtain ⟨rfl, Nq190, Heq190⟩ := hQ190
    have N190 := Fr.app N189 Nq190
    obtain ⟨_, _, ⟨T191, L191, k191, n191⟩, -, X191, ⟨Lc191, hQ191, l191, y191, z191⟩, st191⟩ := Jvm.LawKit.callS X190 hx (y := (⟨"com/example/prequential/prequential/measure/ScoreMultisetCountPinLaw", "eq", "(II)I"⟩ : MethodName)) hown (mvT hZ (own_w hw 79 rfl)) (mvT hZ (own_w hw 80 rfl)) (mvT hZ (own_w hw 81 rfl)) (mvT hZ (own_w hw 82 rfl)) (by decide) (backOf (W := 1) (rm14 l Z a0 hw [] pe p5 T182.heap n0 z187) hZ (own_w hw 82 rfl) (own_w hw 81 rfl) (by decide) (by decide)) (g := (mkF m 174 #[.val (.int p1), .val (.int p2), .val (.int p3), .val (.int p4), .val (.int p5), .val (.int p6), .val (.int pe), .val (.int (own_fl p6 (1 : Int32))), .val (.int (own_fl p6 (2 : Int32))), .val (.int (own_fl p6 (4 : Int32))), .val (.double (own_nq (own_fl p6 (4 : Int32)) p2)), .second, .val (.double (own_nq (own_fl p6 (2 : Int32)) p5)), .second, .val (.ref b149), .unset] [(.int p5), (.int pe), (.int ((((own_eq p1 p5) + (own_eq p2 p5)) + (own_eq p3 p5)) + (own_eq p4 p5)))])) rfl (by rw [hml]; rfl) (argsL := [(.int pe), (.int p5)]) (rest := [(.int ((((own_eq p1 p5) + (own_eq p2 p5)) + (own_eq p3 p5)) + (own_eq p4 p5)))]) (lenOf pd_0 rfl) rfl (by show 2 * 0 + _ ≤ _; exact Nat.le_of_eq rfl) (hb hby at_174) (fun _ _ => ⟨rfl, Heq190, (by decide : 7 + 0 ≤ _), (by decide : 106 + 0 ≤ _)⟩)
    dsimp only [Pt.U, Pt.locs, Pt.cells, Pt.slots] at X191 l191 y191 z191 st191 hQ191
    subst l191 y191 z191
    obtain ⟨rfl, Nq191, Heq191⟩ := hQ191
    have N191 := Fr.app N190 Nq191
    have f192 := (f181.keep K182)
    obtain ⟨cq193, kq193, q193a, q193b, q193c⟩ := isOf hZ Heq191 f192
    obtain ⟨_, _, ⟨T193, L193, k193, n193⟩, -, X193, ⟨Lc193, hQ193, l193, y193, z193⟩, st193⟩ := X191.virtualBack hx (y := (⟨"com/example/prequential/prequential/measure/ScoreMultiset", "count", "(D)I"⟩ : MethodName)) (z := (⟨"com/example/prequential/prequential/measure/ScoreMultiset", "count", "(D)I"⟩ : MethodName)) hown (mvT hZ (own_w hw 83 rfl)) (mvT hZ (own_w hw 84 rfl)) (notFace_of_selects (args := #[]) (mvT hZ (own_w hw 86 rfl))) (mvT hZ (own_w hw 86 rfl)) (mvT hZ (own_w hw 85 rfl)) (by decide) (backOf (W := 0) (rm15 l Z a0 hw [] b149 (own_nq (own_fl p6 (2 : Int32)) p5) ak161 v2182 u2182 (0 : Int32) r2182 al161 kl161 lL2182 ar161 kr161 lR2182 ac161 kc161 lC2182 au161 ku161 lT2182 ah161 kh161 lH2182 kk161 kK2182 val cq T182.heap n0 z187 f192 R182_1 R182_2 R182_3 R182_4 R182_5 R182_6 R182_7 R182_8 R182_9 R182_10 R182_11 R182_12 R182_13 R182_14 R182_15 R182_16 R182_17 R182_18 R182_19 R182_20 R182_21 R182_22 hcq hy5q) hZ (own_w hw 87 rfl) (own_w hw 3 rfl) (by decide) (by decide)) q193a q193c (g := (mkF m 200 #[.val (.int p1), .val (.int p2), .val (.int p3), .val (.int p4), .val (.int p5), .val (.int p6), .val (.int pe), .val (.int (own_fl p6 (1 : Int32))), .val (.int (own_fl p6 (2 : Int32))), .val (.int (own_fl p6 (4 : Int32))), .val (.double (own_nq (own_fl p6 (4 : Int32)) p2)), .second, .val (.double (own_nq (own_fl p6 (2 : Int32)) p5)), .second, .val (.ref b149), .val (.int (((((own_eq p1 p5) + (own_eq p2 p5)) + (own_eq p3 p5)) + (own_eq p4 p5)) + (own_eq pe p5)))] [(.double (own_nq (own_fl p6 (2 : Int32)) p5)), (.ref b149)])) rfl (by rw [hml]; rfl) (Steps.refl _) (argsL := [(.double (own_nq (own_fl p6 (2 : Int32)) p5))]) (rest := []) (lenOf pd_3 rfl) rfl (by show 2 * 0 + _ ≤ _; exact Nat.le_of_eq rfl) (hb hby at_200) (fun _ _ => ⟨rfl, Heq191, (by decide : 7 + 0 ≤ _), (by decide : 106 + 0 ≤ _)⟩)
    dsimp only [Pt.U, Pt.locs, Pt.cells, Pt.slots] at X193 l193 y193 z193 st193 hQ193
    subst l193 y193 z193
    obtain ⟨rfl, Nq193, Heq193⟩ := hQ193
    have N193 := Fr.app N191 Nq193
    obtain ⟨fs, hr, hrun, hended, hW, hsame⟩ := X193.leave (v := some (.int (1 : Int32))) (fun h => by rw [Bd.returns] at h; cases h) (BodyLoose.notSynchronized Bd)
    refine ⟨_, _, pre184 _ ?_, hrun, hended, _, _, rfl, ?_, ⟨_, rfl⟩, hW, hsame.mono (by decide) (by decide)⟩
    · skip
      show Steps p.tables e below (T182.setTop (mkF m 133 #[.val (.int p1), .val (.int p2), .val (.int p3), .val (.int p4), .val (.int p5), .val (.int p6), .val (.int pe), .val (.int (own_fl p6 (1 : Int32))), .val (.int (own_fl p6 (2 : Int32))), .val (.int (own_fl p6 (4 : Int32))), .val (.double (own_nq (own_fl p6 (4 : Int32)) p2)), .second, .val (.double (own_nq (own_fl p6 (2 : Int32)) p5)), .second, .val (.ref b149), .unset] [(.int (own_fl p6 (1 : Int32)))])) _
      refine XS.ifYes X182.here hx rfl (pc0 := 133) (pc' := 143) rfl (hb hby at_133) rfl ((if0 _ _).trans (teq (hc133_185 : (own_fl p6 (1 : Int32)) = (0 : Int32))).1) (by decide) (by decide) ?_
      refine XS.iloadN X182.here hx rfl (hb hby at_143) rfl ?_
      refine XS.iload X182.here hx rfl (hb hby at_144) rfl ?_
      refine st186 _ ?_
      refine XS.iloadN X186.here hx rfl (hb hby at_149) rfl ?_
      refine XS.iload X186.here hx rfl (hb hby at_150) rfl ?_
      refine st188 _ ?_
      refine XS.iadd X188.here hx rfl (hb hby at_155) rfl ?_
      refine XS.iloadN X188.here hx rfl (hb hby at_156) rfl ?_
      refine XS.iload X188.here hx rfl (hb hby at_157) rfl ?_
      show Steps p.tables e below (T188.setTop (mkF m 159 #[.val (.int p1), .val (.int p2), .val (.int p3), .val (.int p4), .val (.int p5), .val (.int p6), .val (.int pe), .val (.int (own_fl p6 (1 : Int32))), .val (.int (own_fl p6 (2 : Int32))), .val (.int (own_fl p6 (4 : Int32))), .val (.double (own_nq (own_fl p6 (4 : Int32)) p2)), .second, .val (.double (own_nq (own_fl p6 (2 : Int32)) p5)), .second, .val (.ref b149), .unset] [(.int p5), (.int p3), (.int ((own_eq p1 p5) + (own_eq p2 p5)))])) _
      refine st189 _ ?_
      refine XS.iadd X189.here hx rfl (hb hby at_162) rfl ?_
      refine XS.iloadN X189.here hx rfl (hb hby at_163) rfl ?_
      refine XS.iload X189.here hx rfl (hb hby at_164) rfl ?_
      refine st190 _ ?_
      refine XS.iadd X190.here hx rfl (hb hby at_169) rfl ?_
      refine XS.iload X190.here hx rfl (hb hby at_170) rfl ?_
      refine XS.iload X190.here hx rfl (hb hby at_172) rfl ?_
      refine st191 _ ?_
      refine XS.iadd X191.here hx rfl (hb hby at_177) rfl ?_
      show Steps p.tables e below (T191.setTop (mkF m 178 #[.val (.int p1), .val (.int p2), .val (.int p3), .val (.int p4), .val (.int p5), .val (.int p6), .val (.int pe), .val (.int (own_fl p6 (1 : Int32))), .val (.int (own_fl p6 (2 : Int32))), .val (.int (own_fl p6 (4 : Int32))), .val (.double (own_nq (own_fl p6 (4 : Int32)) p2)), .second, .val (.double (own_nq (own_fl p6 (2 : Int32)) p5)), .second, .val (.ref b149), .unset] [(.int (((((own_eq p1 p5) + (own_eq p2 p5)) + (own_eq p3 p5)) + (own_eq p4 p5)) + (own_eq pe p5)))])) _
      refine XS.istore X191.here hx rfl (hb hby at_178) rfl (l' := #[.val (.int p1), .val (.int p2), .val (.int p3), .val (.int p4), .val (.int p5), .val (.int p6), .val (.int pe), .val (.int (own_fl p6 (1 : Int32))), .val (.int (own_fl p6 (2 : Int32))), .val (.int (own_fl p6 (4 : Int32))), .val (.double (own_nq (own_fl p6 (4 : Int32)) p2)), .second, .val (.double (own_nq (own_fl p6 (2 : Int32)) p5)), .second, .val (.ref b149), .val (.int (((((own_eq p1 p5) + (own_eq p2 p5)) + (own_eq p3 p5)) + (own_eq p4 p5)) + (own_eq pe p5)))]) rfl ?_
      refine XS.iload X191.here hx rfl (hb hby at_180) rfl ?_
      refine XS.ifYes X191.here hx rfl (pc0 := 182) (pc' := 196) rfl (hb hby at_182) rfl ((if0 _ _).trans (teq (hc133_185 : (own_fl p6 (1 : Int32)) = (0 : Int32))).1) (by decide) (by decide) ?_
      refine XS.aload X191.here hx rfl (hb hby at_196) rfl rfl ?_
      refine XS.dload X191.here hx rfl (hb hby at_198) rfl ?_
      show Steps p.tables e below (T191.setTop (mkF m 200 #[.val (.int p1), .val (.int p2), .val (.int p3), .val (.int p4), .val (.int p5), .val (.int p6), .val (.int pe), .val (.int (own_fl p6 (1 : Int32))), .val (.int (own_fl p6 (2 : Int32))), .val (.int (own_fl p6 (4 : Int32))), .val (.double (own_nq (own_fl p6 (4 : Int32)) p2)), .second, .val (.double (own_nq (own_fl p6 (2 : Int32)) p5)), .second, .val (.ref b149), .val (.int (((((own_eq p1 p5) + (own_eq p2 p5)) + (own_eq p3 p5)) + (own_eq p4 p5)) + (own_eq pe p5)))] [(.double (own_nq (own_fl p6 (2 : Int32)) p5)), (.ref b149)])) _
      refine st193.trans ?_
      show Steps p.tables e below (T193.setTop (mkF m 203 #[.val (.int p1), .val (.int p2), .val (.int p3), .val (.int p4), .val (.int p5), .val (.int p6), .val (.int pe), .val (.int (own_fl p6 (1 : Int32))), .val (.int (own_fl p6 (2 : Int32))), .val (.int (own_fl p6 (4 : Int32))), .val (.double (own_nq (own_fl p6 (4 : Int32)) p2)), .second, .val (.double (own_nq (own_fl p6 (2 : Int32)) p5)), .second, .val (.ref b149), .val (.int (((((own_eq p1 p5) + (own_eq p2 p5)) + (own_eq p3 p5)) + (own_eq p4 p5)) + (own_eq pe p5)))] [(.int (own_cn3 cq (lL2182, lR2182, lC2182, lT2182, lH2182, kK2182, u2182, (0 : Int32), r2182) v2182))])) _
      refine XS.iload X193.here hx rfl (hb hby at_203) rfl ?_
      refine XS.icmpNo X193.here hx rfl (hb hby at_205) rfl (teq (own_resA Eq5 hz1 : (own_cn3 cq (lL2182, lR2182, lC2182, lT2182, lH2182, kK2182, u2182, (0 : Int32), r2182) v2182) = (((((own_eq p1 p5) + (own_eq p2 p5)) + (own_eq p3 p5)) + (own_eq p4 p5)) + (own_eq pe p5)))).2 ?_
      refine XS.iconst X193.here hx rfl (hb hby at_208) ?_
      refine XS.goto X193.here hx rfl (pc0 := 209) (pc' := 213) rfl (hb hby at_209) (by decide) (by decide) ?_
      show Steps p.tables e below (T193.setTop (mkF m 213 #[.val (.int p1), .val (.int p2), .val (.int p3), .val (.int p4), .val (.int p5), .val (.int p6), .val (.int pe), .val (.int (own_fl p6 (1 : Int32))), .val (.int (own_fl p6 (2 : Int32))), .val (.int (own_fl p6 (4 : Int32))), .val (.double (own_nq (own_fl p6 (4 : Int32)) p2)), .second, .val (.double (own_nq (own_fl p6 (2 : Int32)) p5)), .second, .val (.ref b149), .val (.int (((((own_eq p1 p5) + (own_eq p2 p5)) + (own_eq p3 p5)) + (own_eq p4 p5)) + (own_eq pe p5)))] [(.int (1 : Int32))])) _
      exact retN X193 hx (t := .boolean) Bd.returns (by simp) (hb hby at_213) hr
    · show Q0 Z p1 p2 p3 p4 p5 p6 h0 n0 _ T193.heap _
      rw [Heq193]
      exact ⟨rfl, N193⟩
  · skip
    have f194 := (f181.keep K182)
    have z196 : n0 ≤ T182.heap.size := (Nat.le_trans z183 K182.1)
    obtain ⟨cq195, kq195, q195a, q195b, q195c⟩ := isOf hZ rfl f194
    obtain ⟨_, _, ⟨T195, L195, k195, n195⟩, -, X195, ⟨Lc195, hQ195, l195, y195, z195⟩, st195⟩ := X182.virtualBack hx (y := (⟨"com/example/prequential/prequential/measure/ScoreMultiset", "remove", "(D)V"⟩ : MethodName)) (z := (⟨"com/example/prequential/prequential/measure/ScoreMultiset", "remove", "(D)V"⟩ : MethodName)) hown (mvT hZ (own_w hw 70 rfl)) (mvT hZ (own_w hw 71 rfl)) (notFace_of_selects (args := #[]) (mvT hZ (own_w hw 73 rfl))) (mvT hZ (own_w hw 73 rfl)) (mvT hZ (own_w hw 72 rfl)) (by decide) (backOf (W := 0) (rm12 l Z a0 hw [] b149 (FP.l2d (p1).toInt64) ak161 v2182 u2182 r2182 al161 kl161 lL2182 ar161 kr161 lR2182 ac161 kc161 lC2182 au161 ku161 lT2182 ah161 kh161 lH2182 kk161 kK2182 val cc 0 T182.heap n0 z196 f194 R182_1 R182_2 R182_3 R182_4 R182_5 R182_6 R182_7 R182_8 R182_9 R182_10 R182_11 R182_12 R182_13 R182_14 R182_15 R182_16 g160 g164 g165 g166 g167 g168 g169 R161_23 R161_24 R161_25 R161_26 R161_27 R161_28 R182_17 R182_18 R182_19 R182_20 R182_21 R182_22 hy5w hcv (by decide) hv0) hZ (own_w hw 74 rfl) (own_w hw 3 rfl) (by decide) (by decide)) q195a q195c (g := (mkF m 140 #[.val (.int p1), .val (.int p2), .val (.int p3), .val (.int p4), .val (.int p5), .val (.int p6), .val (.int pe), .val (.int (own_fl p6 (1 : Int32))), .val (.int (own_fl p6 (2 : Int32))), .val (.int (own_fl p6 (4 : Int32))), .val (.double (own_nq (own_fl p6 (4 : Int32)) p2)), .second, .val (.double (own_nq (own_fl p6 (2 : Int32)) p5)), .second, .val (.ref b149), .unset] [(.double (FP.l2d (p1).toInt64)), (.ref b149)])) rfl (by rw [hml]; rfl) (Steps.refl _) (argsL := [(.double (FP.l2d (p1).toInt64))]) (rest := []) (lenOf pd_6 rfl) rfl (by show 2 * 0 + _ ≤ _; exact Nat.le_of_eq rfl) (hb hby at_140) (fun _ _ => ⟨rfl, rfl, (by decide : 7 + 0 ≤ _), (by decide : 106 + 0 ≤ _)⟩)
    dsimp only [Pt.U, Pt.locs, Pt.cells, Pt.slots] at X195 l195 y195 z195 st195 hQ195
    subst l195 y195 z195
    obtain ⟨lL2195, lR2195, lC2195, lT2195, lH2195, kK2195, u2195, f2195, r2195, v2195, rfl, Nq195, K195, R195_1, R195_2, R195_3, R195_4, R195_5, R195_6, R195_7, R195_8, R195_9, R195_10, R195_11, R195_12, R195_13, R195_14, R195_15, R195_16, R195_17, R195_18, R195_19, R195_20, R195_21, R195_22, R195_23⟩ := hQ195
    have N195 := Fr.app N182 Nq195
    have Eq6 : own_c6 cc = ((lL2195, lR2195, lC2195, lT2195, lH2195, kK2195, u2195, f2195, r2195), v2195) := own_nd Eq5 R195_23
    have hy6q := own_ok_q Eq6 hy2
    have z198 : n0 ≤ T195.heap.size := (Nat.le_trans z196 K195.1)
    obtain ⟨_, _, ⟨T197, L197, k197, n197⟩, -, X197, ⟨Lc197, hQ197, l197, y197, z197⟩, st197⟩ := Jvm.LawKit.callS X195 hx (y := (⟨"com/example/prequential/prequential/measure/ScoreMultisetCountPinLaw", "eq", "(II)I"⟩ : MethodName)) hown (mvT hZ (own_w hw 79 rfl)) (mvT hZ (own_w hw 80 rfl)) (mvT hZ (own_w hw 81 rfl)) (mvT hZ (own_w hw 82 rfl)) (by decide) (backOf (W := 0) (rm14 l Z a0 hw [] p1 p5 T195.heap n0 z198) hZ (own_w hw 82 rfl) (own_w hw 81 rfl) (by decide) (by decide)) (g := (mkF m 146 #[.val (.int p1), .val (.int p2), .val (.int p3), .val (.int p4), .val (.int p5), .val (.int p6), .val (.int pe), .val (.int (own_fl p6 (1 : Int32))), .val (.int (own_fl p6 (2 : Int32))), .val (.int (own_fl p6 (4 : Int32))), .val (.double (own_nq (own_fl p6 (4 : Int32)) p2)), .second, .val (.double (own_nq (own_fl p6 (2 : Int32)) p5)), .second, .val (.ref b149), .unset] [(.int p5), (.int p1)])) rfl (by rw [hml]; rfl) (argsL := [(.int p1), (.int p5)]) (rest := []) (lenOf pd_0 rfl) rfl (by show 2 * 0 + _ ≤ _; exact Nat.le_of_eq rfl) (hb hby at_146) (fun _ _ => ⟨rfl, rfl, (by decide : 7 + 0 ≤ _), (by decide : 106 + 0 ≤ _)⟩)
    dsimp only [Pt.U, Pt.locs, Pt.cells, Pt.slots] at X197 l197 y197 z197 st197 hQ197
    subst l197 y197 z197
    obtain ⟨rfl, Nq197, Heq197⟩ := hQ197
    have N197 := Fr.app N195 Nq197
    obtain ⟨_, _, ⟨T199, L199, k199, n199⟩, -, X199, ⟨Lc199, hQ199, l199, y199, z199⟩, st199⟩ := Jvm.LawKit.callS X197 hx (y := (⟨"com/example/prequential/prequential/measure/ScoreMultisetCountPinLaw", "eq", "(II)I"⟩ : MethodName)) hown (mvT hZ (own_w hw 79 rfl)) (mvT hZ (own_w hw 80 rfl)) (mvT hZ (own_w hw 81 rfl)) (mvT hZ (own_w hw 82 rfl)) (by decide) (backOf (W := 1) (rm14 l Z a0 hw [] p2 p5 T195.heap n0 z198) hZ (own_w hw 82 rfl) (own_w hw 81 rfl) (by decide) (by decide)) (g := (mkF m 152 #[.val (.int p1), .val (.int p2), .val (.int p3), .val (.int p4), .val (.int p5), .val (.int p6), .val (.int pe), .val (.int (own_fl p6 (1 : Int32))), .val (.int (own_fl p6 (2 : Int32))), .val (.int (own_fl p6 (4 : Int32))), .val (.double (own_nq (own_fl p6 (4 : Int32)) p2)), .second, .val (.double (own_nq (own_fl p6 (2 : Int32)) p5)), .second, .val (.ref b149), .unset] [(.int p5), (.int p2), (.int (own_eq p1 p5))])) rfl (by rw [hml]; rfl) (argsL := [(.int p2), (.int p5)]) (rest := [(.int (own_eq p1 p5))]) (lenOf pd_0 rfl) rfl (by show 2 * 0 + _ ≤ _; exact Nat.le_of_eq rfl) (hb hby at_152) (fun _ _ => ⟨rfl, Heq197, (by decide : 7 + 0 ≤ _), (by decide : 106 + 0 ≤ _)⟩)
    dsimp only [Pt.U, Pt.locs, Pt.cells, Pt.slots] at X199 l199 y199 z199 st199 hQ199
    subst l199 y199 z199
    obtain ⟨rfl, Nq199, Heq199⟩ := hQ199
    have N199 := Fr.app N197 Nq199
    obtain ⟨_, _, ⟨T200, L200, k200, n200⟩, -, X200, ⟨Lc200, hQ200, l200, y200, z200⟩, st200⟩ := Jvm.LawKit.callS X199 hx (y := (⟨"com/example/prequential/prequential/measure/ScoreMultisetCountPinLaw", "eq", "(II)I"⟩ : MethodName)) hown (mvT hZ (own_w hw 79 rfl)) (mvT hZ (own_w hw 80 rfl)) (mvT hZ (own_w hw 81 rfl)) (mvT hZ (own_w hw 82 rfl)) (by decide) (backOf (W := 1) (rm14 l Z a0 hw [] p3 p5 T195.heap n0 z198) hZ (own_w hw 82 rfl) (own_w hw 81 rfl) (by decide) (by decide)) (g := (mkF m 159 #[.val (.int p1), .val (.int p2), .val (.int p3), .val (.int p4), .val (.int p5), .val (.int p6), .val (.int pe), .val (.int (own_fl p6 (1 : Int32))), .val (.int (own_fl p6 (2 : Int32))), .val (.int (own_fl p6 (4 : Int32))), .val (.double (own_nq (own_fl p6 (4 : Int32)) p2)), .second, .val (.double (own_nq (own_fl p6 (2 : Int32)) p5)), .second, .val (.ref b149), .unset] [(.int p5), (.int p3), (.int ((own_eq p1 p5) + (own_eq p2 p5)))])) rfl (by rw [hml]; rfl) (argsL := [(.int p3), (.int p5)]) (rest := [(.int ((own_eq p1 p5) + (own_eq p2 p5)))]) (lenOf pd_0 rfl) rfl (by show 2 * 0 + _ ≤ _; exact Nat.le_of_eq rfl) (hb hby at_159) (fun _ _ => ⟨rfl, Heq199, (by decide : 7 + 0 ≤ _), (by decide : 106 + 0 ≤ _)⟩)
    dsimp only [Pt.U, Pt.locs, Pt.cells, Pt.slots] at X200 l200 y200 z200 st200 hQ200
    subst l200 y200 z200
    obtain ⟨rfl, Nq200, Heq200⟩ := hQ200
    have N200 := Fr.app N199 Nq200
    obtain ⟨_, _, ⟨T201, L201, k201, n201⟩, -, X201, ⟨Lc201, hQ201, l201, y201, z201⟩, st201⟩ := Jvm.LawKit.callS X200 hx (y := (⟨"com/example/prequential/prequential/measure/ScoreMultisetCountPinLaw", "eq", "(II)I"⟩ : MethodName)) hown (mvT hZ (own_w hw 79 rfl)) (mvT hZ (own_w hw 80 rfl)) (mvT hZ (own_w hw 81 rfl)) (mvT hZ (own_w hw 82 rfl)) (by decide) (backOf (W := 1) (rm14 l Z a0 hw [] p4 p5 T195.heap n0 z198) hZ (own_w hw 82 rfl) (own_w hw 81 rfl) (by decide) (by decide)) (g := (mkF m 166 #[.val (.int p1), .val (.int p2), .val (.int p3), .val (.int p4), .val (.int p5), .val (.int p6), .val (.int pe), .val (.int (own_fl p6 (1 : Int32))), .val (.int (own_fl p6 (2 : Int32))), .val (.int (own_fl p6 (4 : Int32))), .val (.double (own_nq (own_fl p6 (4 : Int32)) p2)), .second, .val (.double (own_nq (own_fl p6 (2 : Int32)) p5)), .second, .val (.ref b149), .unset] [(.int p5), (.int p4), (.int (((own_eq p1 p5) + (own_eq p2 p5)) + (own_eq p3 p5)))])) rfl (by rw [hml]; rfl) (argsL := [(.int p4), (.int p5)]) (rest := [(.int (((own_eq p1 p5) + (own_eq p2 p5)) + (own_eq p3 p5)))]) (lenOf pd_0 rfl) rfl (by show 2 * 0 + _ ≤ _; exact Nat.le_of_eq rfl) (hb hby at_166) (fun _ _ => ⟨rfl, Heq200, (by decide : 7 + 0 ≤ _), (by decide : 106 + 0 ≤ _)⟩)
    dsimp only [Pt.U, Pt.locs, Pt.cells, Pt.slots] at X201 l201 y201 z201 st201 hQ201
    subst l201 y201 z201
    obtain ⟨rfl, Nq201, Heq201⟩ := hQ201
    have N201 := Fr.app N200 Nq201
    obtain ⟨_, _, ⟨T202, L202, k202, n202⟩, -, X202, ⟨Lc202, hQ202, l202, y202, z202⟩, st202⟩ := Jvm.LawKit.callS X201 hx (y := (⟨"com/example/prequential/prequential/measure/ScoreMultisetCountPinLaw", "eq", "(II)I"⟩ : MethodName)) hown (mvT hZ (own_w hw 79 rfl)) (mvT hZ (own_w hw 80 rfl)) (mvT hZ (own_w hw 81 rfl)) (mvT hZ (own_w hw 82 rfl)) (by decide) (backOf (W := 1) (rm14 l Z a0 hw [] pe p5 T195.heap n0 z198) hZ (own_w hw 82 rfl) (own_w hw 81 rfl) (by decide) (by decide)) (g := (mkF m 174 #[.val (.int p1), .val (.int p2), .val (.int p3), .val (.int p4), .val (.int p5), .val (.int p6), .val (.int pe), .val (.int (own_fl p6 (1 : Int32))), .val (.int (own_fl p6 (2 : Int32))), .val (.int (own_fl p6 (4 : Int32))), .val (.double (own_nq (own_fl p6 (4 : Int32)) p2)), .second, .val (.double (own_nq (own_fl p6 (2 : Int32)) p5)), .second, .val (.ref b149), .unset] [(.int p5), (.int pe), (.int ((((own_eq p1 p5) + (own_eq p2 p5)) + (own_eq p3 p5)) + (own_eq p4 p5)))])) rfl (by rw [hml]; rfl) (argsL := [(.int pe), (.int p5)]) (rest := [(.int ((((own_eq p1 p5) + (own_eq p2 p5)) + (own_eq p3 p5)) + (own_eq p4 p5)))]) (lenOf pd_0 rfl) rfl (by show 2 * 0 + _ ≤ _; exact Nat.le_of_eq rfl) (hb hby at_174) (fun _ _ => ⟨rfl, Heq201, (by decide : 7 + 0 ≤ _), (by decide : 106 + 0 ≤ _)⟩)
    dsimp only [Pt.U, Pt.locs, Pt.cells, Pt.slots] at X202 l202 y202 z202 st202 hQ202
    subst l202 y202 z202
    obtain ⟨rfl, Nq202, Heq202⟩ := hQ202
    have N202 := Fr.app N201 Nq202
    obtain ⟨_, _, ⟨T203, L203, k203, n203⟩, -, X203, ⟨Lc203, hQ203, l203, y203, z203⟩, st203⟩ := Jvm.LawKit.callS X202 hx (y := (⟨"com/example/prequential/prequential/measure/ScoreMultisetCountPinLaw", "eq", "(II)I"⟩ : MethodName)) hown (mvT hZ (own_w hw 79 rfl)) (mvT hZ (own_w hw 80 rfl)) (mvT hZ (own_w hw 81 rfl)) (mvT hZ (own_w hw 82 rfl)) (by decide) (backOf (W := 1) (rm14 l Z a0 hw [] p1 p5 T195.heap n0 z198) hZ (own_w hw 82 rfl) (own_w hw 81 rfl) (by decide) (by decide)) (g := (mkF m 190 #[.val (.int p1), .val (.int p2), .val (.int p3), .val (.int p4), .val (.int p5), .val (.int p6), .val (.int pe), .val (.int (own_fl p6 (1 : Int32))), .val (.int (own_fl p6 (2 : Int32))), .val (.int (own_fl p6 (4 : Int32))), .val (.double (own_nq (own_fl p6 (4 : Int32)) p2)), .second, .val (.double (own_nq (own_fl p6 (2 : Int32)) p5)), .second, .val (.ref b149), .val (.int (((((own_eq p1 p5) + (own_eq p2 p5)) + (own_eq p3 p5)) + (own_eq p4 p5)) + (own_eq pe p5)))] [(.int p5), (.int p1), (.int (((((own_eq p1 p5) + (own_eq p2 p5)) + (own_eq p3 p5)) + (own_eq p4 p5)) + (own_eq pe p5)))])) rfl (by rw [hml]; rfl) (argsL := [(.int p1), (.int p5)]) (rest := [(.int (((((own_eq p1 p5) + (own_eq p2 p5)) + (own_eq p3 p5)) + (own_eq p4 p5)) + (own_eq pe p5)))]) (lenOf pd_0 rfl) rfl (by show 2 * 0 + _ ≤ _; exact Nat.le_of_eq rfl) (hb hby at_190) (fun _ _ => ⟨rfl, Heq202, (by decide : 7 + 0 ≤ _), (by decide : 106 + 0 ≤ _)⟩)
    dsimp only [Pt.U, Pt.locs, Pt.cells, Pt.slots] at X203 l203 y203 z203 st203 hQ203
    subst l203 y203 z203
    obtain ⟨rfl, Nq203, Heq203⟩ := hQ203
    have N203 := Fr.app N202 Nq203
    have f204 := (f194.keep K195)
    obtain ⟨cq205, kq205, q205a, q205b, q205c⟩ := isOf hZ Heq203 f204
    obtain ⟨_, _, ⟨T205, L205, k205, n205⟩, -, X205, ⟨Lc205, hQ205, l205, y205, z205⟩, st205⟩ := X203.virtualBack hx (y := (⟨"com/example/prequential/prequential/measure/ScoreMultiset", "count", "(D)I"⟩ : MethodName)) (z := (⟨"com/example/prequential/prequential/measure/ScoreMultiset", "count", "(D)I"⟩ : MethodName)) hown (mvT hZ (own_w hw 83 rfl)) (mvT hZ (own_w hw 84 rfl)) (notFace_of_selects (args := #[]) (mvT hZ (own_w hw 86 rfl))) (mvT hZ (own_w hw 86 rfl)) (mvT hZ (own_w hw 85 rfl)) (by decide) (backOf (W := 0) (rm15 l Z a0 hw [] b149 (own_nq (own_fl p6 (2 : Int32)) p5) ak161 v2195 u2195 f2195 r2195 al161 kl161 lL2195 ar161 kr161 lR2195 ac161 kc161 lC2195 au161 ku161 lT2195 ah161 kh161 lH2195 kk161 kK2195 val cq T195.heap n0 z198 f204 R195_1 R195_2 R195_3 R195_4 R195_5 R195_6 R195_7 R195_8 R195_9 R195_10 R195_11 R195_12 R195_13 R195_14 R195_15 R195_16 R195_17 R195_18 R195_19 R195_20 R195_21 R195_22 hcq hy6q) hZ (own_w hw 87 rfl) (own_w hw 3 rfl) (by decide) (by decide)) q205a q205c (g := (mkF m 200 #[.val (.int p1), .val (.int p2), .val (.int p3), .val (.int p4), .val (.int p5), .val (.int p6), .val (.int pe), .val (.int (own_fl p6 (1 : Int32))), .val (.int (own_fl p6 (2 : Int32))), .val (.int (own_fl p6 (4 : Int32))), .val (.double (own_nq (own_fl p6 (4 : Int32)) p2)), .second, .val (.double (own_nq (own_fl p6 (2 : Int32)) p5)), .second, .val (.ref b149), .val (.int ((((((own_eq p1 p5) + (own_eq p2 p5)) + (own_eq p3 p5)) + (own_eq p4 p5)) + (own_eq pe p5)) - (own_eq p1 p5)))] [(.double (own_nq (own_fl p6 (2 : Int32)) p5)), (.ref b149)])) rfl (by rw [hml]; rfl) (Steps.refl _) (argsL := [(.double (own_nq (own_fl p6 (2 : Int32)) p5))]) (rest := []) (lenOf pd_3 rfl) rfl (by show 2 * 0 + _ ≤ _; exact Nat.le_of_eq rfl) (hb hby at_200) (fun _ _ => ⟨rfl, Heq203, (by decide : 7 + 0 ≤ _), (by decide : 106 + 0 ≤ _)⟩)
    dsimp only [Pt.U, Pt.locs, Pt.cells, Pt.slots] at X205 l205 y205 z205 st205 hQ205
    subst l205 y205 z205
    obtain ⟨rfl, Nq205, Heq205⟩ := hQ205
    have N205 := Fr.app N203 Nq205
    obtain ⟨fs, hr, hrun, hended, hW, hsame⟩ := X205.leave (v := some (.int (1 : Int32))) (fun h => by rw [Bd.returns] at h; cases h) (BodyLoose.notSynchronized Bd)
    refine ⟨_, _, pre184 _ ?_, hrun, hended, _, _, rfl, ?_, ⟨_, rfl⟩, hW, hsame.mono (by decide) (by decide)⟩
    · skip
      show Steps p.tables e below (T182.setTop (mkF m 133 #[.val (.int p1), .val (.int p2), .val (.int p3), .val (.int p4), .val (.int p5), .val (.int p6), .val (.int pe), .val (.int (own_fl p6 (1 : Int32))), .val (.int (own_fl p6 (2 : Int32))), .val (.int (own_fl p6 (4 : Int32))), .val (.double (own_nq (own_fl p6 (4 : Int32)) p2)), .second, .val (.double (own_nq (own_fl p6 (2 : Int32)) p5)), .second, .val (.ref b149), .unset] [(.int (own_fl p6 (1 : Int32)))])) _
      refine XS.ifNo X182.here hx rfl (hb hby at_133) rfl ((if0 _ _).trans (feq (hc133_185 : ¬ ((own_fl p6 (1 : Int32)) = (0 : Int32)))).1) ?_
      refine XS.aload X182.here hx rfl (hb hby at_136) rfl rfl ?_
      refine XS.iloadN X182.here hx rfl (hb hby at_138) rfl ?_
      refine XS.i2dS X182.here hx rfl (hb hby at_139) rfl (i2d_w _) ?_
      show Steps p.tables e below (T182.setTop (mkF m 140 #[.val (.int p1), .val (.int p2), .val (.int p3), .val (.int p4), .val (.int p5), .val (.int p6), .val (.int pe), .val (.int (own_fl p6 (1 : Int32))), .val (.int (own_fl p6 (2 : Int32))), .val (.int (own_fl p6 (4 : Int32))), .val (.double (own_nq (own_fl p6 (4 : Int32)) p2)), .second, .val (.double (own_nq (own_fl p6 (2 : Int32)) p5)), .second, .val (.ref b149), .unset] [(.double (FP.l2d (p1).toInt64)), (.ref b149)])) _
      refine st195.trans ?_
      show Steps p.tables e below (T195.setTop (mkF m 143 #[.val (.int p1), .val (.int p2), .val (.int p3), .val (.int p4), .val (.int p5), .val (.int p6), .val (.int pe), .val (.int (own_fl p6 (1 : Int32))), .val (.int (own_fl p6 (2 : Int32))), .val (.int (own_fl p6 (4 : Int32))), .val (.double (own_nq (own_fl p6 (4 : Int32)) p2)), .second, .val (.double (own_nq (own_fl p6 (2 : Int32)) p5)), .second, .val (.ref b149), .unset] [])) _
      refine XS.iloadN X195.here hx rfl (hb hby at_143) rfl ?_
      refine XS.iload X195.here hx rfl (hb hby at_144) rfl ?_
      refine st197 _ ?_
      refine XS.iloadN X197.here hx rfl (hb hby at_149) rfl ?_
      refine XS.iload X197.here hx rfl (hb hby at_150) rfl ?_
      refine st199 _ ?_
      refine XS.iadd X199.here hx rfl (hb hby at_155) rfl ?_
      refine XS.iloadN X199.here hx rfl (hb hby at_156) rfl ?_
      refine XS.iload X199.here hx rfl (hb hby at_157) rfl ?_
      refine st200 _ ?_
      show Steps p.tables e below (T200.setTop (mkF m 162 #[.val (.int p1), .val (.int p2), .val (.int p3), .val (.int p4), .val (.int p5), .val (.int p6), .val (.int pe), .val (.int (own_fl p6 (1 : Int32))), .val (.int (own_fl p6 (2 : Int32))), .val (.int (own_fl p6 (4 : Int32))), .val (.double (own_nq (own_fl p6 (4 : Int32)) p2)), .second, .val (.double (own_nq (own_fl p6 (2 : Int32)) p5)), .second, .val (.ref b149), .unset] [(.int (own_eq p3 p5)), (.int ((own_eq p1 p5) + (own_eq p2 p5)))])) _
      refine XS.iadd X200.here hx rfl (hb hby at_162) rfl ?_
      refine XS.iloadN X200.here hx rfl (hb hby at_163) rfl ?_
      refine XS.iload X200.here hx rfl (hb hby at_164) rfl ?_
      refine st201 _ ?_
      refine XS.iadd X201.here hx rfl (hb hby at_169) rfl ?_
      refine XS.iload X201.here hx rfl (hb hby at_170) rfl ?_
      refine XS.iload X201.here hx rfl (hb hby at_172) rfl ?_
      refine st202 _ ?_
      refine XS.iadd X202.here hx rfl (hb hby at_177) rfl ?_
      refine XS.istore X202.here hx rfl (hb hby at_178) rfl (l' := #[.val (.int p1), .val (.int p2), .val (.int p3), .val (.int p4), .val (.int p5), .val (.int p6), .val (.int pe), .val (.int (own_fl p6 (1 : Int32))), .val (.int (own_fl p6 (2 : Int32))), .val (.int (own_fl p6 (4 : Int32))), .val (.double (own_nq (own_fl p6 (4 : Int32)) p2)), .second, .val (.double (own_nq (own_fl p6 (2 : Int32)) p5)), .second, .val (.ref b149), .val (.int (((((own_eq p1 p5) + (own_eq p2 p5)) + (own_eq p3 p5)) + (own_eq p4 p5)) + (own_eq pe p5)))]) rfl ?_
      show Steps p.tables e below (T202.setTop (mkF m 180 #[.val (.int p1), .val (.int p2), .val (.int p3), .val (.int p4), .val (.int p5), .val (.int p6), .val (.int pe), .val (.int (own_fl p6 (1 : Int32))), .val (.int (own_fl p6 (2 : Int32))), .val (.int (own_fl p6 (4 : Int32))), .val (.double (own_nq (own_fl p6 (4 : Int32)) p2)), .second, .val (.double (own_nq (own_fl p6 (2 : Int32)) p5)), .second, .val (.ref b149), .val (.int (((((own_eq p1 p5) + (own_eq p2 p5)) + (own_eq p3 p5)) + (own_eq p4 p5)) + (own_eq pe p5)))] [])) _
      refine XS.iload X202.here hx rfl (hb hby at_180) rfl ?_
      refine XS.ifNo X202.here hx rfl (hb hby at_182) rfl ((if0 _ _).trans (feq (hc133_185 : ¬ ((own_fl p6 (1 : Int32)) = (0 : Int32)))).1) ?_
      refine XS.iload X202.here hx rfl (hb hby at_185) rfl ?_
      refine XS.iloadN X202.here hx rfl (hb hby at_187) rfl ?_
      refine XS.iload X202.here hx rfl (hb hby at_188) rfl ?_
      refine st203 _ ?_
      refine XS.isub X203.here hx rfl (hb hby at_193) rfl ?_
      refine XS.istore X203.here hx rfl (hb hby at_194) rfl (l' := #[.val (.int p1), .val (.int p2), .val (.int p3), .val (.int p4), .val (.int p5), .val (.int p6), .val (.int pe), .val (.int (own_fl p6 (1 : Int32))), .val (.int (own_fl p6 (2 : Int32))), .val (.int (own_fl p6 (4 : Int32))), .val (.double (own_nq (own_fl p6 (4 : Int32)) p2)), .second, .val (.double (own_nq (own_fl p6 (2 : Int32)) p5)), .second, .val (.ref b149), .val (.int ((((((own_eq p1 p5) + (own_eq p2 p5)) + (own_eq p3 p5)) + (own_eq p4 p5)) + (own_eq pe p5)) - (own_eq p1 p5)))]) rfl ?_
      refine XS.aload X203.here hx rfl (hb hby at_196) rfl rfl ?_
      refine XS.dload X203.here hx rfl (hb hby at_198) rfl ?_
      show Steps p.tables e below (T203.setTop (mkF m 200 #[.val (.int p1), .val (.int p2), .val (.int p3), .val (.int p4), .val (.int p5), .val (.int p6), .val (.int pe), .val (.int (own_fl p6 (1 : Int32))), .val (.int (own_fl p6 (2 : Int32))), .val (.int (own_fl p6 (4 : Int32))), .val (.double (own_nq (own_fl p6 (4 : Int32)) p2)), .second, .val (.double (own_nq (own_fl p6 (2 : Int32)) p5)), .second, .val (.ref b149), .val (.int ((((((own_eq p1 p5) + (own_eq p2 p5)) + (own_eq p3 p5)) + (own_eq p4 p5)) + (own_eq pe p5)) - (own_eq p1 p5)))] [(.double (own_nq (own_fl p6 (2 : Int32)) p5)), (.ref b149)])) _
      refine st205.trans ?_
      show Steps p.tables e below (T205.setTop (mkF m 203 #[.val (.int p1), .val (.int p2), .val (.int p3), .val (.int p4), .val (.int p5), .val (.int p6), .val (.int pe), .val (.int (own_fl p6 (1 : Int32))), .val (.int (own_fl p6 (2 : Int32))), .val (.int (own_fl p6 (4 : Int32))), .val (.double (own_nq (own_fl p6 (4 : Int32)) p2)), .second, .val (.double (own_nq (own_fl p6 (2 : Int32)) p5)), .second, .val (.ref b149), .val (.int ((((((own_eq p1 p5) + (own_eq p2 p5)) + (own_eq p3 p5)) + (own_eq p4 p5)) + (own_eq pe p5)) - (own_eq p1 p5)))] [(.int (own_cn3 cq (lL2195, lR2195, lC2195, lT2195, lH2195, kK2195, u2195, f2195, r2195) v2195))])) _
      refine XS.iload X205.here hx rfl (hb hby at_203) rfl ?_
      refine XS.icmpNo X205.here hx rfl (hb hby at_205) rfl (teq (own_resB Eq6 hz2 : (own_cn3 cq (lL2195, lR2195, lC2195, lT2195, lH2195, kK2195, u2195, f2195, r2195) v2195) = ((((((own_eq p1 p5) + (own_eq p2 p5)) + (own_eq p3 p5)) + (own_eq p4 p5)) + (own_eq pe p5)) - (own_eq p1 p5)))).2 ?_
      refine XS.iconst X205.here hx rfl (hb hby at_208) ?_
      refine XS.goto X205.here hx rfl (pc0 := 209) (pc' := 213) rfl (hb hby at_209) (by decide) (by decide) ?_
      show Steps p.tables e below (T205.setTop (mkF m 213 #[.val (.int p1), .val (.int p2), .val (.int p3), .val (.int p4), .val (.int p5), .val (.int p6), .val (.int pe), .val (.int (own_fl p6 (1 : Int32))), .val (.int (own_fl p6 (2 : Int32))), .val (.int (own_fl p6 (4 : Int32))), .val (.double (own_nq (own_fl p6 (4 : Int32)) p2)), .second, .val (.double (own_nq (own_fl p6 (2 : Int32)) p5)), .second, .val (.ref b149), .val (.int ((((((own_eq p1 p5) + (own_eq p2 p5)) + (own_eq p3 p5)) + (own_eq p4 p5)) + (own_eq pe p5)) - (own_eq p1 p5)))] [(.int (1 : Int32))])) _
      exact retN X205 hx (t := .boolean) Bd.returns (by simp) (hb hby at_213) hr
    · show Q0 Z p1 p2 p3 p4 p5 p6 h0 n0 _ T205.heap _
      rw [Heq205]
      exact ⟨rfl, N205⟩
set_option maxRecDepth 65536 in
set_option maxHeartbeats 40000000 in
theorem comes_1 {Post : Tables → Env → Array Value → State → Outcome → State → Prop} (hpost : ∀ tb e args s v u, (limb_1_1.after args s (.returned v) u = true ∧ limb_1_2.after args s (.returned v) u = true ∧ True) → FrameEnd s (.returned v) u (Jvm.fieldLocs frame_1_writes args s ++ Jvm.arrayLocs frame_1_arrays args s ++ Jvm.staticLocs frame_1_statics s) 24 320 → Post tb e args s (.returned v) u) :
    ArmFor flags0 classFile x code maxLocals ret World_1 tables_1 room_1 Calls_1 rest_1 Pre_1 Post := by
  intro l hfl _ _ p e ha hc hk s m args below hf hA hF happ hP
  obtain ⟨hcalls, hrest, hpre⟩ := hP
  obtain ⟨-, -, -, hnamed, -, -, -, hat⟩ := (Spec.applies_iff hf).mp happ
  obtain ⟨hg, hn⟩ := and_e (Cond.before_iff.mp (show (Jvm.Cond.and given_1 narrow_1).before args s = true from hpre))
  obtain ⟨gc, ga0⟩ := and_e hg
  obtain ⟨gv0, ga1⟩ := and_e ga0
  obtain ⟨gv1, ga2⟩ := and_e ga1
  obtain ⟨gv2, ga3⟩ := and_e ga2
  obtain ⟨gv3, ga4⟩ := and_e ga3
  obtain ⟨gv4, ga5⟩ := and_e ga4
  obtain ⟨w0, w1, w2, w3, w4, w5, rfl⟩ : ∃ w0 w1 w2 w3 w4 w5 : Value, args = #[w0, w1, w2, w3, w4, w5] := by
    have hs : args.size = 6 := by simpa [Cond.value, given_1] using gc
    obtain ⟨L⟩ := args
    match L, hs with
    | [w0, w1, w2, w3, w4, w5], _ => exact ⟨w0, w1, w2, w3, w4, w5, rfl⟩
  have hw := fun d (hd : d ∈ tables_1) => atoms_spec (ws := Jvm.Cond.code x code maxLocals ret :: tables_1) hat d (List.mem_cons_of_mem _ hd)
  have hfit : Fit s := fun {y c} hc i hi => by
    obtain ⟨ha, rfl⟩ := Array.getElem?_eq_some_iff.mp hc
    have q := List.all_eq_true.mp ((Array.all_eq_true_iff_forall_mem.mp hF) _ (Array.getElem_mem ha)) i (List.mem_range.mpr hi)
    simpa [Array.getElem?_eq_getElem hi] using q
  obtain ⟨i0, ei0⟩ := is_v gv0
  obtain rfl : w0 = (.int i0) := Option.some.inj ei0
  obtain ⟨i1, ei1⟩ := is_v gv1
  obtain rfl : w1 = (.int i1) := Option.some.inj ei1
  obtain ⟨i2, ei2⟩ := is_v gv2
  obtain rfl : w2 = (.int i2) := Option.some.inj ei2
  obtain ⟨i3, ei3⟩ := is_v gv3
  obtain rfl : w3 = (.int i3) := Option.some.inj ei3
  obtain ⟨i4, ei4⟩ := is_v gv4
  obtain rfl : w4 = (.int i4) := Option.some.inj ei4
  obtain ⟨i5, ei5⟩ := is_v ga5
  obtain rfl : w5 = (.int i5) := Option.some.inj ei5
  obtain ⟨n, o, h1, h2, h3, _, L, rfl, ⟨rfl, N⟩, hq⟩ := rm0 l s _ hw tables_1 i0 i1 i2 i3 i4 i5 s.heap s.heap.size (Nat.le_refl _)  p e ha hc hk s m _ below hf ((Spec.applies_iff_loose hf).mp happ).1 ⟨rfl, State.Warmed39.refl s, rfl⟩ trivial
  refine ⟨n, _, h1, h2, h3, hpost _ _ _ _ _ _ ⟨Cond.after_iff.mpr rfl, Cond.after_iff.mpr (eq_i res_at (Term.int_eval (1)) rfl), trivial⟩ ⟨hq.1, hq.2.1, (hq.2.2.sift fun y hy => Or.inr (N y hy)).mono (by decide) (by decide)⟩⟩
theorem main_1_1 : Claimed_1_1 := comes_1 fun _ _ _ _ _ _ h hF => ⟨h.1, hF⟩
theorem main_1_2 : Claimed_1_2 := comes_1 fun _ _ _ _ _ _ h hF => ⟨h.2.1, hF⟩
end Jvm.Pilot.@@N@@
namespace Jvm.Pilot.@@N@@
open Jvm Jvm.ClassFile Sem Op Lib Jvm.Free Jvm.Stand Jvm.Pilot.@@N@@.Jvm.D
/-! MADE BY PROGRAM (witnessworld.py) out of the Statement's table words and the real class files: 10 classes; the members and pool entries that the words name. The judged class is class 1, her method 2. -/
namespace start1
open Jvm.ClassFile
def u (s : String) : CpInfo := .utf8 (stringToUtf16 s)
/-- a pool by its gaps: so many unusable entries, then the entry; so many at the end -/
def gap : Nat → List CpInfo → List CpInfo
  | 0, r => r
  | n + 1, r => .unusable :: gap n r
def poolList (es : List (Nat × CpInfo)) (last : Nat) : List CpInfo := es.foldr (fun e r => gap e.1 (e.2 :: r)) (gap last [])
def pool (es : List (Nat × CpInfo)) (last : Nat) : Array CpInfo := ⟨poolList es last⟩
def fileOf (pool : Array CpInfo) (this : Nat) (attrs : Array Attribute := #[]) (ms : Array MethodInfo := #[]) (fl : Nat := 33) (sup : Nat := 0) (ifs : Array Nat := #[]) (fds : Array FieldInfo := #[]) : ClassFile where
  minorVersion := 0
  majorVersion := 65
  constantPool := pool
  accessFlags := fl
  thisClass := this
  superClass := sup
  interfaces := ifs
  fields := fds
  methods := ms
  attributes := attrs
def plain (name : String) (sup : Option ClassId) : Class where
  name := name
  kind := .ordinary
  loader := none
  accessFlags := 33
  super := sup
  interfaces := #[]
  cf := none
  fields := #[]
  methods := #[]
  instanceTypes := #[]
  staticTypes := #[]
  resolved := #[]
  callSites := []
  init := .initialized
  statics := none
  mirror := none

def pool0 : Array CpInfo := pool [(5, u "<init>"), (0, u "()V"), (1, .class_ 10), (1, u "java/lang/Object")] 113

def k0c0 : Code := { maxStack := 0, maxLocals := 1, code := object_method_1_code, exceptionTable := #[], attributes := #[] }
def k0m0 : Method := { name := "<init>", desc := "()V", sig := { parameters := [], returnType := none }, accessFlags := 1, code := some k0c0 }
/-- java/lang/Object -/
def k0 : Class := { plain "java/lang/Object" none with
  accessFlags := 33
  interfaces := #[]
  cf := some (fileOf pool0 8 #[] #[{ accessFlags := 1, nameIndex := 5, descriptorIndex := 6, attributes := #[] }] 33 0 #[] #[])
  fields := #[]
  methods := #[k0m0]
  instanceTypes := #[]
  staticTypes := #[]
  resolved := Array.replicate 124 none
  statics := none }

def pool1 : Array CpInfo := pool [(2, .class_ 4), (0, .nameAndType 5 6), (0, u "java/lang/Object"), (0, u "<init>"), (0, u "()V"), (0, .double 9223372036854775808), (1, .class_ 10), (0, u "com/example/prequential/prequential/measure/ScoreMultiset"), (0, .methodref 9 3), (0, .methodref 9 13), (0, .nameAndType 14 15), (0, u "add"), (0, u "(D)V"), (0, .methodref 9 17), (0, .nameAndType 18 15), (0, u "remove"), (0, .methodref 20 21), (0, .class_ 22), (0, .nameAndType 23 24), (0, u "com/example/prequential/prequential/measure/ScoreMultisetCountPinLaw"), (0, u "eq"), (0, u "(II)I"), (0, .methodref 9 26), (0, .nameAndType 27 28), (0, u "count"), (0, u "(D)I"), (3, u "law"), (0, u "(IIIIII)Z")] 2

def k1m0 : Method := { name := "<init>", desc := "()V", sig := { parameters := [], returnType := none }, accessFlags := 1, code := none }
def k1c1 : Code := { maxStack := 2, maxLocals := 2, code := method_2_code, exceptionTable := #[], attributes := #[] }
def k1m1 : Method := { name := "eq", desc := "(II)I", sig := { parameters := [.int, .int], returnType := some .int }, accessFlags := 10, code := some k1c1 }
def k1c2 : Code := { maxStack := 3, maxLocals := 16, code := code, exceptionTable := #[], attributes := #[] }
def k1m2 : Method := { name := "law", desc := "(IIIIII)Z", sig := { parameters := [.int, .int, .int, .int, .int, .int], returnType := some .boolean }, accessFlags := 9, code := some k1c2 }
/-- com/example/prequential/prequential/measure/ScoreMultisetCountPinLaw -/
def k1 : Class := { plain "com/example/prequential/prequential/measure/ScoreMultisetCountPinLaw" (some 0) with
  accessFlags := 49
  interfaces := #[]
  cf := some (fileOf pool1 20 #[] #[{ accessFlags := 1, nameIndex := 5, descriptorIndex := 6, attributes := #[] }, { accessFlags := 10, nameIndex := 23, descriptorIndex := 24, attributes := #[] }, { accessFlags := 9, nameIndex := 32, descriptorIndex := 33, attributes := #[] }] 49 2 #[] #[])
  fields := #[]
  methods := #[k1m0, k1m1, k1m2]
  instanceTypes := #[]
  staticTypes := #[]
  resolved := Array.replicate 36 none
  statics := none }

def pool2 : Array CpInfo := pool [(1, .methodref 2 3), (0, .class_ 4), (0, .nameAndType 5 6), (0, u "java/lang/Object"), (0, u "<init>"), (0, u "()V"), (0, .class_ 8), (0, u "com/example/prequential/prequential/measure/ScoreMultiset"), (0, .fieldref 7 10), (0, .nameAndType 11 12), (0, u "key"), (0, u "[D"), (0, .fieldref 7 14), (0, .nameAndType 15 16), (0, u "left"), (0, u "[I"), (0, .fieldref 7 18), (0, .nameAndType 19 16), (0, u "right"), (0, .fieldref 7 21), (0, .nameAndType 22 16), (0, u "count"), (0, .fieldref 7 24), (0, .nameAndType 25 16), (0, u "total"), (0, .fieldref 7 27), (0, .nameAndType 28 29), (0, u "height"), (0, u "[B"), (0, .fieldref 7 31), (0, .nameAndType 32 33), (0, u "root"), (0, u "I"), (0, .fieldref 7 35), (0, .nameAndType 36 33), (0, u "unused"), (0, .fieldref 7 38), (0, .nameAndType 39 33), (0, u "freed"), (0, .fieldref 7 41), (0, .nameAndType 42 43), (0, u "reshaped"), (0, u "Z"), (0, .methodref 7 45), (0, .nameAndType 46 47), (0, u "insert"), (0, u "(ID)I"), (0, .methodref 7 49), (0, .nameAndType 50 47), (0, u "delete"), (7, u "(D)I"), (4, .class_ 64), (0, u "com/example/prequential/prequential/measure/ScoreMultiset$Descent"), (3, .methodref 7 69), (0, .nameAndType 70 58), (0, u "newNode"), (0, .methodref 7 72), (0, .nameAndType 73 74), (0, u "settle"), (0, u "(II)I"), (9, .methodref 7 85), (0, .nameAndType 86 87), (0, u "unlink"), (0, u "(I)I"), (0, .methodref 7 89), (0, .nameAndType 90 91), (0, u "free"), (0, u "(I)V"), (0, .methodref 7 93), (0, .nameAndType 94 74), (0, u "unlinkLowest"), (0, .methodref 7 96), (0, .nameAndType 97 87), (0, u "balance"), (0, .methodref 7 99), (0, .nameAndType 100 87), (0, u "rotateLeft"), (0, .methodref 7 102), (0, .nameAndType 103 87), (0, u "rotateRight"), (0, .methodref 7 105), (0, .nameAndType 106 91), (0, u "update"), (0, .methodref 108 109), (0, .class_ 110), (0, .nameAndType 111 74), (0, u "java/lang/Math"), (0, u "max"), (15, u "EMPTY"), (2, u "INITIAL_CAPACITY"), (1, u "MAX_HEIGHT"), (3, u "add"), (0, u "(D)V"), (0, u "remove")] 26

def k2c0 : Code := { maxStack := 2, maxLocals := 1, code := prog_108_method_1_code, exceptionTable := #[], attributes := #[] }
def k2m0 : Method := { name := "<init>", desc := "()V", sig := { parameters := [], returnType := none }, accessFlags := 0, code := some k2c0 }
def k2c1 : Code := { maxStack := 5, maxLocals := 3, code := prog_108_method_3_code, exceptionTable := #[], attributes := #[] }
def k2m1 : Method := { name := "add", desc := "(D)V", sig := { parameters := [.double], returnType := none }, accessFlags := 0, code := some k2c1 }
def k2c2 : Code := { maxStack := 5, maxLocals := 3, code := prog_108_method_4_code, exceptionTable := #[], attributes := #[] }
def k2m2 : Method := { name := "remove", desc := "(D)V", sig := { parameters := [.double], returnType := none }, accessFlags := 0, code := some k2c2 }
def k2c3 : Code := { maxStack := 4, maxLocals := 4, code := prog_108_method_7_code, exceptionTable := #[], attributes := #[] }
def k2m3 : Method := { name := "count", desc := "(D)I", sig := { parameters := [.double], returnType := some .int }, accessFlags := 0, code := some k2c3 }
def k2c4 : Code := { maxStack := 4, maxLocals := 5, code := prog_108_method_11_code, exceptionTable := #[], attributes := #[] }
def k2m4 : Method := { name := "insert", desc := "(ID)I", sig := { parameters := [.int, .double], returnType := some .int }, accessFlags := 2, code := some k2c4 }
def k2c5 : Code := { maxStack := 6, maxLocals := 4, code := prog_108_method_12_code, exceptionTable := #[], attributes := #[] }
def k2m5 : Method := { name := "delete", desc := "(ID)I", sig := { parameters := [.int, .double], returnType := some .int }, accessFlags := 2, code := some k2c5 }
def k2c6 : Code := { maxStack := 6, maxLocals := 3, code := prog_108_method_13_code, exceptionTable := #[], attributes := #[] }
def k2m6 : Method := { name := "unlink", desc := "(I)I", sig := { parameters := [.int], returnType := some .int }, accessFlags := 2, code := some k2c6 }
def k2c7 : Code := { maxStack := 5, maxLocals := 4, code := prog_108_method_14_code, exceptionTable := #[], attributes := #[] }
def k2m7 : Method := { name := "unlinkLowest", desc := "(II)I", sig := { parameters := [.int, .int], returnType := some .int }, accessFlags := 2, code := some k2c7 }
def k2c8 : Code := { maxStack := 4, maxLocals := 5, code := prog_108_method_15_code, exceptionTable := #[], attributes := #[] }
def k2m8 : Method := { name := "settle", desc := "(II)I", sig := { parameters := [.int, .int], returnType := some .int }, accessFlags := 2, code := some k2c8 }
def k2c9 : Code := { maxStack := 4, maxLocals := 4, code := prog_108_method_16_code, exceptionTable := #[], attributes := #[] }
def k2m9 : Method := { name := "balance", desc := "(I)I", sig := { parameters := [.int], returnType := some .int }, accessFlags := 2, code := some k2c9 }
def k2c10 : Code := { maxStack := 4, maxLocals := 3, code := prog_108_method_17_code, exceptionTable := #[], attributes := #[] }
def k2m10 : Method := { name := "rotateRight", desc := "(I)I", sig := { parameters := [.int], returnType := some .int }, accessFlags := 2, code := some k2c10 }
def k2c11 : Code := { maxStack := 4, maxLocals := 3, code := prog_108_method_18_code, exceptionTable := #[], attributes := #[] }
def k2m11 : Method := { name := "rotateLeft", desc := "(I)I", sig := { parameters := [.int], returnType := some .int }, accessFlags := 2, code := some k2c11 }
def k2c12 : Code := { maxStack := 6, maxLocals := 2, code := prog_108_method_19_code, exceptionTable := #[], attributes := #[] }
def k2m12 : Method := { name := "update", desc := "(I)V", sig := { parameters := [.int], returnType := none }, accessFlags := 2, code := some k2c12 }
def k2c13 : Code := { maxStack := 4, maxLocals := 4, code := prog_108_method_20_code, exceptionTable := #[], attributes := #[] }
def k2m13 : Method := { name := "newNode", desc := "(D)I", sig := { parameters := [.double], returnType := some .int }, accessFlags := 2, code := some k2c13 }
def k2c14 : Code := { maxStack := 3, maxLocals := 2, code := prog_108_method_21_code, exceptionTable := #[], attributes := #[] }
def k2m14 : Method := { name := "free", desc := "(I)V", sig := { parameters := [.int], returnType := none }, accessFlags := 2, code := some k2c14 }
/-- com/example/prequential/prequential/measure/ScoreMultiset -/
def k2 : Class := { plain "com/example/prequential/prequential/measure/ScoreMultiset" (some 0) with
  accessFlags := 48
  interfaces := #[]
  cf := some (fileOf pool2 7 #[.nestMembers #[63]] #[{ accessFlags := 0, nameIndex := 5, descriptorIndex := 6, attributes := #[] }, { accessFlags := 0, nameIndex := 136, descriptorIndex := 137, attributes := #[] }, { accessFlags := 0, nameIndex := 138, descriptorIndex := 137, attributes := #[] }, { accessFlags := 0, nameIndex := 22, descriptorIndex := 58, attributes := #[] }, { accessFlags := 2, nameIndex := 46, descriptorIndex := 47, attributes := #[] }, { accessFlags := 2, nameIndex := 50, descriptorIndex := 47, attributes := #[] }, { accessFlags := 2, nameIndex := 86, descriptorIndex := 87, attributes := #[] }, { accessFlags := 2, nameIndex := 94, descriptorIndex := 74, attributes := #[] }, { accessFlags := 2, nameIndex := 73, descriptorIndex := 74, attributes := #[] }, { accessFlags := 2, nameIndex := 97, descriptorIndex := 87, attributes := #[] }, { accessFlags := 2, nameIndex := 103, descriptorIndex := 87, attributes := #[] }, { accessFlags := 2, nameIndex := 100, descriptorIndex := 87, attributes := #[] }, { accessFlags := 2, nameIndex := 106, descriptorIndex := 91, attributes := #[] }, { accessFlags := 2, nameIndex := 70, descriptorIndex := 58, attributes := #[] }, { accessFlags := 2, nameIndex := 90, descriptorIndex := 91, attributes := #[] }] 48 2 #[] #[{ accessFlags := 26, nameIndex := 127, descriptorIndex := 33, attributes := #[] }, { accessFlags := 26, nameIndex := 130, descriptorIndex := 33, attributes := #[] }, { accessFlags := 26, nameIndex := 132, descriptorIndex := 33, attributes := #[] }, { accessFlags := 2, nameIndex := 11, descriptorIndex := 12, attributes := #[] }, { accessFlags := 2, nameIndex := 15, descriptorIndex := 16, attributes := #[] }, { accessFlags := 2, nameIndex := 19, descriptorIndex := 16, attributes := #[] }, { accessFlags := 2, nameIndex := 22, descriptorIndex := 16, attributes := #[] }, { accessFlags := 2, nameIndex := 25, descriptorIndex := 16, attributes := #[] }, { accessFlags := 2, nameIndex := 28, descriptorIndex := 29, attributes := #[] }, { accessFlags := 2, nameIndex := 32, descriptorIndex := 33, attributes := #[] }, { accessFlags := 2, nameIndex := 36, descriptorIndex := 33, attributes := #[] }, { accessFlags := 2, nameIndex := 39, descriptorIndex := 33, attributes := #[] }, { accessFlags := 2, nameIndex := 42, descriptorIndex := 43, attributes := #[] }])
  fields := #[{ name := "EMPTY", type := .int, accessFlags := 26, slot := 0, constantValue := 0 }, { name := "INITIAL_CAPACITY", type := .int, accessFlags := 26, slot := 1, constantValue := 0 }, { name := "MAX_HEIGHT", type := .int, accessFlags := 26, slot := 2, constantValue := 0 }, { name := "key", type := (.array .double), accessFlags := 2, slot := 0, constantValue := 0 }, { name := "left", type := (.array .int), accessFlags := 2, slot := 1, constantValue := 0 }, { name := "right", type := (.array .int), accessFlags := 2, slot := 2, constantValue := 0 }, { name := "count", type := (.array .int), accessFlags := 2, slot := 3, constantValue := 0 }, { name := "total", type := (.array .int), accessFlags := 2, slot := 4, constantValue := 0 }, { name := "height", type := (.array .byte), accessFlags := 2, slot := 5, constantValue := 0 }, { name := "root", type := .int, accessFlags := 2, slot := 6, constantValue := 0 }, { name := "unused", type := .int, accessFlags := 2, slot := 7, constantValue := 0 }, { name := "freed", type := .int, accessFlags := 2, slot := 8, constantValue := 0 }, { name := "reshaped", type := .boolean, accessFlags := 2, slot := 9, constantValue := 0 }]
  methods := #[k2m0, k2m1, k2m2, k2m3, k2m4, k2m5, k2m6, k2m7, k2m8, k2m9, k2m10, k2m11, k2m12, k2m13, k2m14]
  instanceTypes := #[(.array .double), (.array .int), (.array .int), (.array .int), (.array .int), (.array .byte), .int, .int, .int, .boolean]
  staticTypes := #[.int, .int, .int]
  resolved := Array.replicate 165 none
  statics := none }

def pool3 : Array CpInfo := pool [(1, .class_ 2), (0, u "java/lang/Math"), (1, .class_ 6), (1, u "java/lang/Object"), (0, u "<init>"), (0, u "()V"), (89, .class_ 100), (1, u "java/lang/Math$RandomNumberGeneratorHolder"), (71, u "negativeZeroFloatBits"), (0, u "J"), (2, u "negativeZeroDoubleBits"), (21, u "max"), (46, u "$assertionsDisabled"), (0, u "Z"), (88, u "(II)I"), (2, u "twoToTheDoubleScaleDown"), (0, u "D"), (4, u "twoToTheDoubleScaleUp"), (9, u "E"), (3, u "PI"), (2, u "TAU"), (2, u "DEGREES_TO_RADIANS"), (0, u "RADIANS_TO_DEGREES")] 94

def k3m0 : Method := { name := "<init>", desc := "()V", sig := { parameters := [], returnType := none }, accessFlags := 2, code := none }
def k3c1 : Code := { maxStack := 2, maxLocals := 2, code := jdk_29_method_65_code, exceptionTable := #[], attributes := #[] }
def k3m1 : Method := { name := "max", desc := "(II)I", sig := { parameters := [.int, .int], returnType := some .int }, accessFlags := 9, code := some k3c1 }
/-- java/lang/Math -/
def k3 : Class := { plain "java/lang/Math" (some 0) with
  accessFlags := 49
  interfaces := #[]
  cf := some (fileOf pool3 1 #[.nestMembers #[98]] #[{ accessFlags := 2, nameIndex := 7, descriptorIndex := 8, attributes := #[] }, { accessFlags := 9, nameIndex := 198, descriptorIndex := 335, attributes := #[] }] 49 4 #[] #[{ accessFlags := 25, nameIndex := 354, descriptorIndex := 339, attributes := #[] }, { accessFlags := 25, nameIndex := 358, descriptorIndex := 339, attributes := #[] }, { accessFlags := 25, nameIndex := 361, descriptorIndex := 339, attributes := #[] }, { accessFlags := 26, nameIndex := 364, descriptorIndex := 339, attributes := #[] }, { accessFlags := 26, nameIndex := 365, descriptorIndex := 339, attributes := #[] }, { accessFlags := 26, nameIndex := 172, descriptorIndex := 173, attributes := #[] }, { accessFlags := 26, nameIndex := 176, descriptorIndex := 173, attributes := #[] }, { accessFlags := 8, nameIndex := 344, descriptorIndex := 339, attributes := #[] }, { accessFlags := 8, nameIndex := 338, descriptorIndex := 339, attributes := #[] }, { accessFlags := 4120, nameIndex := 245, descriptorIndex := 246, attributes := #[] }])
  fields := #[{ name := "E", type := .double, accessFlags := 25, slot := 0, constantValue := 0 }, { name := "PI", type := .double, accessFlags := 25, slot := 1, constantValue := 0 }, { name := "TAU", type := .double, accessFlags := 25, slot := 2, constantValue := 0 }, { name := "DEGREES_TO_RADIANS", type := .double, accessFlags := 26, slot := 3, constantValue := 0 }, { name := "RADIANS_TO_DEGREES", type := .double, accessFlags := 26, slot := 4, constantValue := 0 }, { name := "negativeZeroFloatBits", type := .long, accessFlags := 26, slot := 5, constantValue := 0 }, { name := "negativeZeroDoubleBits", type := .long, accessFlags := 26, slot := 6, constantValue := 0 }, { name := "twoToTheDoubleScaleUp", type := .double, accessFlags := 8, slot := 7, constantValue := 0 }, { name := "twoToTheDoubleScaleDown", type := .double, accessFlags := 8, slot := 8, constantValue := 0 }, { name := "$assertionsDisabled", type := .boolean, accessFlags := 4120, slot := 9, constantValue := 0 }]
  methods := #[k3m0, k3m1]
  instanceTypes := #[]
  staticTypes := #[.double, .double, .double, .double, .double, .long, .long, .double, .double, .boolean]
  resolved := Array.replicate 460 none
  statics := none }

def pool4 : Array CpInfo := pool [(1, u "java/lang/Cloneable"), (0, .class_ 1), (0, u "java/lang/Object"), (0, .class_ 3)] 3

/-- java/lang/Cloneable -/
def k4 : Class := { plain "java/lang/Cloneable" (some 0) with
  accessFlags := 1537
  interfaces := #[]
  cf := some (fileOf pool4 2 #[] #[] 1537 4 #[] #[])
  fields := #[]
  methods := #[]
  instanceTypes := #[]
  staticTypes := #[]
  resolved := Array.replicate 8 none
  statics := none }

def pool5 : Array CpInfo := pool [(1, u "java/io/Serializable"), (0, .class_ 1), (0, u "java/lang/Object"), (0, .class_ 3)] 3

/-- java/io/Serializable -/
def k5 : Class := { plain "java/io/Serializable" (some 0) with
  accessFlags := 1537
  interfaces := #[]
  cf := some (fileOf pool5 2 #[] #[] 1537 4 #[] #[])
  fields := #[]
  methods := #[]
  instanceTypes := #[]
  staticTypes := #[]
  resolved := Array.replicate 8 none
  statics := none }

/-- the primitive byte -/
def k6 : Class := { plain "byte" none with kind := .primitive 'B', accessFlags := 0x411 }
/-- [B -/
def k7 : Class := { plain "[B" (some 0) with kind := .array 6 .byte, interfaces := #[4, 5], accessFlags := 1041 }

/-- the primitive int -/
def k8 : Class := { plain "int" none with kind := .primitive 'I', accessFlags := 0x411 }
/-- [I -/
def k9 : Class := { plain "[I" (some 0) with kind := .array 8 .int, interfaces := #[4, 5], accessFlags := 1041 }

def heap : Heap := #[]
def k10 : Class := { plain "double" none with kind := .primitive 'D', accessFlags := 0x411 }
def k11 : Class := { plain "[D" (some 0) with kind := .array 10 .double, interfaces := #[4, 5], accessFlags := 1041 }
def classes : Array Class := #[k0, k1, k2, k3, k4, k5, k6, k7, k8, k9, k10, k11]
def interned : List (Array UInt16 × Addr) := []
def slotsUsed : Nat := 0
def theMethod : MethodId := ⟨1, 2⟩
def args0 : Array Value := #[.int 1, .int 2, .int 3, .int 4, .int 5, .int 6]
def aboutOver (below : List Frame) : State where
  vm := { classes := classes, interned := interned.toArray }
  heap := heap
  slotsUsed := slotsUsed
  threads := #[{ frames := .invoking theMethod args0 :: below }]
def below0 : List Frame := [.native { method := ⟨0, 0⟩, args := #[] }]
def about1 : State := aboutOver below0
def p0 : Program := .bare "" "" ""
def e0 : Env := launch0.env 0 0 0
theorem w_frames : about1.frames = Frame.invoking theMethod args0 :: below0 := rfl
set_option maxRecDepth 65536 in
theorem w_args : argsFit about1.vm theMethod args0 = true := by decide +kernel
set_option maxRecDepth 65536 in
theorem w_heap : heapFits about1 = true := by decide +kernel
set_option maxRecDepth 65536 in
theorem w_runnable : about1.curStatus? = some .runnable := by decide +kernel
set_option maxRecDepth 65536 in
theorem w_alone : about1.alone = true := by decide +kernel
set_option maxRecDepth 65536 in
theorem w_named : about1.methodNamed? x = some theMethod := by decide +kernel
set_option maxRecDepth 65536 in
theorem w_hears : about1.hears theMethod below0 = true := by decide +kernel
set_option maxRecDepth 65536 in
theorem w_ripe : about1.ripe theMethod args0 below0 = true := by decide +kernel
theorem w_running : about1.status = .running := rfl
set_option maxRecDepth 65536 in
theorem w_room : about1.hasRoom e0.platform room_1 = true :=
  launch0.hasRoom_least _ room_1 (by decide +kernel) (by decide +kernel) (by decide +kernel) (by decide +kernel) (by decide +kernel) (by decide +kernel)
theorem allAtoms_all (ts : List Jvm.Cond) (a : Array Jvm.Value) (st : Jvm.State) : (allAtoms ts).before a st = ts.all (fun c => c.before a st) := by
  induction ts with
  | nil => rfl
  | cons c t ih =>
    show (Jvm.Cond.and c (allAtoms t)).before a st = _
    rw [Jvm.Cond.before_and, ih, List.all_cons]
def words1 : List Jvm.Cond := Jvm.Cond.code x code maxLocals ret :: tables_1
/-- a 'code' word, met by the world's own term for the bytes: nothing is compared byte by byte -/
theorem code_word {y : MethodName} {bytes : ByteArray} {mx : Nat} {rt : Option FieldType} {a : Array Value} {s : State} {m : MethodId} {meth : Method} {c : Code} (h1 : s.methodNamed? y = some m) (h2 : s.vm.method? m = some meth) (h3 : meth.code = some c) (h4 : c.code = bytes)
    (h5 : (c.maxLocals == mx && c.exceptionTable.isEmpty && decide (c.maxStack ≤ mostOperands) && decide (meth.sig.returnType = rt) && !meth.locks && decide (parseMethodDescriptor y.desc = some meth.sig)) = true) : (Jvm.Cond.code y bytes mx rt).before a s = true := by
  simp only [Bool.and_eq_true, beq_iff_eq, Bool.not_eq_true', decide_eq_true_eq] at h5
  obtain ⟨⟨⟨⟨⟨g1, g2⟩, g3⟩, g4⟩, g5⟩, g6⟩ := h5
  simp [Cond.before, Cond.holds, Cond.value, h1, h2, h3, h4, g1, g2, g3, g4, g5, g6]
def isCode : Jvm.Cond → Bool
  | .code _ _ _ _ => true
  | _ => false
theorem all_split {L : List Jvm.Cond} {P : Jvm.Cond → Bool} (h1 : L.all (fun c => isCode c || P c) = true) (h2 : ∀ c ∈ L.filter isCode, P c = true) : L.all P = true := by
  refine List.all_eq_true.mpr fun c hc => ?_
  have h := List.all_eq_true.mp h1 c hc
  rcases Bool.eq_false_or_eq_true (isCode c) with hi | hi
  · exact h2 c (List.mem_filter.mpr ⟨hc, hi⟩)
  · simpa [hi] using h
set_option maxRecDepth 65536 in
theorem w_c0 : (Jvm.Cond.code x code maxLocals ret).before args0 about1 = true := code_word (m := ⟨1, 2⟩) (meth := k1m2) (c := k1c2) (by decide +kernel) rfl rfl rfl (by decide +kernel)
set_option maxRecDepth 65536 in
theorem w_c1 : (Jvm.Cond.code ({ cls := "com/example/prequential/prequential/measure/ScoreMultiset", name := "<init>", desc := "()V" } : Jvm.MethodName) prog_108_method_1_code (1 : Nat) (Option.none : Option Jvm.ClassFile.FieldType)).before args0 about1 = true := code_word (m := ⟨2, 0⟩) (meth := k2m0) (c := k2c0) (by decide +kernel) rfl rfl rfl (by decide +kernel)
set_option maxRecDepth 65536 in
theorem w_c2 : (Jvm.Cond.code ({ cls := "java/lang/Object", name := "<init>", desc := "()V" } : Jvm.MethodName) object_method_1_code (1 : Nat) (Option.none : Option Jvm.ClassFile.FieldType)).before args0 about1 = true := code_word (m := ⟨0, 0⟩) (meth := k0m0) (c := k0c0) (by decide +kernel) rfl rfl rfl (by decide +kernel)
set_option maxRecDepth 65536 in
theorem w_c3 : (Jvm.Cond.code ({ cls := "com/example/prequential/prequential/measure/ScoreMultiset", name := "add", desc := "(D)V" } : Jvm.MethodName) prog_108_method_3_code (3 : Nat) (Option.none : Option Jvm.ClassFile.FieldType)).before args0 about1 = true := code_word (m := ⟨2, 1⟩) (meth := k2m1) (c := k2c1) (by decide +kernel) rfl rfl rfl (by decide +kernel)
set_option maxRecDepth 65536 in
theorem w_c4 : (Jvm.Cond.code ({ cls := "com/example/prequential/prequential/measure/ScoreMultiset", name := "insert", desc := "(ID)I" } : Jvm.MethodName) prog_108_method_11_code (5 : Nat) (Option.some Jvm.ClassFile.FieldType.int)).before args0 about1 = true := code_word (m := ⟨2, 4⟩) (meth := k2m4) (c := k2c4) (by decide +kernel) rfl rfl rfl (by decide +kernel)
set_option maxRecDepth 65536 in
theorem w_c5 : (Jvm.Cond.code ({ cls := "com/example/prequential/prequential/measure/ScoreMultiset", name := "newNode", desc := "(D)I" } : Jvm.MethodName) prog_108_method_20_code (4 : Nat) (Option.some Jvm.ClassFile.FieldType.int)).before args0 about1 = true := code_word (m := ⟨2, 13⟩) (meth := k2m13) (c := k2c13) (by decide +kernel) rfl rfl rfl (by decide +kernel)
set_option maxRecDepth 65536 in
theorem w_c6 : (Jvm.Cond.code ({ cls := "com/example/prequential/prequential/measure/ScoreMultiset", name := "settle", desc := "(II)I" } : Jvm.MethodName) prog_108_method_15_code (5 : Nat) (Option.some Jvm.ClassFile.FieldType.int)).before args0 about1 = true := code_word (m := ⟨2, 8⟩) (meth := k2m8) (c := k2c8) (by decide +kernel) rfl rfl rfl (by decide +kernel)
set_option maxRecDepth 65536 in
theorem w_c7 : (Jvm.Cond.code ({ cls := "com/example/prequential/prequential/measure/ScoreMultiset", name := "balance", desc := "(I)I" } : Jvm.MethodName) prog_108_method_16_code (4 : Nat) (Option.some Jvm.ClassFile.FieldType.int)).before args0 about1 = true := code_word (m := ⟨2, 9⟩) (meth := k2m9) (c := k2c9) (by decide +kernel) rfl rfl rfl (by decide +kernel)
set_option maxRecDepth 65536 in
theorem w_c8 : (Jvm.Cond.code ({ cls := "com/example/prequential/prequential/measure/ScoreMultiset", name := "update", desc := "(I)V" } : Jvm.MethodName) prog_108_method_19_code (2 : Nat) (Option.none : Option Jvm.ClassFile.FieldType)).before args0 about1 = true := code_word (m := ⟨2, 12⟩) (meth := k2m12) (c := k2c12) (by decide +kernel) rfl rfl rfl (by decide +kernel)
set_option maxRecDepth 65536 in
theorem w_c9 : (Jvm.Cond.code ({ cls := "java/lang/Math", name := "max", desc := "(II)I" } : Jvm.MethodName) jdk_29_method_65_code (2 : Nat) (Option.some Jvm.ClassFile.FieldType.int)).before args0 about1 = true := code_word (m := ⟨3, 1⟩) (meth := k3m1) (c := k3c1) (by decide +kernel) rfl rfl rfl (by decide +kernel)
set_option maxRecDepth 65536 in
theorem w_c10 : (Jvm.Cond.code ({ cls := "com/example/prequential/prequential/measure/ScoreMultiset", name := "rotateRight", desc := "(I)I" } : Jvm.MethodName) prog_108_method_17_code (3 : Nat) (Option.some Jvm.ClassFile.FieldType.int)).before args0 about1 = true := code_word (m := ⟨2, 10⟩) (meth := k2m10) (c := k2c10) (by decide +kernel) rfl rfl rfl (by decide +kernel)
set_option maxRecDepth 65536 in
theorem w_c11 : (Jvm.Cond.code ({ cls := "com/example/prequential/prequential/measure/ScoreMultiset", name := "rotateLeft", desc := "(I)I" } : Jvm.MethodName) prog_108_method_18_code (3 : Nat) (Option.some Jvm.ClassFile.FieldType.int)).before args0 about1 = true := code_word (m := ⟨2, 11⟩) (meth := k2m11) (c := k2c11) (by decide +kernel) rfl rfl rfl (by decide +kernel)
set_option maxRecDepth 65536 in
theorem w_c12 : (Jvm.Cond.code ({ cls := "com/example/prequential/prequential/measure/ScoreMultiset", name := "remove", desc := "(D)V" } : Jvm.MethodName) prog_108_method_4_code (3 : Nat) (Option.none : Option Jvm.ClassFile.FieldType)).before args0 about1 = true := code_word (m := ⟨2, 2⟩) (meth := k2m2) (c := k2c2) (by decide +kernel) rfl rfl rfl (by decide +kernel)
set_option maxRecDepth 65536 in
theorem w_c13 : (Jvm.Cond.code ({ cls := "com/example/prequential/prequential/measure/ScoreMultiset", name := "delete", desc := "(ID)I" } : Jvm.MethodName) prog_108_method_12_code (4 : Nat) (Option.some Jvm.ClassFile.FieldType.int)).before args0 about1 = true := code_word (m := ⟨2, 5⟩) (meth := k2m5) (c := k2c5) (by decide +kernel) rfl rfl rfl (by decide +kernel)
set_option maxRecDepth 65536 in
theorem w_c14 : (Jvm.Cond.code ({ cls := "com/example/prequential/prequential/measure/ScoreMultisetCountPinLaw", name := "eq", desc := "(II)I" } : Jvm.MethodName) method_2_code (2 : Nat) (Option.some Jvm.ClassFile.FieldType.int)).before args0 about1 = true := code_word (m := ⟨1, 1⟩) (meth := k1m1) (c := k1c1) (by decide +kernel) rfl rfl rfl (by decide +kernel)
set_option maxRecDepth 65536 in
theorem w_c15 : (Jvm.Cond.code ({ cls := "com/example/prequential/prequential/measure/ScoreMultiset", name := "count", desc := "(D)I" } : Jvm.MethodName) prog_108_method_7_code (4 : Nat) (Option.some Jvm.ClassFile.FieldType.int)).before args0 about1 = true := code_word (m := ⟨2, 3⟩) (meth := k2m3) (c := k2c3) (by decide +kernel) rfl rfl rfl (by decide +kernel)
set_option maxRecDepth 65536 in
theorem w_c16 : (Jvm.Cond.code ({ cls := "com/example/prequential/prequential/measure/ScoreMultiset", name := "unlink", desc := "(I)I" } : Jvm.MethodName) prog_108_method_13_code (3 : Nat) (Option.some Jvm.ClassFile.FieldType.int)).before args0 about1 = true := code_word (m := ⟨2, 6⟩) (meth := k2m6) (c := k2c6) (by decide +kernel) rfl rfl rfl (by decide +kernel)
set_option maxRecDepth 65536 in
theorem w_c17 : (Jvm.Cond.code ({ cls := "com/example/prequential/prequential/measure/ScoreMultiset", name := "free", desc := "(I)V" } : Jvm.MethodName) prog_108_method_21_code (2 : Nat) (Option.none : Option Jvm.ClassFile.FieldType)).before args0 about1 = true := code_word (m := ⟨2, 14⟩) (meth := k2m14) (c := k2c14) (by decide +kernel) rfl rfl rfl (by decide +kernel)
set_option maxRecDepth 65536 in
theorem w_c18 : (Jvm.Cond.code ({ cls := "com/example/prequential/prequential/measure/ScoreMultiset", name := "unlinkLowest", desc := "(II)I" } : Jvm.MethodName) prog_108_method_14_code (4 : Nat) (Option.some Jvm.ClassFile.FieldType.int)).before args0 about1 = true := code_word (m := ⟨2, 7⟩) (meth := k2m7) (c := k2c7) (by decide +kernel) rfl rfl rfl (by decide +kernel)
def codes1 : List Jvm.Cond := [Jvm.Cond.code x code maxLocals ret, Jvm.Cond.code ({ cls := "com/example/prequential/prequential/measure/ScoreMultiset", name := "<init>", desc := "()V" } : Jvm.MethodName) prog_108_method_1_code (1 : Nat) (Option.none : Option Jvm.ClassFile.FieldType), Jvm.Cond.code ({ cls := "java/lang/Object", name := "<init>", desc := "()V" } : Jvm.MethodName) object_method_1_code (1 : Nat) (Option.none : Option Jvm.ClassFile.FieldType), Jvm.Cond.code ({ cls := "com/example/prequential/prequential/measure/ScoreMultiset", name := "add", desc := "(D)V" } : Jvm.MethodName) prog_108_method_3_code (3 : Nat) (Option.none : Option Jvm.ClassFile.FieldType), Jvm.Cond.code ({ cls := "com/example/prequential/prequential/measure/ScoreMultiset", name := "insert", desc := "(ID)I" } : Jvm.MethodName) prog_108_method_11_code (5 : Nat) (Option.some Jvm.ClassFile.FieldType.int), Jvm.Cond.code ({ cls := "com/example/prequential/prequential/measure/ScoreMultiset", name := "newNode", desc := "(D)I" } : Jvm.MethodName) prog_108_method_20_code (4 : Nat) (Option.some Jvm.ClassFile.FieldType.int), Jvm.Cond.code ({ cls := "com/example/prequential/prequential/measure/ScoreMultiset", name := "settle", desc := "(II)I" } : Jvm.MethodName) prog_108_method_15_code (5 : Nat) (Option.some Jvm.ClassFile.FieldType.int), Jvm.Cond.code ({ cls := "com/example/prequential/prequential/measure/ScoreMultiset", name := "balance", desc := "(I)I" } : Jvm.MethodName) prog_108_method_16_code (4 : Nat) (Option.some Jvm.ClassFile.FieldType.int), Jvm.Cond.code ({ cls := "com/example/prequential/prequential/measure/ScoreMultiset", name := "update", desc := "(I)V" } : Jvm.MethodName) prog_108_method_19_code (2 : Nat) (Option.none : Option Jvm.ClassFile.FieldType), Jvm.Cond.code ({ cls := "java/lang/Math", name := "max", desc := "(II)I" } : Jvm.MethodName) jdk_29_method_65_code (2 : Nat) (Option.some Jvm.ClassFile.FieldType.int), Jvm.Cond.code ({ cls := "com/example/prequential/prequential/measure/ScoreMultiset", name := "rotateRight", desc := "(I)I" } : Jvm.MethodName) prog_108_method_17_code (3 : Nat) (Option.some Jvm.ClassFile.FieldType.int), Jvm.Cond.code ({ cls := "com/example/prequential/prequential/measure/ScoreMultiset", name := "rotateLeft", desc := "(I)I" } : Jvm.MethodName) prog_108_method_18_code (3 : Nat) (Option.some Jvm.ClassFile.FieldType.int), Jvm.Cond.code ({ cls := "com/example/prequential/prequential/measure/ScoreMultiset", name := "remove", desc := "(D)V" } : Jvm.MethodName) prog_108_method_4_code (3 : Nat) (Option.none : Option Jvm.ClassFile.FieldType), Jvm.Cond.code ({ cls := "com/example/prequential/prequential/measure/ScoreMultiset", name := "delete", desc := "(ID)I" } : Jvm.MethodName) prog_108_method_12_code (4 : Nat) (Option.some Jvm.ClassFile.FieldType.int), Jvm.Cond.code ({ cls := "com/example/prequential/prequential/measure/ScoreMultisetCountPinLaw", name := "eq", desc := "(II)I" } : Jvm.MethodName) method_2_code (2 : Nat) (Option.some Jvm.ClassFile.FieldType.int), Jvm.Cond.code ({ cls := "com/example/prequential/prequential/measure/ScoreMultiset", name := "count", desc := "(D)I" } : Jvm.MethodName) prog_108_method_7_code (4 : Nat) (Option.some Jvm.ClassFile.FieldType.int), Jvm.Cond.code ({ cls := "com/example/prequential/prequential/measure/ScoreMultiset", name := "unlink", desc := "(I)I" } : Jvm.MethodName) prog_108_method_13_code (3 : Nat) (Option.some Jvm.ClassFile.FieldType.int), Jvm.Cond.code ({ cls := "com/example/prequential/prequential/measure/ScoreMultiset", name := "free", desc := "(I)V" } : Jvm.MethodName) prog_108_method_21_code (2 : Nat) (Option.none : Option Jvm.ClassFile.FieldType), Jvm.Cond.code ({ cls := "com/example/prequential/prequential/measure/ScoreMultiset", name := "unlinkLowest", desc := "(II)I" } : Jvm.MethodName) prog_108_method_14_code (4 : Nat) (Option.some Jvm.ClassFile.FieldType.int)]
set_option maxRecDepth 65536 in
theorem codes_eq : words1.filter isCode = codes1 := rfl
theorem w_codes : ∀ c ∈ words1.filter isCode, c.before args0 about1 = true := by
  rw [codes_eq]
  intro c hc
  simp only [codes1, List.mem_cons, List.not_mem_nil, or_false] at hc
  rcases hc with rfl | rfl | rfl | rfl | rfl | rfl | rfl | rfl | rfl | rfl | rfl | rfl | rfl | rfl | rfl | rfl | rfl | rfl | rfl
  · exact w_c0
  · exact w_c1
  · exact w_c2
  · exact w_c3
  · exact w_c4
  · exact w_c5
  · exact w_c6
  · exact w_c7
  · exact w_c8
  · exact w_c9
  · exact w_c10
  · exact w_c11
  · exact w_c12
  · exact w_c13
  · exact w_c14
  · exact w_c15
  · exact w_c16
  · exact w_c17
  · exact w_c18
set_option maxRecDepth 65536 in
theorem w_t1 : (words1.take 24).all (fun c => isCode c || c.before args0 about1) = true := by decide +kernel
set_option maxRecDepth 65536 in
theorem w_t2 : ((words1.drop 24).take 24).all (fun c => isCode c || c.before args0 about1) = true := by decide +kernel
set_option maxRecDepth 65536 in
theorem w_t3 : (((words1.drop 24).drop 24).take 24).all (fun c => isCode c || c.before args0 about1) = true := by decide +kernel
set_option maxRecDepth 65536 in
theorem w_t4 : ((((words1.drop 24).drop 24).drop 24).take 24).all (fun c => isCode c || c.before args0 about1) = true := by decide +kernel
set_option maxRecDepth 65536 in
theorem w_t5 : ((((words1.drop 24).drop 24).drop 24).drop 24).all (fun c => isCode c || c.before args0 about1) = true := by decide +kernel
theorem w_tables : (allAtoms (Jvm.Cond.code x code maxLocals ret :: tables_1)).before args0 about1 = true := by
  rw [allAtoms_all]
  show words1.all (fun c => c.before args0 about1) = true
  refine all_split ?_ w_codes
  rw [← List.take_append_drop 24 words1, List.all_append, w_t1, ← List.take_append_drop 24 (words1.drop 24), List.all_append, w_t2, ← List.take_append_drop 24 ((words1.drop 24).drop 24), List.all_append, w_t3, ← List.take_append_drop 24 (((words1.drop 24).drop 24).drop 24), List.all_append, w_t4, w_t5]
  rfl
set_option maxRecDepth 65536 in
theorem w_case : (Jvm.Cond.and given_1 narrow_1).before args0 about1 = true := by decide +kernel
theorem w_applies : (headSpec (Jvm.Cond.code x code maxLocals ret :: tables_1) room_1).applies x e0.platform about1 = true :=
  (Spec.applies_iff w_frames).mpr ⟨w_running, w_runnable, w_alone, w_named, w_hears, w_ripe, w_room, w_tables⟩
theorem atStart : AtStart classFile x code maxLocals ret World_1 tables_1 room_1 Calls_1 rest_1 Pre_1 launch0 p0 e0 about1 theMethod args0 below0 :=
  ⟨lists_1, trivial, launch0.admits_env _ _ _, launch0.least_env, fairChoices_fair.cas, fairChoices_fair.clock, w_frames, w_args, w_heap, w_applies, trivial, trivial, w_case⟩
end start1
theorem witness_1 : WitnessClaimed_1 := ⟨start1.p0, start1.e0, start1.about1, start1.theMethod, start1.args0, start1.below0, start1.atStart⟩
end Jvm.Pilot.@@N@@
