import JvmDerived
import JvmDerived.Pilot.@@N@@Statement
import JvmDerived.Pilot.@@N@@Code
set_option linter.unusedVariables false
set_option linter.unusedSimpArgs false
namespace Jvm.RoadKit
open Sem ClassFile Op Lib Jvm.Stand Jvm.Free Jvm.LawKit
section New
variable {p : Program} {l : Launch} {e : Env} {R : Room} {s : State} {m : MethodId} {args : Array Value} {below : List Frame} {meth : Method} {c : Code} {T : State} {locs : List Loc} {cells slots : Nat}
theorem retI (X : Stand p l e R s m args below meth c T locs cells slots) (hx : p.tables.exec = Jvm.exec) {pc : Nat} {Ls : Array Slot} {z : Int32} {rest : List Value} (hret : meth.sig.returnType = some .int) (hd : decode c.code pc = .ok (.ireturn, 1)) {fs : List Frame}
    (hl : ∀ (f : JFrame) (acts : List Action), f.method = m → f.locked = none → f.entered = [] → (doReturn e (T.setTop f) acts (some (.int z))).1 = T.setFrames fs) : Steps p.tables e below (T.setTop (mkF m pc Ls (.int z :: rest))) (T.setFrames fs) := by
  have hm' : T.vm.method? m = some meth := X.method'
  have hn : narrow .int (.int z) = .int z := rfl
  show Steps p.tables e below (T.setTop { method := m, pc := pc, locals := Ls, stack := _ :: rest, locked := none }) _
  jvm_step X.here [X.here.top, hx, hd, hm', hret, hn]
  first | (intro acts; rw [hl _ acts rfl rfl rfl]) | rw [hl _ _ rfl rfl rfl]
  exact Steps.refl _
end New
end Jvm.RoadKit
namespace Jvm.Pilot.@@N@@
open Jvm Jvm.ClassFile Sem Op Lib Jvm.Free Jvm.Stand Jvm.LawKit Jvm.RoadKit Bundle Jvm.Pilot.@@N@@.Jvm.D Jvm.Free.SB Jvm.Free.SBG
theorem own_retJ {p : Program} {l : Launch} {e : Env} {R : Room} {s : State} {m : MethodId} {args : Array Value} {below : List Frame} {meth : Method} {c : Code} {T : State} {locs : List Loc} {cells slots : Nat} (X : Stand p l e R s m args below meth c T locs cells slots) (hx : p.tables.exec = Jvm.exec) {pc : Nat} {Ls : Array Slot} {z : Int64} {rest : List Value} (hret : meth.sig.returnType = some .long) (hd : decode c.code pc = .ok (.lreturn, 1)) {fs : List Frame}
    (hl : ∀ (f : JFrame) (acts : List Action), f.method = m → f.locked = none → f.entered = [] → (doReturn e (T.setTop f) acts (some (.long z))).1 = T.setFrames fs) : Steps p.tables e below (T.setTop (mkF m pc Ls (.long z :: rest))) (T.setFrames fs) := by
  have hm' : T.vm.method? m = some meth := X.method'
  have hn : narrow .long (.long z) = .long z := rfl
  show Steps p.tables e below (T.setTop { method := m, pc := pc, locals := Ls, stack := _ :: rest, locked := none }) _
  jvm_step X.here [X.here.top, hx, hd, hm', hret, hn]
  first | (intro acts; rw [hl _ acts rfl rfl rfl]) | rw [hl _ _ rfl rfl rfl]
  exact Steps.refl _
theorem own_retD {p : Program} {l : Launch} {e : Env} {R : Room} {s : State} {m : MethodId} {args : Array Value} {below : List Frame} {meth : Method} {c : Code} {T : State} {locs : List Loc} {cells slots : Nat} (X : Stand p l e R s m args below meth c T locs cells slots) (hx : p.tables.exec = Jvm.exec) {pc : Nat} {Ls : Array Slot} {z : UInt64} {rest : List Value} (hret : meth.sig.returnType = some .double) (hd : decode c.code pc = .ok (.dreturn, 1)) {fs : List Frame}
    (hl : ∀ (f : JFrame) (acts : List Action), f.method = m → f.locked = none → f.entered = [] → (doReturn e (T.setTop f) acts (some (.double z))).1 = T.setFrames fs) : Steps p.tables e below (T.setTop (mkF m pc Ls (.double z :: rest))) (T.setFrames fs) := by
  have hm' : T.vm.method? m = some meth := X.method'
  have hn : narrow .double (.double z) = .double z := rfl
  show Steps p.tables e below (T.setTop { method := m, pc := pc, locals := Ls, stack := _ :: rest, locked := none }) _
  jvm_step X.here [X.here.top, hx, hd, hm', hret, hn]
  first | (intro acts; rw [hl _ acts rfl rfl rfl]) | rw [hl _ _ rfl rfl rfl]
  exact Steps.refl _
abbrev own_MF (l : Launch) (y : MethodName) (ws : List Jvm.Cond) (R : Room) (A : Array Value) (Z : State) (h0 : Heap) (Q : Option Value → Heap → List Loc → Prop) : Prop := MetFree l y (head1 ws R) (fun a U => a = A ∧ Z.Warmed39 U.vm ∧ U.heap = h0) (fun _ _ _ _ _ => True) (fun _ U o U' => ∃ v L, o = .returned v ∧ Q v U'.heap L ∧ FrameEnd U o U' L R.cells R.slots)
abbrev own_zl (a b : Value) : List Value := [a, b, .int (0 : Int32), .int (0 : Int32), .int (0 : Int32), .int (0 : Int32), .int (0 : Int32), .int (0 : Int32), .int (0 : Int32), .int (0 : Int32), .int (0 : Int32), .int (0 : Int32), .int (0 : Int32), .int (0 : Int32), .int (0 : Int32), .int (0 : Int32)]
theorem own_w {Z : State} {a0 : Array Value} (hw : ∀ d ∈ tables_1, d.before a0 Z = true) {d : Jvm.Cond} (i : Nat) (h : tables_1[i]? = some d) : d.before a0 Z = true := hw d (List.mem_of_getElem? h)
theorem own_sta_keep {Z : State} {h h' : Heap} {C n d : String} {v : Value} {ws : List Addr} (F : Sta Z h C n d v) (K : Keep h h' ws) (q : ∀ x ∈ ws, ∀ c : Cell, h[x]? = some c → c.vm.isStatics = false) : Sta Z h' C n d v := by
  obtain ⟨cf, i, k, f, st, cell, h1, h2, h3, h4, h5, h6, h7⟩ := F
  exact ⟨cf, i, k, f, st, cell, h1, h2, h3, h4, K.2.1 st cell h5 (fun z => by have := q st z cell h5; rw [h6] at this; cases this), h6, h7⟩
theorem own_ins_keep {Z : State} {h h' : Heap} {a : Addr} {C : String} {b : Bool} {ws : List Addr} (F : Ins Z h a C b) (K : Keep h h' ws) : Ins Z h' a C b := by
  obtain ⟨cell, cT, h1, h2, h3⟩ := F
  obtain ⟨c', e1, e2, e3, -⟩ := K.2.2 a cell h1
  exact ⟨c', cT, e1, h2, by rw [e2, e3]; exact h3⟩
theorem own_pl0 {h : Heap} : ∀ x ∈ ([] : List Addr), ∀ c : Cell, h[x]? = some c → c.vm.isStatics = false := fun _ q => nomatch q
theorem own_plS {h : Heap} {y : Addr} {L : List Addr} (q : ∀ c : Cell, h[y]? = some c → c.vm.isStatics = false) (r : ∀ x ∈ L, ∀ c : Cell, h[x]? = some c → c.vm.isStatics = false) : ∀ x ∈ y :: L, ∀ c : Cell, h[x]? = some c → c.vm.isStatics = false := fun x z => (List.mem_cons.mp z).elim (fun u => u ▸ q) (r x)
theorem own_pl_exa {Z : State} {h : Heap} {a : Addr} {C : String} (F : Exa Z h a C) : ∀ c : Cell, h[a]? = some c → c.vm.isStatics = false := fun c hc => by
  obtain ⟨cell, k, h1, -, -, h4, -⟩ := F; cases h1.symm.trans hc; exact h4
theorem own_pl_fld {Z : State} {h : Heap} {a : Addr} {C n d : String} {v : Value} (F : Fld Z h a C n d v) : ∀ c : Cell, h[a]? = some c → c.vm.isStatics = false := fun c hc => by
  obtain ⟨cell, cf, k, i, f, h1, -, -, -, h5, -⟩ := F; cases h1.symm.trans hc; exact h5
theorem own_pl_arv {Z : State} {h : Heap} {a : Addr} {k : ClassId} {ty : FieldType} {z : Int32} {vs : List Value} {d : Value} (F : Arv Z h a k ty z vs d) : ∀ c : Cell, h[a]? = some c → c.vm.isStatics = false := fun c hc => by
  obtain ⟨cl, A, -⟩ := F; cases A.1.symm.trans hc; exact A.plain
theorem own_isr {s : State} {args : Array Value} {t : Term} (h : (Jvm.Cond.isRef t).value args s none s [] = some true) : ∃ v, t.eval args s none [] s = some v ∧ v.isRef = true := by
  simp only [Cond.value, Option.map_eq_some_iff] at h
  obtain ⟨v, h1, h2⟩ := h
  refine ⟨v, h1, ?_⟩
  cases v <;> first | rfl | cases h2
theorem own_nz {s : State} {args : Array Value} {t : Term} {z : Int32} (ev : t.eval args s none [] s = some (.int z)) (h : (Jvm.Cond.not (.eq t (.int (0 : Int32)))).value args s none s [] = some true) : ¬ (z = (0 : Int32)) := fun q => by
  have z2 : (Jvm.Cond.eq t (.int (0 : Int32))).value args s none s [] = some true := by rw [Cond.eq_ints ev (Term.int_eval 0), q]; rfl
  have h' : ((Jvm.Cond.eq t (.int (0 : Int32))).value args s none s []).map (!·) = some true := h
  rw [z2] at h'
  cases h'
theorem own_len {s : State} {args : Array Value} {t : Term} {a : Addr} {cl : Cell} {ty : FieldType} {z : Int32} (ev : t.eval args s none [] s = some (.ref a)) (A : Arr s s.heap a cl ty) (n3 : (Jvm.Cond.eq (.length t) (.int z)).value args s none s [] = some true) : cl.slots.size < 2 ^ 31 ∧ cl.slots.size.toInt32 = z := by
  have hlen := Cond.eq_int (Cond.before_iff.mpr n3) (Term.int_eval z)
  have hat : s.arrayAt? a = some cl := A.fin (Vm.Alike.refl _)
  have h31 := SBG.length_lt ev hat hlen
  obtain ⟨a', cell, e1, e2, e3⟩ := Term.length_spec hlen
  cases e1.symm.trans ev
  cases e2.symm.trans hat
  exact ⟨h31, (Value.int.inj e3).symm⟩
theorem own_elem {s : State} {args : Array Value} {t u : Term} {a : Addr} {cl : Cell} {ty : FieldType} {i : Int32} {v : Value} (ev : t.eval args s none [] s = some (.ref a)) (A : Arr s s.heap a cl ty) (h : (Jvm.Cond.eq (.elem t (.int i)) u).value args s none s [] = some true) (hu : u.eval args s none [] s = some v) (hv : v.isRef = true) : cl.slots[i.toNatClampNeg]? = some v :=
  (elem_in (Cond.eq_refs (Cond.before_iff.mpr h) hu hv) ev (Term.int_eval i) A.1).2
theorem own_fld {s : State} {args : Array Value} {t : Term} {a : Addr} {C n d : String} {z : Int32} (ev : t.eval args s none [] s = some (.ref a)) (h : (Jvm.Cond.eq (.field t C n d) (.int z)).value args s none s [] = some true) : Fld s s.heap a C n d (.int z) :=
  Fld.start ((fld_at ev).symm.trans (Cond.eq_int (Cond.before_iff.mpr h) (Term.int_eval z)))
theorem own_sta {s : State} {args : Array Value} {C n d K : String} (w1 : (Jvm.Cond.initialized C).before args s = true) (w2 : (Jvm.Cond.laysStatic C n d).before args s = true) (h : (Jvm.Cond.exactly (.static C n d) K).value args s none s [] = some true) : ∃ a : Addr, (Term.static C n d).eval args s none [] s = some (.ref a) ∧ Sta s s.heap C n d (.ref a) ∧ Exa s s.heap a K := by
  obtain ⟨a, ev⟩ := exa_v h
  exact ⟨a, ev, Sta.start ev (Or.inr ⟨w1, w2⟩), Exa.start ev h⟩
theorem own_ne_arv {Z : State} {h : Heap} {a b : Addr} {k k' : ClassId} {ty ty' : FieldType} {n n' : Int32} {vs vs' : List Value} {d d' : Value} (F : Arv Z h a k ty n vs d) (G : Arv Z h b k' ty' n' vs' d') (q : ty ≠ ty') : a ≠ b := fun e => by
  subst e
  obtain ⟨c, ⟨a1, ⟨-, k1, b1, comp, c1⟩, -⟩, -⟩ := F
  obtain ⟨c', ⟨a2, ⟨-, k2, b2, comp', c2⟩, -⟩, -⟩ := G
  cases a1.symm.trans a2
  cases b1.symm.trans b2
  rw [c1] at c2
  injection c2 with _ h
  exact q h
theorem own_privNest {p : Program} {l : Launch} {e : Env} {R : Room} {s : State} {m : MethodId} {args : Array Value} {below : List Frame} {meth : Method} {c : Code} {T : State} {locs : List Loc} {cells slots : Nat} (X : Stand p l e R s m args below meth c T locs cells slots) (hexec : p.tables.exec = Jvm.exec) {own host : String} {index : Nat} {y : MethodName} {bytes : ByteArray} {maxL : Nat} {ret : Option FieldType}
    (hown : s.vm.findClass own = some m.cls) (hlink : (Jvm.Cond.methodLinkNest own index y host).before args s = true) (hinst : (Jvm.Cond.instanceMethod y).before args s = true) (hsel : (Jvm.Cond.selects y.cls y y).before args s = true)
    (hpriv : s.PrivateAt y) (hcode : (Jvm.Cond.code y bytes maxL ret).before args s = true) (hy : y.cls ≠ "java/lang/invoke/MethodHandle" ∧ y.cls ≠ "java/lang/invoke/VarHandle")
    {W : Nat} {Pre : Free.Pt → Array Value → Prop} {Post : Free.Pt → Array Value → Option Value → Free.Pt → Prop} (hK : Free.Back l R p e below s args y 3 W Pre Post)
    {g : JFrame} (hg : g.method = m) (hsize : g.locals.size = c.maxLocals) {s₀ : State} (hcome : Steps p.tables e below s₀ (T.setTop g)) {a : Addr} {cell : Cell} (hcell : T.heap[a]? = some cell) (hobj : ∀ q, cell.vm ≠ .statics q)
    {argsL rest : List Value} (hlen : ∀ sig, parseMethodDescriptor y.desc = some sig → argsL.length = sig.parameters.length)
    (hstack : g.stack = argsL.reverse ++ .ref a :: rest) (hW : 2 * g.monitorRoom + (rest.map fun v => v.category).sum ≤ W) (hdg : decode c.code g.pc = .ok (.invokevirtual index, 3))
    (hpre : ∀ vm₁, s.WarmedH vm₁ → Pre ⟨T.setVm vm₁, locs, cells, slots⟩ (.ref a :: argsL).toArray) :
    ∃ (v : Option Value) (vm₁ : Vm) (B : Free.Pt), s.WarmedH vm₁ ∧ Stand p l e R s m args below meth c B.U B.locs B.cells B.slots ∧ Post ⟨T.setVm vm₁, locs, cells, slots⟩ (.ref a :: argsL).toArray v B ∧ Steps p.tables e below s₀ (B.U.setTop { g with pc := g.pc + 3, stack := v.toList ++ rest }) := by
  obtain ⟨mk, methM, hnamed, hmethM, hstM, habM⟩ := Cond.instanceMethod_spec hinst
  obtain ⟨methM', cM, hmethM', -, -, -, -, -, -, hsigM⟩ := Cond.code_spec hnamed hcode
  cases hmethM.symm.trans hmethM'
  obtain ⟨c2, r2, m2, -, -, q3, -, kP, hkP, hkPi⟩ := Cond.selects_spec hsel
  cases hnamed.symm.trans q3
  obtain ⟨vm₁, X₁, hstep₁⟩ := X.invokevirtualNest hexec hown hlink hnamed hmethM hstM hkP hkPi hy (a := a) (cell := cell) hcell hobj (selectMethod_private hmethM (hpriv mk methM hnamed hmethM)) hmethM habM hkP hkPi (g := g) hg (argsL := argsL) (rest := rest) (hlen _ hsigM) hstack hdg
  obtain ⟨v, B, X', hpost, hsteps⟩ := hK m meth c ⟨T.setVm vm₁, locs, cells, slots⟩ { g with stack := rest } (.invokevirtual index) mk (.ref a :: argsL).toArray X₁ hg hsize hdg hW (X₁.named hnamed) (hpre vm₁ X₁.warmed)
  exact ⟨v, vm₁, B, X₁.warmed, X', hpost, (hcome.trans (hstep₁ _ fun acts => by rw [doInvoke_state]; exact Steps.refl _)).trans hsteps⟩
theorem own_selp {y : MethodName} {Z : State} {a0 : Array Value} {n : Nat} (hy : y.cls ≠ "java/lang/invoke/MethodHandle" ∧ y.cls ≠ "java/lang/invoke/VarHandle") (hins : (Jvm.Cond.instantiable y.cls n).before a0 Z = true) (hpriv : (Jvm.Cond.privateMethod y).before a0 Z = true) (hinst : (Jvm.Cond.instanceMethod y).before a0 Z = true) : (Jvm.Cond.selects y.cls y y).before a0 Z = true := by
  obtain ⟨c, k, hc, hk, -, hniab, -, -⟩ := Cond.instantiable_spec hins
  have hni : k.isInterface = false := (Bool.or_eq_false_iff.mp hniab).1
  obtain ⟨mk, methM, hnamed, hmethM, -, -⟩ := Cond.instanceMethod_spec hinst
  have hfound : Z.methodFound? y.cls y.name y.desc = some mk := State.methodFound?_of_named hnamed hy
  have hcls : mk.cls = c := Option.some.inj ((findClass_of_methodNamed hnamed).symm.trans hc)
  have hsel : selectMethod {} Z.vm c mk = .method mk := selectMethod_private hmethM (Cond.privateMethod_at hpriv mk methM hnamed hmethM)
  simp only [Cond.before, Cond.holds, Cond.value, hc, hfound, hnamed, hsel, hcls, hk]
  simp; exact hni
theorem own_catI (z : Int32) : (Value.int z).category = 1 := rfl
theorem own_catJ (z : Int64) : (Value.long z).category = 2 := rfl
theorem own_catR (z : Addr) : (Value.ref z).category = 1 := rfl
theorem own_catN : Value.null.category = 1 := rfl
theorem own_catD (z : UInt64) : (Value.double z).category = 2 := rfl
theorem own_same {Z : State} {a0 : Array Value} {y x2 y2 : MethodName} {K : String} (hi : (Jvm.Cond.instanceMethod y).before a0 Z = true) (hs : (Jvm.Cond.selects K x2 y2).before a0 Z = true) (e : y2.cls = y.cls) (hx : y.cls ≠ "java/lang/invoke/MethodHandle" ∧ y.cls ≠ "java/lang/invoke/VarHandle") : (Jvm.Cond.sameMethod y.cls y.cls y.name y.desc).before a0 Z = true := by
  obtain ⟨mk, meth, hn, -, -, -⟩ := Cond.instanceMethod_spec hi
  obtain ⟨c2, r2, m2, q1, q2, q3, q4, kP, hkP, hkPi⟩ := Cond.selects_spec hs
  have hf := State.methodFound?_of_named hn hx
  have hc := findClass_of_methodNamed hn
  have hc2 := findClass_of_methodNamed q3
  rw [e] at hc2
  have em : m2.cls = mk.cls := Option.some.inj (hc2.symm.trans hc)
  rw [em] at hkP
  have hn' : Z.methodNamed? ⟨y.cls, y.name, y.desc⟩ = some mk := hn
  simp [Cond.before, Cond.holds, Cond.value, hc, hf, hn', hkP, hkPi]
theorem own_nf {Z : State} {a0 : Array Value} {y x2 y2 : MethodName} {K : String} (hs : (Jvm.Cond.selects K x2 y2).before a0 Z = true) (e : y2.cls = y.cls) : NotFace Z y := fun r0 h0 => by
  obtain ⟨c2, r2, m2, q1, q2, q3, q4, kP, hkP, hkPi⟩ := Cond.selects_spec hs
  have hc := findClass_of_methodNamed h0
  have hc2 := findClass_of_methodNamed q3
  rw [e] at hc2
  have em : m2.cls = r0.cls := Option.some.inj (hc2.symm.trans hc)
  exact ⟨kP, em ▸ hkP, hkPi⟩
theorem own_declares {Z : State} {a0 : Array Value} {y : MethodName} {bytes : ByteArray} {maxL : Nat} {r : Option FieldType} (hi : (Jvm.Cond.instanceMethod y).before a0 Z = true) (hc : (Jvm.Cond.code y bytes maxL r).before a0 Z = true) : (Jvm.Cond.declares y).before a0 Z = true := by
  obtain ⟨mk, meth, hn, hm, hst, -⟩ := Cond.instanceMethod_spec hi
  obtain ⟨m2, cM, q1, -, -, -, -, -, -, hsig⟩ := Cond.code_spec hn hc
  cases hm.symm.trans q1
  simp [Cond.before, Cond.holds, Cond.value, hn, hm, hst, hsig]
def own_EL : List (String × Nat) := [("com/example/rouse/rouse/shell/CommandLineEndCommandPinLaw", 14), ("java/lang/String", 7)]
theorem own_wS {Z : State} {a0 : Array Value} (hw : ∀ d ∈ tables_1, d.before a0 Z = true) : ∀ a ∈ Bundle.stringAtoms, a.before a0 Z = true := by
  intro a ha
  simp only [Bundle.stringAtoms, Bundle.sN, List.mem_cons, List.not_mem_nil, or_false] at ha
  rcases ha with rfl | rfl | rfl | rfl | rfl | rfl | rfl
  · exact hw _ (List.mem_of_getElem? (i := 2) rfl)
  · exact hw _ (List.mem_of_getElem? (i := 3) rfl)
  · exact hw _ (List.mem_of_getElem? (i := 4) rfl)
  · exact hw _ (List.mem_of_getElem? (i := 5) rfl)
  · exact hw _ (List.mem_of_getElem? (i := 6) rfl)
  · exact hw _ (List.mem_of_getElem? (i := 7) rfl)
  · exact hw _ (List.mem_of_getElem? (i := 8) rfl)
theorem own_safe_arv {Z : State} {vm : Vm} {h : Heap} {a : Addr} {k : ClassId} {ty : FieldType} {z : Int32} {vs : List Value} {d : Value} (hal : Z.vm.Alike vm) (F : Arv Z h a k ty z vs d) (ht : ty ≠ .byte) : Safe Z own_EL vm h a := by
  obtain ⟨cl, A, -⟩ := F; exact Safe.arr hal A ht
def own_cd (b c : Int32) : Int32 := if b = (0 : Int32) then 0 else if (255 : Int32) < c then 1 else 0
def own_bn (b c : Int32) : Int32 := if b = (0 : Int32) then 0 else if (255 : Int32) < c then 2 else 1
def own_bs (b c : Int32) : List Value := if b = (0 : Int32) then [] else if (255 : Int32) < c then [(.int (nar .byte ((c >>> ((0 : Int32) &&& 31)).toInt8.toInt32))), (.int (nar .byte ((c >>> ((8 : Int32) &&& 31)).toInt8.toInt32)))] else [(.int (nar .byte (c.toInt8.toInt32)))]
theorem own_10 : ¬ ((1 : Int32) = (0 : Int32)) := by decide
theorem own_cd0 (c : Int32) : own_cd (0 : Int32) c = (0 : Int32) := if_pos rfl
theorem own_bn0 (c : Int32) : own_bn (0 : Int32) c = (0 : Int32) := if_pos rfl
theorem own_bs0 (c : Int32) : own_bs (0 : Int32) c = [] := if_pos rfl
abbrev own_01 (b : Int32) : Prop := b = (0 : Int32) ∨ b = (1 : Int32)
def own_at (i a b : Int32) : Int32 := if i = (0 : Int32) then a else b
def own_tx (b c d : Int32) : Prop := b = (0 : Int32) ∨ c = d
def own_we (w : Int32) : Int32 := if w < (0 : Int32) then (w ^^^ (-1 : Int32)) else w
def own_chr (x : Int32) : Prop := nar .char x = x
def own_e2 (c : Int32) : Int32 := if (255 : Int32) < c then 0 else 1
theorem own_e2t {c : Int32} (h : own_e2 c = (0 : Int32)) : (255 : Int32) < c := by
  by_cases q : (255 : Int32) < c
  · exact q
  · rw [own_e2, if_neg q] at h; exact absurd h own_10
theorem own_e2f {c : Int32} (h : ¬ (own_e2 c = (0 : Int32))) : ¬ ((255 : Int32) < c) := fun q => h (by rw [own_e2, if_pos q])
theorem own_charc (x : Int32) : nar .char (x.toUInt32.toUInt16.toUInt32.toInt32) = x.toUInt32.toUInt16.toUInt32.toInt32 := by
  show (x.toUInt32.toUInt16.toUInt32.toInt32).toUInt32.toUInt16.toUInt32.toInt32 = _
  rw [UInt32.toUInt32_toInt32, UInt16.toUInt16_toUInt32]
theorem own_nn (z : Int32) : own_chr (nar .char z) := own_charc z
theorem own_cc {x c : Int32} (h : c = (x.toUInt32.toUInt16.toUInt32.toInt32)) : nar .char c = c := by rw [h]; exact own_charc x
theorem own_chr0 : own_chr (0 : Int32) := by unfold own_chr; decide
theorem own_at0 (a b : Int32) : own_at (0 : Int32) a b = a := if_pos rfl
theorem own_at1 (a b : Int32) : own_at (1 : Int32) a b = b := if_neg own_10
def own_cmp (x : Int32) : Int32 := if (255 : Int32) < x then 0 else 1
def own_c1 (x : Int32) : List Value := if (255 : Int32) < x then [(.int (0 : Int32))] else [(.int (nar .byte (x.toInt8.toInt32)))]
theorem own_cmpt {c : Int32} (h : own_cmp c = (1 : Int32)) : ¬ ((255 : Int32) < c) := fun q => by
  rw [own_cmp, if_pos q] at h; exact own_10 h.symm
theorem own_cmpf {c : Int32} (h : ¬ (own_cmp c = (1 : Int32))) : (255 : Int32) < c := by
  by_cases q : (255 : Int32) < c
  · exact q
  · exact absurd (by rw [own_cmp, if_neg q]) h
def own_cfa (n : Int32) : Int32 := nar .byte (((((1 : Int32) - n).toUInt32 >>> ((31 : Int32) &&& 31).toUInt32).toInt32).toInt8.toInt32)
theorem own_cfae (x : Int32) : nar .byte (own_cfa (own_bn (1 : Int32) x)) = own_cd (1 : Int32) x := by
  unfold own_bn own_cd
  rw [if_neg own_10, if_neg own_10]
  by_cases h : (255 : Int32) < x
  · rw [if_pos h, if_pos h]; decide
  · rw [if_neg h, if_neg h]; decide
theorem own_lo (y : Int32) : (y.toInt8.toInt32 &&& (255 : Int32)).toBitVec = BitVec.setWidth 32 (BitVec.setWidth 8 y.toBitVec) := by
  rw [Int32.toBitVec_and, Int8.toBitVec_toInt32, Int32.toBitVec_toInt8, show (255 : Int32).toBitVec = 255#32 from rfl]
  generalize y.toBitVec = b
  ext i hi
  simp only [BitVec.getElem_and, BitVec.getElem_signExtend, BitVec.getElem_setWidth, BitVec.getLsbD_setWidth]
  have : (255#32)[i] = decide (i < 8) := by
    revert i; decide
  rw [this]
  by_cases h : i < 8
  · simp [h, hi, BitVec.getLsbD_eq_getElem hi]
  · simp [h]
theorem own_gcb (x : Int32) : ((((x.toInt8.toInt32) &&& (255 : Int32))) ||| ((((x >>> (8 : Int32)).toInt8.toInt32) &&& (255 : Int32)) <<< (8 : Int32))).toUInt32.toUInt16 = x.toUInt32.toUInt16 := by
  apply UInt16.toBitVec_inj.mp
  show BitVec.setWidth 16 ((((x.toInt8.toInt32) &&& (255 : Int32)).toBitVec) ||| ((((x >>> (8 : Int32)).toInt8.toInt32) &&& (255 : Int32)) <<< (8 : Int32)).toBitVec) = BitVec.setWidth 16 x.toBitVec
  have hl : ∀ y : Int32, (y <<< (8 : Int32)).toBitVec = y.toBitVec <<< 8 := fun y => by
    show y.toBitVec <<< ((8 : Int32).toBitVec.smod 32#32) = _; rfl
  have hr : (x >>> (8 : Int32)).toBitVec = x.toBitVec.sshiftRight 8 := by
    show x.toBitVec.sshiftRight' ((8 : Int32).toBitVec.smod 32#32) = _; rfl
  rw [hl, own_lo, own_lo, hr]
  generalize x.toBitVec = b
  ext i hi
  simp only [BitVec.getElem_setWidth, BitVec.getLsbD_or, BitVec.getLsbD_setWidth, BitVec.getLsbD_shiftLeft, BitVec.getLsbD_sshiftRight]
  by_cases h : i < 8
  · simp [h, show i < 32 by omega]
  · simp [h, show i < 32 by omega, show i - 8 < 32 by omega, show i - 8 < 8 by omega, show 8 + (i - 8) = i by omega]
def own_gcx (x : Int32) : Int32 := nar .char (((((nar .byte ((x >>> ((0 : Int32) &&& 31)).toInt8.toInt32)) &&& (255 : Int32)) <<< ((0 : Int32) &&& 31)) ||| (((nar .byte ((x >>> ((8 : Int32) &&& 31)).toInt8.toInt32)) &&& (255 : Int32)) <<< ((8 : Int32) &&& 31))).toUInt32.toUInt16.toUInt32.toInt32)
theorem own_gc {x : Int32} (h : own_chr x) : own_gcx x = x := by
  have e0 : ((0 : Int32) &&& 31) = 0 := by decide
  have e8 : ((8 : Int32) &&& 31) = 8 := by decide
  have s0 : ∀ y : Int32, y >>> (0 : Int32) = y := fun y => by apply Int32.toBitVec_inj.mp; show BitVec.sshiftRight' _ _ = _; simp
  have l0 : ∀ y : Int32, y <<< (0 : Int32) = y := fun y => by apply Int32.toBitVec_inj.mp; show y.toBitVec <<< _ = _; simp
  have nb : ∀ y : Int32, nar .byte (y.toInt8.toInt32) = y.toInt8.toInt32 := fun y => by show (y.toInt8.toInt32).toInt8.toInt32 = _; rw [Int8.toInt8_toInt32]
  unfold own_gcx
  rw [own_charc, e0, e8, s0, l0, nb, nb, own_gcb]
  exact h
theorem own_gcl {x : Int32} (h : own_chr x) (q : (255 : Int32) < x) : (255 : Int32) < own_gcx x := by rw [own_gc h]; exact q
theorem own_rc1 {a b : Int32} (h : own_01 a) (q : own_01 b) : ¬ ((((16 : Int32) ||| a) ||| b) < (0 : Int32)) := by
  rcases h with rfl | rfl <;> rcases q with rfl | rfl <;> decide
theorem own_rc2 {a b : Int32} (h : own_01 a) (q : own_01 b) : ¬ (((16 : Int32) - a) < b) := by
  rcases h with rfl | rfl <;> rcases q with rfl | rfl <;> decide
theorem own_sub (a b : Int32) : b = ((a + b) - a) := by
  rw [Int32.add_comm, Int32.add_sub_cancel]
theorem own_sub0 (a : Int32) : a = (a - (0 : Int32)) := (Int32.sub_zero a).symm
def own_bit (p k : Int32) : Int32 := if (p &&& k) = (0 : Int32) then 0 else 1
theorem own_bit1 {p k : Int32} (h : ¬ (own_bit p k = (0 : Int32))) : own_bit p k = (1 : Int32) := by
  unfold own_bit at h ⊢
  by_cases q : (p &&& k) = (0 : Int32)
  · rw [if_pos q] at h; exact absurd rfl h
  · rw [if_neg q]
theorem own_safe_null {Z : State} {EL : List (String × Nat)} {vm : Vm} {h : Heap} {x : Addr} (hal : Z.vm.Alike vm) (E : Exa Z h x "java/lang/String") (F : Fld Z h x "java/lang/String" "value" "[B" .null) : Safe Z EL vm h x := fun B => by
  obtain ⟨cell, k, e1, e2, e3, -, -⟩ := E
  obtain ⟨p, -, u, a, -, q, -, G, rfl | rfl⟩ := B
  · obtain ⟨cS, ⟨⟨s1, s2, s3, ⟨cv, kv, iv, s4, s4'⟩, -, s6, -, s8, -⟩, -, -⟩, -⟩ := G
    obtain ⟨kv', z4⟩ := ff_back (U := Wst Z vm h) hal s4
    have G' : Fld Z h q.sa "java/lang/String" "value" "[B" (.ref q.sd) := ⟨q.sC, cv, kv', iv, q.fSV, s1, z4, s6, s2, s3, by rw [← hal.assignable]; exact s4', s8⟩
    exact Fld.ne F G' (by simp) rfl
  · cases (show h[q.sd]? = some q.SA from G.hd).symm.trans e1
    obtain ⟨cS, -, -, f, -⟩ := G
    have f : vm.findClass "[B" = some q.SA.cls := f
    rw [hal.findClass] at f
    obtain ⟨k1, q1, q2⟩ := Vm.findClass_spec f
    obtain ⟨k2, q3, q4⟩ := Vm.findClass_spec e2
    cases q1.symm.trans q3
    exact absurd (q2.symm.trans q4) (by decide)
theorem own_bit01 (p k : Int32) : own_01 (own_bit p k) := by
  unfold own_bit; split
  · exact Or.inl rfl
  · exact Or.inr rfl
abbrev own_sg (v w : Int32) : Prop := (v = (0 : Int32) → ¬ (w < (0 : Int32))) ∧ (¬ (v = (0 : Int32)) → w < (0 : Int32))
theorem own_wx0 {v u : Int32} (h : own_01 v) (q : u = (0 : Int32)) : own_we (v ^^^ (-1 : Int32)) = (v + u) := by
  subst q; rcases h with rfl | rfl <;> decide
theorem own_wx1 {v u : Int32} (h : own_01 v) (q : u = (1 : Int32)) : own_we ((v + (1 : Int32)) ^^^ (-1 : Int32)) = (v + u) := by
  subst q; rcases h with rfl | rfl <;> decide
theorem own_wl0 {v : Int32} (h : own_01 v) : (v ^^^ (-1 : Int32)) < (0 : Int32) := by rcases h with rfl | rfl <;> decide
theorem own_wl1 {v : Int32} (h : own_01 v) : ((v + (1 : Int32)) ^^^ (-1 : Int32)) < (0 : Int32) := by rcases h with rfl | rfl <;> decide
theorem own_chat {i a b : Int32} (h : own_chr a) (q : own_chr b) : own_chr (own_at i a b) := by
  unfold own_at; split
  · exact h
  · exact q
theorem own_txa {v x y c : Int32} (h : own_01 v) (q : own_tx v x c) : own_tx v (own_at v y x) c := by
  rcases h with rfl | rfl
  · exact Or.inl rfl
  · rw [own_at1]; exact q
theorem own_txb {v x y c : Int32} (h : own_01 v) (q : own_chr c) : own_at v (own_at v (nar .char c) x) (own_at v y (nar .char c)) = c := by
  rcases h with rfl | rfl
  · rw [own_at0, own_at0]; exact q
  · rw [own_at1, own_at1]; exact q
theorem own_cat {v : Value} (h : v.isRef = true) : v.category = 1 := by cases v <;> first | rfl | cases h
theorem pd_0 : parseMethodDescriptor "(C)Z" = some ⟨[.char], some .boolean⟩ := by decide +kernel
theorem pd_1 : parseMethodDescriptor "([BII)V" = some ⟨[(.array .byte), .int, .int], none⟩ := by decide +kernel
theorem pd_2 : parseMethodDescriptor "(C)[B" = some ⟨[.char], some (.array .byte)⟩ := by decide +kernel
theorem pd_3 : parseMethodDescriptor "([BB)V" = some ⟨[(.array .byte), .byte], none⟩ := by decide +kernel
theorem pd_4 : parseMethodDescriptor "(I)I" = some ⟨[.int], some .int⟩ := by decide +kernel
theorem pd_5 : parseMethodDescriptor "([CI[BII)I" = some ⟨[(.array .char), .int, (.array .byte), .int, .int], some .int⟩ := by decide +kernel
theorem pd_6 : parseMethodDescriptor "(I)[B" = some ⟨[.int], some (.array .byte)⟩ := by decide +kernel
theorem pd_7 : parseMethodDescriptor "([CII)[B" = some ⟨[(.array .char), .int, .int], some (.array .byte)⟩ := by decide +kernel
theorem pd_8 : parseMethodDescriptor "([BI)C" = some ⟨[(.array .byte), .int], some .char⟩ := by decide +kernel
theorem pd_9 : parseMethodDescriptor "(IIILjava/util/function/BiFunction;)I" = some ⟨[.int, .int, .int, (.object "java/util/function/BiFunction")], some .int⟩ := by decide +kernel
theorem pd_10 : parseMethodDescriptor "(III)I" = some ⟨[.int, .int, .int], some .int⟩ := by decide +kernel
theorem pd_11 : parseMethodDescriptor "([BI)B" = some ⟨[(.array .byte), .int], some .byte⟩ := by decide +kernel
theorem pd_12 : parseMethodDescriptor "([CII)Ljava/lang/Void;" = some ⟨[(.array .char), .int, .int], some (.object "java/lang/Void")⟩ := by decide +kernel
theorem pd_13 : parseMethodDescriptor "([CIILjava/lang/Void;)V" = some ⟨[(.array .char), .int, .int, (.object "java/lang/Void")], none⟩ := by decide +kernel
theorem pd_14 : parseMethodDescriptor "()V" = some ⟨[], none⟩ := by decide +kernel
theorem pd_15 : parseMethodDescriptor "()I" = some ⟨[], some .int⟩ := by decide +kernel
theorem pd_16 : parseMethodDescriptor "(IILjava/util/function/BiFunction;)I" = some ⟨[.int, .int, (.object "java/util/function/BiFunction")], some .int⟩ := by decide +kernel
theorem pd_17 : parseMethodDescriptor "(II)I" = some ⟨[.int, .int], some .int⟩ := by decide +kernel
theorem pd_18 : parseMethodDescriptor "([CII)V" = some ⟨[(.array .char), .int, .int], none⟩ := by decide +kernel
theorem pd_19 : parseMethodDescriptor "([B[B)Z" = some ⟨[(.array .byte), (.array .byte)], some .boolean⟩ := by decide +kernel
theorem pd_20 : parseMethodDescriptor "(Lcom/example/rouse/rouse/shell/CommandLine;)V" = some ⟨[(.object "com/example/rouse/rouse/shell/CommandLine")], none⟩ := by decide +kernel
theorem pd_21 : parseMethodDescriptor "()Ljava/util/Iterator;" = some ⟨[], some (.object "java/util/Iterator")⟩ := by decide +kernel
theorem pd_22 : parseMethodDescriptor "()Z" = some ⟨[], some .boolean⟩ := by decide +kernel
theorem pd_23 : parseMethodDescriptor "(Lcom/example/rouse/rouse/shell/CommandLine;II)V" = some ⟨[(.object "com/example/rouse/rouse/shell/CommandLine"), .int, .int], none⟩ := by decide +kernel
theorem pd_24 : parseMethodDescriptor "()Lcom/example/rouse/rouse/shell/CommandLine$Words;" = some ⟨[], some (.object "com/example/rouse/rouse/shell/CommandLine$Words")⟩ := by decide +kernel
theorem pd_25 : parseMethodDescriptor "()Ljava/lang/Object;" = some ⟨[], some (.object "java/lang/Object")⟩ := by decide +kernel
theorem pd_26 : parseMethodDescriptor "(I)Ljava/lang/String;" = some ⟨[.int], some (.object "java/lang/String")⟩ := by decide +kernel
theorem pd_27 : parseMethodDescriptor "(Ljava/lang/Object;)Z" = some ⟨[(.object "java/lang/Object")], some .boolean⟩ := by decide +kernel
theorem pd_28 : parseMethodDescriptor "(C)V" = some ⟨[.char], none⟩ := by decide +kernel
theorem pd_29 : parseMethodDescriptor "(II)V" = some ⟨[.int, .int], none⟩ := by decide +kernel
theorem pd_30 : parseMethodDescriptor "(C)Ljava/lang/String;" = some ⟨[.char], some (.object "java/lang/String")⟩ := by decide +kernel
theorem d28_0 : decode jdk_43_method_3_code 0 = .ok (.iload_n 0, 1) := by decide +kernel
theorem d28_1 : decode jdk_43_method_3_code 1 = .ok (.sipush 255, 3) := by decide +kernel
theorem d28_4 : decode jdk_43_method_3_code 4 = .ok (.if_icmp .gt 7, 3) := by decide +kernel
theorem d28_11 : decode jdk_43_method_3_code 11 = .ok (.iconst 0, 1) := by decide +kernel
theorem d28_12 : decode jdk_43_method_3_code 12 = .ok (.ireturn, 1) := by decide +kernel
theorem d28_7 : decode jdk_43_method_3_code 7 = .ok (.iconst 1, 1) := by decide +kernel
theorem d28_8 : decode jdk_43_method_3_code 8 = .ok (.goto 4, 3) := by decide +kernel
theorem pn_java_lang_StringLatin1 : plainName "java/lang/StringLatin1" = true := by first | (simp [plainName, overriddenIn]; done) | decide +kernel
theorem ef_28 (m : MethodId) (p1 : Int32) : entryFrame m #[(.int p1)] 1 = mkF m 0 #[.val (.int p1)] [] := by first | (simp [entryFrame, mkF, argsToLocals, Value.category]; done) | rfl
def Q28 (Z : State) (p1 : Int32) (h0 : Heap) (n0 : Nat) (v : Option Value) (h : Heap) (L : List Loc) : Prop := v = some (.int (own_e2 p1)) ∧ Fr n0 L ∧ h = h0
set_option maxRecDepth 65536 in
set_option maxHeartbeats 40000000 in
theorem rm28 (l : Launch) (Z : State) (a0 : Array Value) (hw : ∀ d ∈ tables_1, d.before a0 Z = true) (ws : List Jvm.Cond) (p1 : Int32) (h0 : Heap) (n0 : Nat) (Z0 : n0 ≤ h0.size) :
    own_MF l (⟨"java/lang/StringLatin1", "canEncode", "(C)Z"⟩ : MethodName) (Jvm.Cond.code (⟨"java/lang/StringLatin1", "canEncode", "(C)Z"⟩ : MethodName) jdk_43_method_3_code 1 (some .boolean) :: ws) ({ frames := 0, cells := 0, slots := 0, locals := 0 } : Room) #[(.int p1)] Z h0 (Q28 Z p1 h0 n0) := by
  refine MetFree.of_bodySF (plainFor_of_name pn_java_lang_StringLatin1) hisR ?_
  intro p e s m args below meth c s₁ Bd hml0 hP hK
  obtain ⟨rfl, hZ, hh⟩ := hP
  have hx := Bd.exec
  have hby := Bd.bytes
  have hml : c.maxLocals = 1 := hml0
  have hown : s.vm.findClass "java/lang/StringLatin1" = some m.cls := findClass_of_methodNamed Bd.named
  have hnm := (name_of_methodNamed Bd.named Bd.method).1
  have X0 : Stand p l e ({ frames := 0, cells := 0, slots := 0, locals := 0 } : Room) s m #[(.int p1)] below meth c s₁ [] 0 0 := Stand.of_body Bd
  have e0 : s₁.heap = h0 := by rw [← hh, Bd.state]; rfl
  have N0 := Fr.nil n0
  have pre0 : ∀ t, Steps p.tables e below (s₁.setTop (mkF m 0 #[.val (.int p1)] [])) t → Steps p.tables e below (s₁.setTop (entryFrame m #[(.int p1)] 1)) t := fun t k => castTop (ef_28 m p1) k
  have pre101 : ∀ t, Steps p.tables e below (s₁.setTop (mkF m 4 #[.val (.int p1)] [(.int (255 : Int32)), (.int p1)])) t → Steps p.tables e below (s₁.setTop (entryFrame m #[(.int p1)] 1)) t := fun t kt => by
    refine pre0 t ?_
    show Steps p.tables e below (s₁.setTop (mkF m 0 #[.val (.int p1)] [])) _
    refine XS.iloadN X0.here hx rfl (hb hby d28_0) rfl ?_
    refine XS.sipush X0.here hx rfl (hb hby d28_1) ?_
    show Steps p.tables e below (s₁.setTop (mkF m 4 #[.val (.int p1)] [(.int (255 : Int32)), (.int p1)])) _
    exact kt
  by_cases hc4_102 : (255 : Int32) < p1
  · skip
    obtain ⟨fs, hr, hrun, hended, hW, hsame⟩ := X0.leave (v := some (.int (0 : Int32))) (fun h => by rw [Bd.returns] at h; cases h)
    refine ⟨_, _, pre101 _ ?_, hrun, hended, _, _, rfl, ?_, ⟨_, rfl⟩, hW, hsame.mono (by decide) (by decide)⟩
    · skip
      show Steps p.tables e below (s₁.setTop (mkF m 4 #[.val (.int p1)] [(.int (255 : Int32)), (.int p1)])) _
      refine XS.icmpYes X0.here hx rfl (pc0 := 4) (pc' := 11) rfl (hb hby d28_4) rfl (tlt (hc4_102 : (255 : Int32) < p1)).2.2.1 (by decide) (by decide) ?_
      refine XS.iconst X0.here hx rfl (hb hby d28_11) ?_
      show Steps p.tables e below (s₁.setTop (mkF m 12 #[.val (.int p1)] [(.int (0 : Int32))])) _
      exact retN X0 hx (t := .boolean) Bd.returns (by simp) (hb hby d28_12) hr
    · show Q28 Z p1 h0 n0 _ s₁.heap _
      rw [e0]
      exact ⟨(by simp only [own_e2, eq_true hc4_102, if_true, if_false]), N0, rfl⟩
  · skip
    obtain ⟨fs, hr, hrun, hended, hW, hsame⟩ := X0.leave (v := some (.int (1 : Int32))) (fun h => by rw [Bd.returns] at h; cases h)
    refine ⟨_, _, pre101 _ ?_, hrun, hended, _, _, rfl, ?_, ⟨_, rfl⟩, hW, hsame.mono (by decide) (by decide)⟩
    · skip
      show Steps p.tables e below (s₁.setTop (mkF m 4 #[.val (.int p1)] [(.int (255 : Int32)), (.int p1)])) _
      refine XS.icmpNo X0.here hx rfl (hb hby d28_4) rfl (flt (hc4_102 : ¬ ((255 : Int32) < p1))).2.2.1 ?_
      refine XS.iconst X0.here hx rfl (hb hby d28_7) ?_
      refine XS.goto X0.here hx rfl (pc0 := 8) (pc' := 12) rfl (hb hby d28_8) (by decide) (by decide) ?_
      show Steps p.tables e below (s₁.setTop (mkF m 12 #[.val (.int p1)] [(.int (1 : Int32))])) _
      exact retN X0 hx (t := .boolean) Bd.returns (by simp) (hb hby d28_12) hr
    · show Q28 Z p1 h0 n0 _ s₁.heap _
      rw [e0]
      exact ⟨(by simp only [own_e2, eq_false hc4_102, if_true, if_false]), N0, rfl⟩
theorem d36_0 : decode jdk_52_method_4_code 0 = .ok (.getstatic 44, 3) := by decide +kernel
theorem d36_3 : decode jdk_52_method_4_code 3 = .ok (.ifCond .ne 25, 3) := by decide +kernel
theorem d36_28 : decode jdk_52_method_4_code 28 = .ok (.iload_n 1, 1) := by decide +kernel
theorem d36_29 : decode jdk_52_method_4_code 29 = .ok (.iconst 1, 1) := by decide +kernel
theorem d36_30 : decode jdk_52_method_4_code 30 = .ok (.ishl, 1) := by decide +kernel
theorem d36_31 : decode jdk_52_method_4_code 31 = .ok (.istore_n 1, 1) := by decide +kernel
theorem d36_32 : decode jdk_52_method_4_code 32 = .ok (.aload_n 0, 1) := by decide +kernel
theorem d36_33 : decode jdk_52_method_4_code 33 = .ok (.iload_n 1, 1) := by decide +kernel
theorem d36_34 : decode jdk_52_method_4_code 34 = .ok (.iinc 1 1, 3) := by decide +kernel
theorem d36_37 : decode jdk_52_method_4_code 37 = .ok (.iload_n 2, 1) := by decide +kernel
theorem d36_38 : decode jdk_52_method_4_code 38 = .ok (.getstatic 59, 3) := by decide +kernel
theorem d36_41 : decode jdk_52_method_4_code 41 = .ok (.ishr, 1) := by decide +kernel
theorem d36_42 : decode jdk_52_method_4_code 42 = .ok (.i2b, 1) := by decide +kernel
theorem d36_43 : decode jdk_52_method_4_code 43 = .ok (.bastore, 1) := by decide +kernel
theorem d36_44 : decode jdk_52_method_4_code 44 = .ok (.aload_n 0, 1) := by decide +kernel
theorem d36_45 : decode jdk_52_method_4_code 45 = .ok (.iload_n 1, 1) := by decide +kernel
theorem d36_46 : decode jdk_52_method_4_code 46 = .ok (.iload_n 2, 1) := by decide +kernel
theorem d36_47 : decode jdk_52_method_4_code 47 = .ok (.getstatic 63, 3) := by decide +kernel
theorem d36_50 : decode jdk_52_method_4_code 50 = .ok (.ishr, 1) := by decide +kernel
theorem d36_51 : decode jdk_52_method_4_code 51 = .ok (.i2b, 1) := by decide +kernel
theorem d36_52 : decode jdk_52_method_4_code 52 = .ok (.bastore, 1) := by decide +kernel
theorem d36_53 : decode jdk_52_method_4_code 53 = .ok (.return_, 1) := by decide +kernel
theorem pn_java_lang_StringUTF16 : plainName "java/lang/StringUTF16" = true := by first | (simp [plainName, overriddenIn]; done) | decide +kernel
theorem ef_36x2 (m : MethodId) (ra0 : Addr) (pi2 : Int32) : entryFrame m #[(.ref ra0), (.int (0 : Int32)), (.int pi2)] 3 = mkF m 0 #[.val (.ref ra0), .val (.int (0 : Int32)), .val (.int pi2)] [] := by first | (simp [entryFrame, mkF, argsToLocals, Value.category]; done) | rfl
def Q36x2 (Z : State) (ra0 : Addr) (pi2 : Int32) (uk1 : ClassId) (h0 : Heap) (n0 : Nat) (v : Option Value) (h : Heap) (L : List Loc) : Prop := v = none ∧ Fr n0 L ∧ Keep h0 h [ra0] ∧ Arv Z h ra0 uk1 .byte (2 : Int32) [(.int (nar .byte ((pi2 >>> ((0 : Int32) &&& 31)).toInt8.toInt32))), (.int (nar .byte ((pi2 >>> ((8 : Int32) &&& 31)).toInt8.toInt32)))] (.int (0 : Int32))
set_option maxRecDepth 65536 in
set_option maxHeartbeats 40000000 in
theorem rm36x2 (l : Launch) (Z : State) (a0 : Array Value) (hw : ∀ d ∈ tables_1, d.before a0 Z = true) (ws : List Jvm.Cond) (ra0 : Addr) (pi2 : Int32) (uk1 : ClassId) (h0 : Heap) (n0 : Nat) (Z0 : n0 ≤ h0.size) (H0 : Sta Z h0 "java/lang/StringUTF16" "$assertionsDisabled" "Z" (.int (1 : Int32))) (H1 : Sta Z h0 "java/lang/StringUTF16" "HI_BYTE_SHIFT" "I" (.int (0 : Int32))) (H2 : Arv Z h0 ra0 uk1 .byte (2 : Int32) [(.int (0 : Int32)), (.int (0 : Int32))] (.int (0 : Int32))) (H3 : n0 ≤ ra0) (H4 : Sta Z h0 "java/lang/StringUTF16" "LO_BYTE_SHIFT" "I" (.int (8 : Int32))) (H5 : Exa Z h0 ra0 "[B") :
    own_MF l (⟨"java/lang/StringUTF16", "putChar", "([BII)V"⟩ : MethodName) (Jvm.Cond.code (⟨"java/lang/StringUTF16", "putChar", "([BII)V"⟩ : MethodName) jdk_52_method_4_code 3 none :: ws) ({ frames := 0, cells := 0, slots := 0, locals := 0 } : Room) #[(.ref ra0), (.int (0 : Int32)), (.int pi2)] Z h0 (Q36x2 Z ra0 pi2 uk1 h0 n0) := by
  refine MetFree.of_bodySF (plainFor_of_name pn_java_lang_StringUTF16) hisR ?_
  intro p e s m args below meth c s₁ Bd hml0 hP hK
  obtain ⟨rfl, hZ, hh⟩ := hP
  have hx := Bd.exec
  have hby := Bd.bytes
  have hml : c.maxLocals = 3 := hml0
  have hown : s.vm.findClass "java/lang/StringUTF16" = some m.cls := findClass_of_methodNamed Bd.named
  have hnm := (name_of_methodNamed Bd.named Bd.method).1
  have X0 : Stand p l e ({ frames := 0, cells := 0, slots := 0, locals := 0 } : Room) s m #[(.ref ra0), (.int (0 : Int32)), (.int pi2)] below meth c s₁ [] 0 0 := Stand.of_body Bd
  have e0 : s₁.heap = h0 := by rw [← hh, Bd.state]; rfl
  have N0 := Fr.nil n0
  have pre0 : ∀ t, Steps p.tables e below (s₁.setTop (mkF m 0 #[.val (.ref ra0), .val (.int (0 : Int32)), .val (.int pi2)] [])) t → Steps p.tables e below (s₁.setTop (entryFrame m #[(.ref ra0), (.int (0 : Int32)), (.int pi2)] 3)) t := fun t k => castTop (ef_36x2 m ra0 pi2) k
  obtain ⟨T101, X101, e101, st101⟩ := getS2 X0 hx hZ hown (host := "") (Or.inl (own_w hw 215 rfl)) Via.refl e0 H0 (g := (mkF m 0 #[.val (.ref ra0), .val (.int (0 : Int32)), .val (.int pi2)] [])) rfl (hb hby d36_0)
  obtain ⟨T102, X102, e102, st102⟩ := getS2 X101 hx hZ hown (host := "") (Or.inl (own_w hw 216 rfl)) Via.refl e101 H1 (g := (mkF m 38 #[.val (.ref ra0), .val (.int (1 : Int32)), .val (.int pi2)] [(.int pi2), (.int (0 : Int32)), (.ref ra0)])) rfl (hb hby d36_38)
  obtain ⟨cl103, Ar103, qc103, S103, M103, Hh103, G103⟩ := id H2
  have hin103 : ¬ ((0 : Int32) < 0 ∨ cl103.slots.size ≤ ((0 : Int32)).toNatClampNeg) := inb_of S103 ⟨by decide, by decide⟩
  obtain ⟨T103, h103, X103, e103, W103, st103⟩ := stB X102 hx hZ e102 Ar103 (j := (0 : Int32)) hin103 (g := (mkF m 43 #[.val (.ref ra0), .val (.int (1 : Int32)), .val (.int pi2)] [(.int ((pi2 >>> ((0 : Int32) &&& 31)).toInt8.toInt32)), (.int (0 : Int32)), (.ref ra0)])) rfl rfl (hb hby d36_43)
  have V103 : Arv Z h103 ra0 uk1 .byte (2 : Int32) [(.int (nar .byte ((pi2 >>> ((0 : Int32) &&& 31)).toInt8.toInt32))), (.int (0 : Int32))] (.int (0 : Int32)) := Arv.set Ar103 qc103 S103 M103 Hh103 G103 (fits_nar_byte _) W103 0 rfl (by first | decide | (simp; done))
  have N103 := Fr.snoc X103 N0 H3
  have f104 := (H4.wr W103)
  obtain ⟨T105, X105, e105, st105⟩ := getS2 X103 hx hZ hown (host := "") (Or.inl (own_w hw 217 rfl)) Via.refl e103 f104 (g := (mkF m 47 #[.val (.ref ra0), .val (.int (1 : Int32)), .val (.int pi2)] [(.int pi2), (.int (1 : Int32)), (.ref ra0)])) rfl (hb hby d36_47)
  obtain ⟨cl106, Ar106, qc106, S106, M106, Hh106, G106⟩ := id V103
  have hin106 : ¬ ((1 : Int32) < 0 ∨ cl106.slots.size ≤ ((1 : Int32)).toNatClampNeg) := inb_of S106 ⟨by decide, by decide⟩
  obtain ⟨T106, h106, X106, e106, W106, st106⟩ := stB X105 hx hZ e105 Ar106 (j := (1 : Int32)) hin106 (g := (mkF m 52 #[.val (.ref ra0), .val (.int (1 : Int32)), .val (.int pi2)] [(.int ((pi2 >>> ((8 : Int32) &&& 31)).toInt8.toInt32)), (.int (1 : Int32)), (.ref ra0)])) rfl rfl (hb hby d36_52)
  have V106 : Arv Z h106 ra0 uk1 .byte (2 : Int32) [(.int (nar .byte ((pi2 >>> ((0 : Int32) &&& 31)).toInt8.toInt32))), (.int (nar .byte ((pi2 >>> ((8 : Int32) &&& 31)).toInt8.toInt32)))] (.int (0 : Int32)) := Arv.set Ar106 qc106 S106 M106 Hh106 G106 (fits_nar_byte _) W106 1 rfl (by first | decide | (simp; done))
  have N106 := Fr.snoc X106 N103 H3
  obtain ⟨fs, hr, hrun, hended, hW, hsame⟩ := X106.leave (v := none) (fun _ => rfl)
  refine ⟨_, _, pre0 _ ?_, hrun, hended, _, _, rfl, ?_, ⟨_, rfl⟩, hW, hsame.mono (by decide) (by decide)⟩
  · skip
    show Steps p.tables e below (s₁.setTop (mkF m 0 #[.val (.ref ra0), .val (.int (0 : Int32)), .val (.int pi2)] [])) _
    refine st101 _ ?_
    refine XS.ifYes X101.here hx rfl (pc0 := 3) (pc' := 28) rfl (hb hby d36_3) rfl ((if0 _ _).trans (feq (by decide : ¬ ((1 : Int32) = (0 : Int32)))).2) (by decide) (by decide) ?_
    refine XS.iloadN X101.here hx rfl (hb hby d36_28) rfl ?_
    refine XS.iconst X101.here hx rfl (hb hby d36_29) ?_
    refine XS.ishl X101.here hx rfl (hb hby d36_30) rfl ?_
    show Steps p.tables e below (T101.setTop (mkF m 31 #[.val (.ref ra0), .val (.int (0 : Int32)), .val (.int pi2)] [(.int ((0 : Int32) <<< ((1 : Int32) &&& 31)))])) _
    rw [show ((0 : Int32) <<< ((1 : Int32) &&& 31)) = (0 : Int32) from by decide]
    show Steps p.tables e below (T101.setTop (mkF m 31 #[.val (.ref ra0), .val (.int (0 : Int32)), .val (.int pi2)] [(.int (0 : Int32))])) _
    refine XS.istoreN X101.here hx rfl (hb hby d36_31) rfl (l' := #[.val (.ref ra0), .val (.int (0 : Int32)), .val (.int pi2)]) rfl ?_
    refine XS.aloadN X101.here hx rfl (hb hby d36_32) rfl rfl ?_
    refine XS.iloadN X101.here hx rfl (hb hby d36_33) rfl ?_
    show Steps p.tables e below (T101.setTop (mkF m 34 #[.val (.ref ra0), .val (.int (0 : Int32)), .val (.int pi2)] [(.int (0 : Int32)), (.ref ra0)])) _
    refine XS.iinc X101.here hx rfl (hb hby d36_34) rfl (l' := #[.val (.ref ra0), .val (.int ((0 : Int32) + (1 : Int32))), .val (.int pi2)]) rfl ?_
    show Steps p.tables e below (T101.setTop (mkF m 37 #[.val (.ref ra0), .val (.int ((0 : Int32) + (1 : Int32))), .val (.int pi2)] [(.int (0 : Int32)), (.ref ra0)])) _
    rw [show ((0 : Int32) + (1 : Int32)) = (1 : Int32) from by decide]
    show Steps p.tables e below (T101.setTop (mkF m 37 #[.val (.ref ra0), .val (.int (1 : Int32)), .val (.int pi2)] [(.int (0 : Int32)), (.ref ra0)])) _
    refine XS.iloadN X101.here hx rfl (hb hby d36_37) rfl ?_
    refine st102 _ ?_
    refine XS.ishr X102.here hx rfl (hb hby d36_41) rfl ?_
    refine XS.i2b X102.here hx rfl (hb hby d36_42) rfl ?_
    refine st103 _ ?_
    refine XS.aloadN X103.here hx rfl (hb hby d36_44) rfl rfl ?_
    refine XS.iloadN X103.here hx rfl (hb hby d36_45) rfl ?_
    refine XS.iloadN X103.here hx rfl (hb hby d36_46) rfl ?_
    refine st105 _ ?_
    refine XS.ishr X105.here hx rfl (hb hby d36_50) rfl ?_
    refine XS.i2b X105.here hx rfl (hb hby d36_51) rfl ?_
    refine st106 _ ?_
    show Steps p.tables e below (T106.setTop (mkF m 53 #[.val (.ref ra0), .val (.int (1 : Int32)), .val (.int pi2)] [])) _
    exact X106.returnOut hx Bd.returns (hb hby d36_53) hr
  · show Q36x2 Z ra0 pi2 uk1 h0 n0 _ T106.heap _
    rw [e106]
    exact ⟨rfl, N106, (((Keep.refl h0 [ra0]).wr W103 (Or.inl (List.mem_of_getElem? (i := 0) rfl))).wr W106 (Or.inl (List.mem_of_getElem? (i := 0) rfl))), V106⟩
theorem d35_0 : decode jdk_52_method_24_code 0 = .ok (.iconst 2, 1) := by decide +kernel
theorem d35_1 : decode jdk_52_method_24_code 1 = .ok (.newarray .byte, 2) := by decide +kernel
theorem d35_3 : decode jdk_52_method_24_code 3 = .ok (.astore_n 1, 1) := by decide +kernel
theorem d35_4 : decode jdk_52_method_24_code 4 = .ok (.aload_n 1, 1) := by decide +kernel
theorem d35_5 : decode jdk_52_method_24_code 5 = .ok (.iconst 0, 1) := by decide +kernel
theorem d35_6 : decode jdk_52_method_24_code 6 = .ok (.iload_n 0, 1) := by decide +kernel
theorem d35_7 : decode jdk_52_method_24_code 7 = .ok (.invokestatic 111, 3) := by decide +kernel
theorem d35_10 : decode jdk_52_method_24_code 10 = .ok (.aload_n 1, 1) := by decide +kernel
theorem d35_11 : decode jdk_52_method_24_code 11 = .ok (.areturn, 1) := by decide +kernel
theorem ef_35x1 (m : MethodId) (pi0 : Int32) : entryFrame m #[(.int pi0)] 2 = mkF m 0 #[.val (.int pi0), .unset] [] := by first | (simp [entryFrame, mkF, argsToLocals, Value.category]; done) | rfl
def Q35x1 (Z : State) (pi0 : Int32) (h0 : Heap) (n0 : Nat) (v : Option Value) (h : Heap) (L : List Loc) : Prop := ∃ (b101 : Addr) (k101 : ClassId), v = some (.ref b101) ∧ Fr n0 L ∧ Keep h0 h [] ∧ h0.size ≤ b101 ∧ Exa Z h b101 "[B" ∧ Arv Z h b101 k101 .byte (2 : Int32) [(.int (nar .byte ((pi0 >>> ((0 : Int32) &&& 31)).toInt8.toInt32))), (.int (nar .byte ((pi0 >>> ((8 : Int32) &&& 31)).toInt8.toInt32)))] (.int (0 : Int32))
set_option maxRecDepth 65536 in
set_option maxHeartbeats 40000000 in
theorem rm35x1 (l : Launch) (Z : State) (a0 : Array Value) (hw : ∀ d ∈ tables_1, d.before a0 Z = true) (ws : List Jvm.Cond) (pi0 : Int32) (h0 : Heap) (n0 : Nat) (Z0 : n0 ≤ h0.size) (H0 : Sta Z h0 "java/lang/StringUTF16" "$assertionsDisabled" "Z" (.int (1 : Int32))) (H1 : Sta Z h0 "java/lang/StringUTF16" "HI_BYTE_SHIFT" "I" (.int (0 : Int32))) (H2 : Sta Z h0 "java/lang/StringUTF16" "LO_BYTE_SHIFT" "I" (.int (8 : Int32))) :
    own_MF l (⟨"java/lang/StringUTF16", "toBytes", "(C)[B"⟩ : MethodName) (Jvm.Cond.code (⟨"java/lang/StringUTF16", "toBytes", "(C)[B"⟩ : MethodName) jdk_52_method_24_code 2 (some (.array .byte)) :: ws) ({ frames := 1, cells := 1, slots := 2, locals := 14 } : Room) #[(.int pi0)] Z h0 (Q35x1 Z pi0 h0 n0) := by
  refine MetFree.of_bodySF (plainFor_of_name pn_java_lang_StringUTF16) hisR ?_
  intro p e s m args below meth c s₁ Bd hml0 hP hK
  obtain ⟨rfl, hZ, hh⟩ := hP
  have hx := Bd.exec
  have hby := Bd.bytes
  have hml : c.maxLocals = 2 := hml0
  have hown : s.vm.findClass "java/lang/StringUTF16" = some m.cls := findClass_of_methodNamed Bd.named
  have hnm := (name_of_methodNamed Bd.named Bd.method).1
  have X0 : Stand p l e ({ frames := 1, cells := 1, slots := 2, locals := 14 } : Room) s m #[(.int pi0)] below meth c s₁ [] 0 0 := Stand.of_body Bd
  have e0 : s₁.heap = h0 := by rw [← hh, Bd.state]; rfl
  have N0 := Fr.nil n0
  have pre0 : ∀ t, Steps p.tables e below (s₁.setTop (mkF m 0 #[.val (.int pi0), .unset] [])) t → Steps p.tables e below (s₁.setTop (entryFrame m #[(.int pi0)] 2)) t := fun t k => castTop (ef_35x1 m pi0) k
  obtain ⟨T101, h101, k101, X101, e101, E101, A101, Qe101, st101⟩ := newPE X0 hx hZ (own_w hw 4 rfl) e0 (g := (mkF m 1 #[.val (.int pi0), .unset] [(.int (2 : Int32))])) rfl (hb hby d35_1) rfl (by decide) (cap := 2) (by decide) (by decide) (by decide) (by decide) (ad := "[B") (by decide)
  obtain ⟨b101, g101⟩ : ∃ z, z = h0.size := ⟨_, rfl⟩
  rw [← g101] at A101 Qe101 st101
  have V101 : Arv Z h101 b101 k101 .byte (2 : Int32) [(.int (0 : Int32)), (.int (0 : Int32))] (.int (0 : Int32)) := (Arv.new A101 (by decide)).pad (pad_rep [] (.int (0 : Int32)) 2)
  have g102 : n0 ≤ b101 := Nat.le_trans Z0 (Nat.le_of_eq g101.symm)
  have f103 := (H0.ext E101)
  have f104 := (H1.ext E101)
  have f105 := (H2.ext E101)
  have z107 : n0 ≤ h101.size := (Nat.le_trans Z0 E101.1)
  obtain ⟨_, _, ⟨T106, L106, k106, n106⟩, -, X106, ⟨Lc106, hQ106, l106, y106, z106⟩, st106⟩ := Jvm.LawKit.callS X101 hx (y := (⟨"java/lang/StringUTF16", "putChar", "([BII)V"⟩ : MethodName)) hown (mvT hZ (own_w hw 212 rfl)) (mvT hZ (own_w hw 213 rfl)) (mvT hZ (own_w hw 201 rfl)) (mvT hZ (own_w hw 214 rfl)) (by decide) (backOf (W := 0) (rm36x2 l Z a0 hw [] b101 pi0 k101 h101 n0 z107 f103 f104 V101 g102 f105 Qe101) hZ (own_w hw 214 rfl) (own_w hw 201 rfl) (by decide) (by decide)) (g := (mkF m 7 #[.val (.int pi0), .val (.ref b101)] [(.int pi0), (.int (0 : Int32)), (.ref b101)])) rfl (by rw [hml]; rfl) (argsL := [(.ref b101), (.int (0 : Int32)), (.int pi0)]) (rest := []) (lenOf pd_1 rfl) rfl (by show 2 * 0 + _ ≤ _; exact Nat.le_of_eq rfl) (hb hby d35_7) (fun _ _ => ⟨rfl, e101, (by decide : 1 + 0 ≤ _), (by decide : 2 + 0 ≤ _)⟩)
  dsimp only [Pt.U, Pt.locs, Pt.cells, Pt.slots] at X106 l106 y106 z106 st106 hQ106
  subst l106 y106 z106
  obtain ⟨rfl, Nq106, K106, R106_1⟩ := hQ106
  have N106 := Fr.app N0 Nq106
  have f108 := (Qe101.keep K106)
  obtain ⟨fs, hr, hrun, hended, hW, hsame⟩ := X106.leave (v := some (.ref b101)) (fun h => by rw [Bd.returns] at h; cases h)
  refine ⟨_, _, pre0 _ ?_, hrun, hended, _, _, rfl, ?_, ⟨_, rfl⟩, hW, hsame.mono (by decide) (by decide)⟩
  · skip
    show Steps p.tables e below (s₁.setTop (mkF m 0 #[.val (.int pi0), .unset] [])) _
    refine XS.iconst X0.here hx rfl (hb hby d35_0) ?_
    refine st101 _ ?_
    refine XS.astoreN X101.here hx rfl (hb hby d35_3) rfl rfl (l' := #[.val (.int pi0), .val (.ref b101)]) rfl ?_
    refine XS.aloadN X101.here hx rfl (hb hby d35_4) rfl rfl ?_
    refine XS.iconst X101.here hx rfl (hb hby d35_5) ?_
    refine XS.iloadN X101.here hx rfl (hb hby d35_6) rfl ?_
    refine st106 _ ?_
    refine XS.aloadN X106.here hx rfl (hb hby d35_10) rfl rfl ?_
    show Steps p.tables e below (T106.setTop (mkF m 11 #[.val (.int pi0), .val (.ref b101)] [(.ref b101)])) _
    jvm_step X106.here [X106.here.top, hx, (hb hby d35_11), X106.method', Bd.returns, Value.isRef, FieldType.isReference]
    first | (intro acts; rw [hr _ acts rfl rfl rfl]) | rw [hr _ _ rfl rfl rfl]
    exact Steps.refl _
  · show Q35x1 Z pi0 h0 n0 _ T106.heap _
    exact ⟨b101, k101, rfl, N106, (((Keep.refl h0 []).ext E101).trans K106 (allS (P := (fun x => x ∈ [] ∨ h0.size ≤ x)) (Or.inr (Nat.le_trans (Nat.le_refl _) (Nat.le_of_eq g101.symm))) all0)), (Nat.le_trans (Nat.le_refl _) (Nat.le_of_eq g101.symm)), f108, R106_1⟩
theorem d30_0 : decode jdk_42_method_151_code 0 = .ok (.aload_n 0, 1) := by decide +kernel
theorem d30_1 : decode jdk_42_method_151_code 1 = .ok (.invokespecial 1, 3) := by decide +kernel
theorem d30_4 : decode jdk_42_method_151_code 4 = .ok (.aload_n 0, 1) := by decide +kernel
theorem d30_5 : decode jdk_42_method_151_code 5 = .ok (.aload_n 1, 1) := by decide +kernel
theorem d30_6 : decode jdk_42_method_151_code 6 = .ok (.putfield 9, 3) := by decide +kernel
theorem d30_9 : decode jdk_42_method_151_code 9 = .ok (.aload_n 0, 1) := by decide +kernel
theorem d30_10 : decode jdk_42_method_151_code 10 = .ok (.iload_n 2, 1) := by decide +kernel
theorem d30_11 : decode jdk_42_method_151_code 11 = .ok (.putfield 15, 3) := by decide +kernel
theorem d30_14 : decode jdk_42_method_151_code 14 = .ok (.return_, 1) := by decide +kernel
theorem pn_java_lang_String : plainName "java/lang/String" = true := by first | (simp [plainName, overriddenIn]; done) | decide +kernel
theorem ef_30x3 (m : MethodId) (ra0 : Addr) (ra1 : Addr) : entryFrame m #[(.ref ra0), (.ref ra1), (.int (1 : Int32))] 3 = mkF m 0 #[.val (.ref ra0), .val (.ref ra1), .val (.int (1 : Int32))] [] := by first | (simp [entryFrame, mkF, argsToLocals, Value.category]; done) | rfl
def Q30x3 (Z : State) (ra0 : Addr) (ra1 : Addr) (h0 : Heap) (n0 : Nat) (v : Option Value) (h : Heap) (L : List Loc) : Prop := v = none ∧ Fr n0 L ∧ Keep h0 h [ra0] ∧ Fld Z h ra0 "java/lang/String" "coder" "B" (.int (1 : Int32)) ∧ Fld Z h ra0 "java/lang/String" "value" "[B" (.ref ra1)
set_option maxRecDepth 65536 in
set_option maxHeartbeats 40000000 in
theorem rm30x3 (l : Launch) (Z : State) (a0 : Array Value) (hw : ∀ d ∈ tables_1, d.before a0 Z = true) (ws : List Jvm.Cond) (ra0 : Addr) (ra1 : Addr) (h0 : Heap) (n0 : Nat) (Z0 : n0 ≤ h0.size) (H0 : Exa Z h0 ra0 "java/lang/String") (H1 : Fld Z h0 ra0 "java/lang/String" "value" "[B" .null) (H2 : n0 ≤ ra0) (H3 : Fld Z h0 ra0 "java/lang/String" "coder" "B" (.int (0 : Int32))) :
    own_MF l (⟨"java/lang/String", "<init>", "([BB)V"⟩ : MethodName) (Jvm.Cond.code (⟨"java/lang/String", "<init>", "([BB)V"⟩ : MethodName) jdk_42_method_151_code 3 none :: ws) ({ frames := 1, cells := 0, slots := 0, locals := 12 } : Room) #[(.ref ra0), (.ref ra1), (.int (1 : Int32))] Z h0 (Q30x3 Z ra0 ra1 h0 n0) := by
  refine MetFree.of_bodySF (plainFor_of_name pn_java_lang_String) hisR ?_
  intro p e s m args below meth c s₁ Bd hml0 hP hK
  obtain ⟨rfl, hZ, hh⟩ := hP
  have hx := Bd.exec
  have hby := Bd.bytes
  have hml : c.maxLocals = 3 := hml0
  have hown : s.vm.findClass "java/lang/String" = some m.cls := findClass_of_methodNamed Bd.named
  have hnm := (name_of_methodNamed Bd.named Bd.method).1
  have X0 : Stand p l e ({ frames := 1, cells := 0, slots := 0, locals := 12 } : Room) s m #[(.ref ra0), (.ref ra1), (.int (1 : Int32))] below meth c s₁ [] 0 0 := Stand.of_body Bd
  have e0 : s₁.heap = h0 := by rw [← hh, Bd.state]; rfl
  have N0 := Fr.nil n0
  have pre0 : ∀ t, Steps p.tables e below (s₁.setTop (mkF m 0 #[.val (.ref ra0), .val (.ref ra1), .val (.int (1 : Int32))] [])) t → Steps p.tables e below (s₁.setTop (entryFrame m #[(.ref ra0), (.ref ra1), (.int (1 : Int32))] 3)) t := fun t k => castTop (ef_30x3 m ra0 ra1) k
  obtain ⟨T101, X101, e101, st101⟩ := initO X0 hx hZ hown (own_w hw 160 rfl) (own_w hw 16 rfl) (own_w hw 17 rfl) e0 (g := (mkF m 1 #[.val (.ref ra0), .val (.ref ra1), .val (.int (1 : Int32))] [(.ref ra0)])) rfl (by rw [hml]; rfl) rfl (hb hby d30_1) (by decide) (W := 0) (by show 2 * 0 + _ ≤ _; exact Nat.le_of_eq rfl) (by decide)
  obtain ⟨T102, h102, X102, e102, W102, st102⟩ := putF X101 hx hZ hown (host := "") (Or.inl (own_w hw 162 rfl)) Via.refl e101 H1 H0 (Or.inr ⟨(own_w hw 5 rfl), rfl, hnm⟩) (own_w hw 3 rfl) (ty := (.array .byte)) (by decide) rfl rfl (g := (mkF m 6 #[.val (.ref ra0), .val (.ref ra1), .val (.int (1 : Int32))] [(.ref ra1), (.ref ra0)])) rfl rfl (hb hby d30_6)
  have Fw102 := H1.same W102
  have N102 := Fr.snoc X102 N0 H2
  have f103 := (H3.other W102 (Or.inr (slot_ne (Or.inr (own_w hw 6 rfl)) (Or.inr (own_w hw 5 rfl)) (by decide) (t := .byte) (t' := (.array .byte)) (by decide) (by decide))))
  have f104 := (H0.wr W102)
  obtain ⟨T105, h105, X105, e105, W105, st105⟩ := putFN X102 hx hZ hown (own_w hw 163 rfl) Via.refl e102 f103 f104 (Or.inr ⟨(own_w hw 6 rfl), rfl, hnm⟩) (own_w hw 3 rfl) (ty := .byte) (v' := (.int (nar .byte (1 : Int32)))) (by decide) rfl (fits_nar_byte _) (g := (mkF m 11 #[.val (.ref ra0), .val (.ref ra1), .val (.int (1 : Int32))] [(.int (1 : Int32)), (.ref ra0)])) rfl rfl (hb hby d30_11)
  rw [show nar .byte (1 : Int32) = (1 : Int32) from by decide] at W105
  have Fw105 := f103.same W105
  have N105 := Fr.snoc X105 N102 H2
  have f106 := (Fw102.other W105 (Or.inr (slot_ne (Or.inr (own_w hw 5 rfl)) (Or.inr (own_w hw 6 rfl)) (by decide) (t := (.array .byte)) (t' := .byte) (by decide) (by decide))))
  obtain ⟨fs, hr, hrun, hended, hW, hsame⟩ := X105.leave (v := none) (fun _ => rfl)
  refine ⟨_, _, pre0 _ ?_, hrun, hended, _, _, rfl, ?_, ⟨_, rfl⟩, hW, hsame.mono (by decide) (by decide)⟩
  · skip
    show Steps p.tables e below (s₁.setTop (mkF m 0 #[.val (.ref ra0), .val (.ref ra1), .val (.int (1 : Int32))] [])) _
    refine XS.aloadN X0.here hx rfl (hb hby d30_0) rfl rfl ?_
    refine st101 _ ?_
    refine XS.aloadN X101.here hx rfl (hb hby d30_4) rfl rfl ?_
    refine XS.aloadN X101.here hx rfl (hb hby d30_5) rfl rfl ?_
    refine st102 _ ?_
    refine XS.aloadN X102.here hx rfl (hb hby d30_9) rfl rfl ?_
    refine XS.iloadN X102.here hx rfl (hb hby d30_10) rfl ?_
    refine st105 _ ?_
    show Steps p.tables e below (T105.setTop (mkF m 14 #[.val (.ref ra0), .val (.ref ra1), .val (.int (1 : Int32))] [])) _
    exact X105.returnOut hx Bd.returns (hb hby d30_14) hr
  · show Q30x3 Z ra0 ra1 h0 n0 _ T105.heap _
    rw [e105]
    exact ⟨rfl, N105, (((Keep.refl h0 [ra0]).wr W102 (Or.inl (List.mem_of_getElem? (i := 0) rfl))).wr W105 (Or.inl (List.mem_of_getElem? (i := 0) rfl))), Fw105, f106⟩
theorem d29_0 : decode jdk_43_method_46_code 0 = .ok (.iconst 1, 1) := by decide +kernel
theorem d29_1 : decode jdk_43_method_46_code 1 = .ok (.newarray .byte, 2) := by decide +kernel
theorem d29_3 : decode jdk_43_method_46_code 3 = .ok (.dup, 1) := by decide +kernel
theorem d29_4 : decode jdk_43_method_46_code 4 = .ok (.iconst 0, 1) := by decide +kernel
theorem d29_5 : decode jdk_43_method_46_code 5 = .ok (.iload_n 0, 1) := by decide +kernel
theorem d29_6 : decode jdk_43_method_46_code 6 = .ok (.i2b, 1) := by decide +kernel
theorem d29_7 : decode jdk_43_method_46_code 7 = .ok (.bastore, 1) := by decide +kernel
theorem d29_8 : decode jdk_43_method_46_code 8 = .ok (.areturn, 1) := by decide +kernel
theorem ef_29x4 (m : MethodId) (pi0 : Int32) : entryFrame m #[(.int pi0)] 1 = mkF m 0 #[.val (.int pi0)] [] := by first | (simp [entryFrame, mkF, argsToLocals, Value.category]; done) | rfl
def Q29x4 (Z : State) (pi0 : Int32) (h0 : Heap) (n0 : Nat) (v : Option Value) (h : Heap) (L : List Loc) : Prop := ∃ (b101 : Addr) (k101 : ClassId), v = some (.ref b101) ∧ Fr n0 L ∧ Keep h0 h [] ∧ h0.size ≤ b101 ∧ Exa Z h b101 "[B" ∧ Arv Z h b101 k101 .byte (1 : Int32) [(.int (nar .byte (pi0.toInt8.toInt32)))] (.int (0 : Int32))
set_option maxRecDepth 65536 in
set_option maxHeartbeats 40000000 in
theorem rm29x4 (l : Launch) (Z : State) (a0 : Array Value) (hw : ∀ d ∈ tables_1, d.before a0 Z = true) (ws : List Jvm.Cond) (pi0 : Int32) (h0 : Heap) (n0 : Nat) (Z0 : n0 ≤ h0.size) :
    own_MF l (⟨"java/lang/StringLatin1", "toBytes", "(C)[B"⟩ : MethodName) (Jvm.Cond.code (⟨"java/lang/StringLatin1", "toBytes", "(C)[B"⟩ : MethodName) jdk_43_method_46_code 1 (some (.array .byte)) :: ws) ({ frames := 0, cells := 1, slots := 1, locals := 0 } : Room) #[(.int pi0)] Z h0 (Q29x4 Z pi0 h0 n0) := by
  refine MetFree.of_bodySF (plainFor_of_name pn_java_lang_StringLatin1) hisR ?_
  intro p e s m args below meth c s₁ Bd hml0 hP hK
  obtain ⟨rfl, hZ, hh⟩ := hP
  have hx := Bd.exec
  have hby := Bd.bytes
  have hml : c.maxLocals = 1 := hml0
  have hown : s.vm.findClass "java/lang/StringLatin1" = some m.cls := findClass_of_methodNamed Bd.named
  have hnm := (name_of_methodNamed Bd.named Bd.method).1
  have X0 : Stand p l e ({ frames := 0, cells := 1, slots := 1, locals := 0 } : Room) s m #[(.int pi0)] below meth c s₁ [] 0 0 := Stand.of_body Bd
  have e0 : s₁.heap = h0 := by rw [← hh, Bd.state]; rfl
  have N0 := Fr.nil n0
  have pre0 : ∀ t, Steps p.tables e below (s₁.setTop (mkF m 0 #[.val (.int pi0)] [])) t → Steps p.tables e below (s₁.setTop (entryFrame m #[(.int pi0)] 1)) t := fun t k => castTop (ef_29x4 m pi0) k
  obtain ⟨T101, h101, k101, X101, e101, E101, A101, Qe101, st101⟩ := newPE X0 hx hZ (own_w hw 4 rfl) e0 (g := (mkF m 1 #[.val (.int pi0)] [(.int (1 : Int32))])) rfl (hb hby d29_1) rfl (by decide) (cap := 1) (by decide) (by decide) (by decide) (by decide) (ad := "[B") (by decide)
  obtain ⟨b101, g101⟩ : ∃ z, z = h0.size := ⟨_, rfl⟩
  rw [← g101] at A101 Qe101 st101
  have V101 : Arv Z h101 b101 k101 .byte (1 : Int32) [(.int (0 : Int32))] (.int (0 : Int32)) := (Arv.new A101 (by decide)).pad (pad_rep [] (.int (0 : Int32)) 1)
  obtain ⟨cl102, Ar102, qc102, S102, M102, Hh102, G102⟩ := id V101
  have hin102 : ¬ ((0 : Int32) < 0 ∨ cl102.slots.size ≤ ((0 : Int32)).toNatClampNeg) := inb_of S102 ⟨by decide, by decide⟩
  obtain ⟨T102, h102, X102, e102, W102, st102⟩ := stB X101 hx hZ e101 Ar102 (j := (0 : Int32)) hin102 (g := (mkF m 7 #[.val (.int pi0)] [(.int (pi0.toInt8.toInt32)), (.int (0 : Int32)), (.ref b101), (.ref b101)])) rfl rfl (hb hby d29_7)
  have V102 : Arv Z h102 b101 k101 .byte (1 : Int32) [(.int (nar .byte (pi0.toInt8.toInt32)))] (.int (0 : Int32)) := Arv.set Ar102 qc102 S102 M102 Hh102 G102 (fits_nar_byte _) W102 0 rfl (by first | decide | (simp; done))
  have g103 : n0 ≤ b101 := Nat.le_trans Z0 (Nat.le_of_eq g101.symm)
  have N102 := Fr.snoc X102 N0 g103
  have f104 := (Qe101.wr W102)
  obtain ⟨fs, hr, hrun, hended, hW, hsame⟩ := X102.leave (v := some (.ref b101)) (fun h => by rw [Bd.returns] at h; cases h)
  refine ⟨_, _, pre0 _ ?_, hrun, hended, _, _, rfl, ?_, ⟨_, rfl⟩, hW, hsame.mono (by decide) (by decide)⟩
  · skip
    show Steps p.tables e below (s₁.setTop (mkF m 0 #[.val (.int pi0)] [])) _
    refine XS.iconst X0.here hx rfl (hb hby d29_0) ?_
    refine st101 _ ?_
    refine XS.dup X101.here hx rfl (hb hby d29_3) rfl rfl ?_
    refine XS.iconst X101.here hx rfl (hb hby d29_4) ?_
    refine XS.iloadN X101.here hx rfl (hb hby d29_5) rfl ?_
    refine XS.i2b X101.here hx rfl (hb hby d29_6) rfl ?_
    refine st102 _ ?_
    show Steps p.tables e below (T102.setTop (mkF m 8 #[.val (.int pi0)] [(.ref b101)])) _
    jvm_step X102.here [X102.here.top, hx, (hb hby d29_8), X102.method', Bd.returns, Value.isRef, FieldType.isReference]
    first | (intro acts; rw [hr _ acts rfl rfl rfl]) | rw [hr _ _ rfl rfl rfl]
    exact Steps.refl _
  · show Q29x4 Z pi0 h0 n0 _ T102.heap _
    rw [e102]
    exact ⟨b101, k101, rfl, N102, (((Keep.refl h0 []).ext E101).wr W102 (Or.inr (Nat.le_trans (Nat.le_refl _) (Nat.le_of_eq g101.symm)))), (Nat.le_trans (Nat.le_refl _) (Nat.le_of_eq g101.symm)), f104, V102⟩
theorem ef_30x5 (m : MethodId) (ra0 : Addr) (ra1 : Addr) : entryFrame m #[(.ref ra0), (.ref ra1), (.int (0 : Int32))] 3 = mkF m 0 #[.val (.ref ra0), .val (.ref ra1), .val (.int (0 : Int32))] [] := by first | (simp [entryFrame, mkF, argsToLocals, Value.category]; done) | rfl
def Q30x5 (Z : State) (ra0 : Addr) (ra1 : Addr) (h0 : Heap) (n0 : Nat) (v : Option Value) (h : Heap) (L : List Loc) : Prop := v = none ∧ Fr n0 L ∧ Keep h0 h [ra0] ∧ Fld Z h ra0 "java/lang/String" "coder" "B" (.int (0 : Int32)) ∧ Fld Z h ra0 "java/lang/String" "value" "[B" (.ref ra1)
set_option maxRecDepth 65536 in
set_option maxHeartbeats 40000000 in
theorem rm30x5 (l : Launch) (Z : State) (a0 : Array Value) (hw : ∀ d ∈ tables_1, d.before a0 Z = true) (ws : List Jvm.Cond) (ra0 : Addr) (ra1 : Addr) (h0 : Heap) (n0 : Nat) (Z0 : n0 ≤ h0.size) (H0 : Exa Z h0 ra0 "java/lang/String") (H1 : Fld Z h0 ra0 "java/lang/String" "value" "[B" .null) (H2 : n0 ≤ ra0) (H3 : Fld Z h0 ra0 "java/lang/String" "coder" "B" (.int (0 : Int32))) :
    own_MF l (⟨"java/lang/String", "<init>", "([BB)V"⟩ : MethodName) (Jvm.Cond.code (⟨"java/lang/String", "<init>", "([BB)V"⟩ : MethodName) jdk_42_method_151_code 3 none :: ws) ({ frames := 1, cells := 0, slots := 0, locals := 12 } : Room) #[(.ref ra0), (.ref ra1), (.int (0 : Int32))] Z h0 (Q30x5 Z ra0 ra1 h0 n0) := by
  refine MetFree.of_bodySF (plainFor_of_name pn_java_lang_String) hisR ?_
  intro p e s m args below meth c s₁ Bd hml0 hP hK
  obtain ⟨rfl, hZ, hh⟩ := hP
  have hx := Bd.exec
  have hby := Bd.bytes
  have hml : c.maxLocals = 3 := hml0
  have hown : s.vm.findClass "java/lang/String" = some m.cls := findClass_of_methodNamed Bd.named
  have hnm := (name_of_methodNamed Bd.named Bd.method).1
  have X0 : Stand p l e ({ frames := 1, cells := 0, slots := 0, locals := 12 } : Room) s m #[(.ref ra0), (.ref ra1), (.int (0 : Int32))] below meth c s₁ [] 0 0 := Stand.of_body Bd
  have e0 : s₁.heap = h0 := by rw [← hh, Bd.state]; rfl
  have N0 := Fr.nil n0
  have pre0 : ∀ t, Steps p.tables e below (s₁.setTop (mkF m 0 #[.val (.ref ra0), .val (.ref ra1), .val (.int (0 : Int32))] [])) t → Steps p.tables e below (s₁.setTop (entryFrame m #[(.ref ra0), (.ref ra1), (.int (0 : Int32))] 3)) t := fun t k => castTop (ef_30x5 m ra0 ra1) k
  obtain ⟨T101, X101, e101, st101⟩ := initO X0 hx hZ hown (own_w hw 160 rfl) (own_w hw 16 rfl) (own_w hw 17 rfl) e0 (g := (mkF m 1 #[.val (.ref ra0), .val (.ref ra1), .val (.int (0 : Int32))] [(.ref ra0)])) rfl (by rw [hml]; rfl) rfl (hb hby d30_1) (by decide) (W := 0) (by show 2 * 0 + _ ≤ _; exact Nat.le_of_eq rfl) (by decide)
  obtain ⟨T102, h102, X102, e102, W102, st102⟩ := putF X101 hx hZ hown (host := "") (Or.inl (own_w hw 162 rfl)) Via.refl e101 H1 H0 (Or.inr ⟨(own_w hw 5 rfl), rfl, hnm⟩) (own_w hw 3 rfl) (ty := (.array .byte)) (by decide) rfl rfl (g := (mkF m 6 #[.val (.ref ra0), .val (.ref ra1), .val (.int (0 : Int32))] [(.ref ra1), (.ref ra0)])) rfl rfl (hb hby d30_6)
  have Fw102 := H1.same W102
  have N102 := Fr.snoc X102 N0 H2
  have f103 := (H3.other W102 (Or.inr (slot_ne (Or.inr (own_w hw 6 rfl)) (Or.inr (own_w hw 5 rfl)) (by decide) (t := .byte) (t' := (.array .byte)) (by decide) (by decide))))
  have f104 := (H0.wr W102)
  obtain ⟨T105, h105, X105, e105, W105, st105⟩ := putFN X102 hx hZ hown (own_w hw 163 rfl) Via.refl e102 f103 f104 (Or.inr ⟨(own_w hw 6 rfl), rfl, hnm⟩) (own_w hw 3 rfl) (ty := .byte) (v' := (.int (nar .byte (0 : Int32)))) (by decide) rfl (fits_nar_byte _) (g := (mkF m 11 #[.val (.ref ra0), .val (.ref ra1), .val (.int (0 : Int32))] [(.int (0 : Int32)), (.ref ra0)])) rfl rfl (hb hby d30_11)
  rw [show nar .byte (0 : Int32) = (0 : Int32) from by decide] at W105
  have Fw105 := f103.same W105
  have N105 := Fr.snoc X105 N102 H2
  have f106 := (Fw102.other W105 (Or.inr (slot_ne (Or.inr (own_w hw 5 rfl)) (Or.inr (own_w hw 6 rfl)) (by decide) (t := (.array .byte)) (t' := .byte) (by decide) (by decide))))
  obtain ⟨fs, hr, hrun, hended, hW, hsame⟩ := X105.leave (v := none) (fun _ => rfl)
  refine ⟨_, _, pre0 _ ?_, hrun, hended, _, _, rfl, ?_, ⟨_, rfl⟩, hW, hsame.mono (by decide) (by decide)⟩
  · skip
    show Steps p.tables e below (s₁.setTop (mkF m 0 #[.val (.ref ra0), .val (.ref ra1), .val (.int (0 : Int32))] [])) _
    refine XS.aloadN X0.here hx rfl (hb hby d30_0) rfl rfl ?_
    refine st101 _ ?_
    refine XS.aloadN X101.here hx rfl (hb hby d30_4) rfl rfl ?_
    refine XS.aloadN X101.here hx rfl (hb hby d30_5) rfl rfl ?_
    refine st102 _ ?_
    refine XS.aloadN X102.here hx rfl (hb hby d30_9) rfl rfl ?_
    refine XS.iloadN X102.here hx rfl (hb hby d30_10) rfl ?_
    refine st105 _ ?_
    show Steps p.tables e below (T105.setTop (mkF m 14 #[.val (.ref ra0), .val (.ref ra1), .val (.int (0 : Int32))] [])) _
    exact X105.returnOut hx Bd.returns (hb hby d30_14) hr
  · show Q30x5 Z ra0 ra1 h0 n0 _ T105.heap _
    rw [e105]
    exact ⟨rfl, N105, (((Keep.refl h0 [ra0]).wr W102 (Or.inl (List.mem_of_getElem? (i := 0) rfl))).wr W105 (Or.inl (List.mem_of_getElem? (i := 0) rfl))), Fw105, f106⟩
theorem d27_0 : decode jdk_42_method_139_code 0 = .ok (.getstatic 38, 3) := by decide +kernel
theorem d27_3 : decode jdk_42_method_139_code 3 = .ok (.ifCond .eq 23, 3) := by decide +kernel
theorem d27_6 : decode jdk_42_method_139_code 6 = .ok (.iload_n 0, 1) := by decide +kernel
theorem d27_7 : decode jdk_42_method_139_code 7 = .ok (.invokestatic 1015, 3) := by decide +kernel
theorem d27_10 : decode jdk_42_method_139_code 10 = .ok (.ifCond .eq 16, 3) := by decide +kernel
theorem d27_26 : decode jdk_42_method_139_code 26 = .ok (.new 10, 3) := by decide +kernel
theorem d27_29 : decode jdk_42_method_139_code 29 = .ok (.dup, 1) := by decide +kernel
theorem d27_30 : decode jdk_42_method_139_code 30 = .ok (.iload_n 0, 1) := by decide +kernel
theorem d27_31 : decode jdk_42_method_139_code 31 = .ok (.invokestatic 1021, 3) := by decide +kernel
theorem d27_34 : decode jdk_42_method_139_code 34 = .ok (.iconst 1, 1) := by decide +kernel
theorem d27_35 : decode jdk_42_method_139_code 35 = .ok (.invokespecial 209, 3) := by decide +kernel
theorem d27_38 : decode jdk_42_method_139_code 38 = .ok (.areturn, 1) := by decide +kernel
theorem d27_13 : decode jdk_42_method_139_code 13 = .ok (.new 10, 3) := by decide +kernel
theorem d27_16 : decode jdk_42_method_139_code 16 = .ok (.dup, 1) := by decide +kernel
theorem d27_17 : decode jdk_42_method_139_code 17 = .ok (.iload_n 0, 1) := by decide +kernel
theorem d27_18 : decode jdk_42_method_139_code 18 = .ok (.invokestatic 1018, 3) := by decide +kernel
theorem d27_21 : decode jdk_42_method_139_code 21 = .ok (.iconst 0, 1) := by decide +kernel
theorem d27_22 : decode jdk_42_method_139_code 22 = .ok (.invokespecial 209, 3) := by decide +kernel
theorem d27_25 : decode jdk_42_method_139_code 25 = .ok (.areturn, 1) := by decide +kernel
theorem ef_27 (m : MethodId) (p1 : Int32) : entryFrame m #[(.int p1)] 1 = mkF m 0 #[.val (.int p1)] [] := by first | (simp [entryFrame, mkF, argsToLocals, Value.category]; done) | rfl
def Q27 (Z : State) (p1 : Int32) (cz : Int32) (h0 : Heap) (n0 : Nat) (v : Option Value) (h : Heap) (L : List Loc) : Prop := ∃ (x : Addr) (b : Addr) (k : ClassId), v = some (.ref x) ∧ Fr n0 L ∧ Keep h0 h [] ∧ Exa Z h x "java/lang/String" ∧ Fld Z h x "java/lang/String" "coder" "B" (.int (own_cd (1 : Int32) p1)) ∧ Fld Z h x "java/lang/String" "value" "[B" (.ref b) ∧ Arv Z h b k .byte (own_bn (1 : Int32) p1) (own_bs (1 : Int32) p1) (.int (0 : Int32))
set_option maxRecDepth 65536 in
set_option maxHeartbeats 40000000 in
theorem rm27 (l : Launch) (Z : State) (a0 : Array Value) (hw : ∀ d ∈ tables_1, d.before a0 Z = true) (ws : List Jvm.Cond) (p1 : Int32) (cz : Int32) (h0 : Heap) (n0 : Nat) (Z0 : n0 ≤ h0.size) (H0 : Sta Z h0 "java/lang/String" "COMPACT_STRINGS" "Z" (.int cz)) (H1 : ¬ (cz = (0 : Int32))) (H2 : Sta Z h0 "java/lang/StringUTF16" "$assertionsDisabled" "Z" (.int (1 : Int32))) (H3 : Sta Z h0 "java/lang/StringUTF16" "HI_BYTE_SHIFT" "I" (.int (0 : Int32))) (H4 : Sta Z h0 "java/lang/StringUTF16" "LO_BYTE_SHIFT" "I" (.int (8 : Int32))) :
    own_MF l (⟨"java/lang/String", "valueOf", "(C)Ljava/lang/String;"⟩ : MethodName) (Jvm.Cond.code (⟨"java/lang/String", "valueOf", "(C)Ljava/lang/String;"⟩ : MethodName) jdk_42_method_139_code 1 (some (.object "java/lang/String")) :: ws) ({ frames := 2, cells := 2, slots := 6, locals := 29 } : Room) #[(.int p1)] Z h0 (Q27 Z p1 cz h0 n0) := by
  refine MetFree.of_bodySF (plainFor_of_name pn_java_lang_String) hisR ?_
  intro p e s m args below meth c s₁ Bd hml0 hP hK
  obtain ⟨rfl, hZ, hh⟩ := hP
  have hx := Bd.exec
  have hby := Bd.bytes
  have hml : c.maxLocals = 1 := hml0
  have hown : s.vm.findClass "java/lang/String" = some m.cls := findClass_of_methodNamed Bd.named
  have hnm := (name_of_methodNamed Bd.named Bd.method).1
  have X0 : Stand p l e ({ frames := 2, cells := 2, slots := 6, locals := 29 } : Room) s m #[(.int p1)] below meth c s₁ [] 0 0 := Stand.of_body Bd
  have e0 : s₁.heap = h0 := by rw [← hh, Bd.state]; rfl
  have N0 := Fr.nil n0
  have pre0 : ∀ t, Steps p.tables e below (s₁.setTop (mkF m 0 #[.val (.int p1)] [])) t → Steps p.tables e below (s₁.setTop (entryFrame m #[(.int p1)] 1)) t := fun t k => castTop (ef_27 m p1) k
  obtain ⟨T101, X101, e101, st101⟩ := getS2 X0 hx hZ hown (host := "") (Or.inl (own_w hw 170 rfl)) Via.refl e0 H0 (g := (mkF m 0 #[.val (.int p1)] [])) rfl (hb hby d27_0)
  obtain ⟨_, _, ⟨T102, L102, k102, n102⟩, -, X102, ⟨Lc102, hQ102, l102, y102, z102⟩, st102⟩ := Jvm.LawKit.callS X101 hx (y := (⟨"java/lang/StringLatin1", "canEncode", "(C)Z"⟩ : MethodName)) hown (mvT hZ (own_w hw 185 rfl)) (mvT hZ (own_w hw 186 rfl)) (mvT hZ (own_w hw 173 rfl)) (mvT hZ (own_w hw 187 rfl)) (by decide) (backOf (W := 0) (rm28 l Z a0 hw [] p1 h0 n0 Z0) hZ (own_w hw 187 rfl) (own_w hw 173 rfl) (by decide) (by decide)) (g := (mkF m 7 #[.val (.int p1)] [(.int p1)])) rfl (by rw [hml]; rfl) (argsL := [(.int p1)]) (rest := []) (lenOf pd_0 rfl) rfl (by show 2 * 0 + _ ≤ _; exact Nat.le_of_eq rfl) (hb hby d27_7) (fun _ _ => ⟨rfl, e101, (by decide : 0 + 0 ≤ _), (by decide : 0 + 0 ≤ _)⟩)
  dsimp only [Pt.U, Pt.locs, Pt.cells, Pt.slots] at X102 l102 y102 z102 st102 hQ102
  subst l102 y102 z102
  obtain ⟨rfl, Nq102, Heq102⟩ := hQ102
  have N102 := Fr.app N0 Nq102
  have pre103 : ∀ t, Steps p.tables e below (T102.setTop (mkF m 10 #[.val (.int p1)] [(.int (own_e2 p1))])) t → Steps p.tables e below (s₁.setTop (entryFrame m #[(.int p1)] 1)) t := fun t kt => by
    refine pre0 t ?_
    show Steps p.tables e below (s₁.setTop (mkF m 0 #[.val (.int p1)] [])) _
    refine st101 _ ?_
    refine XS.ifNo X101.here hx rfl (hb hby d27_3) rfl ((if0 _ _).trans (feq (H1 : ¬ (cz = (0 : Int32)))).1) ?_
    refine XS.iloadN X101.here hx rfl (hb hby d27_6) rfl ?_
    refine st102 _ ?_
    show Steps p.tables e below (T102.setTop (mkF m 10 #[.val (.int p1)] [(.int (own_e2 p1))])) _
    exact kt
  by_cases hc10_104 : (own_e2 p1) = (0 : Int32)
  · skip
    obtain ⟨T105, h105, X105, e105, E105, A105, D105, -, st105⟩ := newO X102 hx hZ hown (own_w hw 169 rfl) (own_w hw 3 rfl) (own_w hw 2 rfl) Heq102 (g := (mkF m 26 #[.val (.int p1)] [])) rfl (hb hby d27_26) (by decide) (by decide)
    obtain ⟨b105, g105⟩ : ∃ z, z = h0.size := ⟨_, rfl⟩
    rw [← g105] at A105 D105 st105
    have F106 : Fld Z h105 b105 "java/lang/String" "value" "[B" .null := D105 (Or.inr (own_w hw 5 rfl)) (ty := (.array .byte)) (by decide)
    have F107 : Fld Z h105 b105 "java/lang/String" "coder" "B" (.int (0 : Int32)) := D105 (Or.inr (own_w hw 6 rfl)) (ty := .byte) (by decide)
    have f108 := (H2.ext E105)
    have f109 := (H3.ext E105)
    have f110 := (H4.ext E105)
    have z112 : n0 ≤ h105.size := (Nat.le_trans Z0 E105.1)
    obtain ⟨_, _, ⟨T111, L111, k111, n111⟩, -, X111, ⟨Lc111, hQ111, l111, y111, z111⟩, st111⟩ := Jvm.LawKit.callS X105 hx (y := (⟨"java/lang/StringUTF16", "toBytes", "(C)[B"⟩ : MethodName)) hown (mvT hZ (own_w hw 209 rfl)) (mvT hZ (own_w hw 210 rfl)) (mvT hZ (own_w hw 201 rfl)) (mvT hZ (own_w hw 211 rfl)) (by decide) (backOf (W := 2) (rm35x1 l Z a0 hw [] p1 h105 n0 z112 f108 f109 f110) hZ (own_w hw 211 rfl) (own_w hw 201 rfl) (by decide) (by decide)) (g := (mkF m 31 #[.val (.int p1)] [(.int p1), (.ref b105), (.ref b105)])) rfl (by rw [hml]; rfl) (argsL := [(.int p1)]) (rest := [(.ref b105), (.ref b105)]) (lenOf pd_2 rfl) rfl (by show 2 * 0 + _ ≤ _; exact Nat.le_of_eq rfl) (hb hby d27_31) (fun _ _ => ⟨rfl, e105, (by decide : 1 + 1 ≤ _), (by decide : 4 + 2 ≤ _)⟩)
    dsimp only [Pt.U, Pt.locs, Pt.cells, Pt.slots] at X111 l111 y111 z111 st111 hQ111
    subst l111 y111 z111
    obtain ⟨b101111, k101111, rfl, Nq111, K111, R111_1, R111_2, R111_3⟩ := hQ111
    have N111 := Fr.app N102 Nq111
    have g113 : n0 ≤ b105 := Nat.le_trans Z0 (Nat.le_of_eq g105.symm)
    have f114 := (A105.keep K111)
    have f115 := (F106.keep K111 nin0)
    have f116 := (F107.keep K111 nin0)
    have z118 : n0 ≤ T111.heap.size := (Nat.le_trans z112 K111.1)
    obtain ⟨_, _, ⟨T117, L117, k117, n117⟩, -, X117, ⟨Lc117, hQ117, l117, y117, z117⟩, st117⟩ := X111.specialBack hx (y := (⟨"java/lang/String", "<init>", "([BB)V"⟩ : MethodName)) rfl hown (mvT hZ (own_w hw 191 rfl)) (mvT hZ (own_w hw 192 rfl)) (mvT hZ (own_w hw 193 rfl)) (by decide) (backOf (W := 1) (rm30x3 l Z a0 hw [] b105 b101111 T111.heap n0 z118 f114 f115 g113 f116) hZ (own_w hw 193 rfl) (own_w hw 2 rfl) (by decide) (by decide)) (g := (mkF m 35 #[.val (.int p1)] [(.int (1 : Int32)), (.ref b101111), (.ref b105), (.ref b105)])) rfl (by rw [hml]; rfl) (Steps.refl _) (a := b105) (argsL := [(.ref b101111), (.int (1 : Int32))]) (rest := [(.ref b105)]) (lenOf pd_3 rfl) rfl (by show 2 * 0 + _ ≤ _; exact Nat.le_of_eq rfl) (hb hby d27_35) (fun _ _ => ⟨rfl, rfl, (by decide : 2 + 0 ≤ _), (by decide : 6 + 0 ≤ _)⟩)
    dsimp only [Pt.U, Pt.locs, Pt.cells, Pt.slots] at X117 l117 y117 z117 st117 hQ117
    subst l117 y117 z117
    obtain ⟨rfl, Nq117, K117, R117_1, R117_2⟩ := hQ117
    have N117 := Fr.app N111 Nq117
    have ne119 : b105 ≠ b101111 := (Nat.ne_of_lt (Nat.lt_of_lt_of_le A105.lt R111_1))
    have f120 := (R111_3.keep K117 (ninS (Ne.symm ne119) nin0))
    have h255 := own_e2t hc10_104
    have f121 := (f114.keep K117)
    obtain ⟨fs, hr, hrun, hended, hW, hsame⟩ := X117.leave (v := some (.ref b105)) (fun h => by rw [Bd.returns] at h; cases h)
    refine ⟨_, _, pre103 _ ?_, hrun, hended, _, _, rfl, ?_, ⟨_, rfl⟩, hW, hsame.mono (by decide) (by decide)⟩
    · skip
      show Steps p.tables e below (T102.setTop (mkF m 10 #[.val (.int p1)] [(.int (own_e2 p1))])) _
      refine XS.ifYes X102.here hx rfl (pc0 := 10) (pc' := 26) rfl (hb hby d27_10) rfl ((if0 _ _).trans (teq (hc10_104 : (own_e2 p1) = (0 : Int32))).1) (by decide) (by decide) ?_
      refine st105 _ ?_
      refine XS.dup X105.here hx rfl (hb hby d27_29) rfl rfl ?_
      refine XS.iloadN X105.here hx rfl (hb hby d27_30) rfl ?_
      refine st111 _ ?_
      refine XS.iconst X111.here hx rfl (hb hby d27_34) ?_
      show Steps p.tables e below (T111.setTop (mkF m 35 #[.val (.int p1)] [(.int (1 : Int32)), (.ref b101111), (.ref b105), (.ref b105)])) _
      refine st117.trans ?_
      show Steps p.tables e below (T117.setTop (mkF m 38 #[.val (.int p1)] [(.ref b105)])) _
      jvm_step X117.here [X117.here.top, hx, (hb hby d27_38), X117.method', Bd.returns, Value.isRef, FieldType.isReference]
      first | (intro acts; rw [hr _ acts rfl rfl rfl]) | rw [hr _ _ rfl rfl rfl]
      exact Steps.refl _
    · show Q27 Z p1 cz h0 n0 _ T117.heap _
      exact ⟨b105, b101111, k101111, rfl, N117, ((((Keep.refl h0 []).ext E105).trans K111 (all0 (P := (fun x => x ∈ [] ∨ h0.size ≤ x)))).trans K117 (allS (P := (fun x => x ∈ [] ∨ h0.size ≤ x)) (Or.inr (Nat.le_trans (Nat.le_refl _) (Nat.le_of_eq g105.symm))) all0)), f121, (by simpa only [own_cd, own_bn, own_bs, own_at0, own_at1, if_neg own_10, eq_true h255, if_true, if_false] using R117_1), R117_2, (by simpa only [own_cd, own_bn, own_bs, own_at0, own_at1, if_neg own_10, eq_true h255, if_true, if_false] using f120)⟩
  · skip
    obtain ⟨T122, h122, X122, e122, E122, A122, D122, -, st122⟩ := newO X102 hx hZ hown (own_w hw 169 rfl) (own_w hw 3 rfl) (own_w hw 2 rfl) Heq102 (g := (mkF m 13 #[.val (.int p1)] [])) rfl (hb hby d27_13) (by decide) (by decide)
    obtain ⟨b122, g122⟩ : ∃ z, z = h0.size := ⟨_, rfl⟩
    rw [← g122] at A122 D122 st122
    have F123 : Fld Z h122 b122 "java/lang/String" "value" "[B" .null := D122 (Or.inr (own_w hw 5 rfl)) (ty := (.array .byte)) (by decide)
    have F124 : Fld Z h122 b122 "java/lang/String" "coder" "B" (.int (0 : Int32)) := D122 (Or.inr (own_w hw 6 rfl)) (ty := .byte) (by decide)
    have z126 : n0 ≤ h122.size := (Nat.le_trans Z0 E122.1)
    obtain ⟨_, _, ⟨T125, L125, k125, n125⟩, -, X125, ⟨Lc125, hQ125, l125, y125, z125⟩, st125⟩ := Jvm.LawKit.callS X122 hx (y := (⟨"java/lang/StringLatin1", "toBytes", "(C)[B"⟩ : MethodName)) hown (mvT hZ (own_w hw 188 rfl)) (mvT hZ (own_w hw 189 rfl)) (mvT hZ (own_w hw 173 rfl)) (mvT hZ (own_w hw 190 rfl)) (by decide) (backOf (W := 2) (rm29x4 l Z a0 hw [] p1 h122 n0 z126) hZ (own_w hw 190 rfl) (own_w hw 173 rfl) (by decide) (by decide)) (g := (mkF m 18 #[.val (.int p1)] [(.int p1), (.ref b122), (.ref b122)])) rfl (by rw [hml]; rfl) (argsL := [(.int p1)]) (rest := [(.ref b122), (.ref b122)]) (lenOf pd_2 rfl) rfl (by show 2 * 0 + _ ≤ _; exact Nat.le_of_eq rfl) (hb hby d27_18) (fun _ _ => ⟨rfl, e122, (by decide : 1 + 1 ≤ _), (by decide : 4 + 1 ≤ _)⟩)
    dsimp only [Pt.U, Pt.locs, Pt.cells, Pt.slots] at X125 l125 y125 z125 st125 hQ125
    subst l125 y125 z125
    obtain ⟨b101125, k101125, rfl, Nq125, K125, R125_1, R125_2, R125_3⟩ := hQ125
    have N125 := Fr.app N102 Nq125
    have g127 : n0 ≤ b122 := Nat.le_trans Z0 (Nat.le_of_eq g122.symm)
    have f128 := (A122.keep K125)
    have f129 := (F123.keep K125 nin0)
    have f130 := (F124.keep K125 nin0)
    have z132 : n0 ≤ T125.heap.size := (Nat.le_trans z126 K125.1)
    obtain ⟨_, _, ⟨T131, L131, k131, n131⟩, -, X131, ⟨Lc131, hQ131, l131, y131, z131⟩, st131⟩ := X125.specialBack hx (y := (⟨"java/lang/String", "<init>", "([BB)V"⟩ : MethodName)) rfl hown (mvT hZ (own_w hw 191 rfl)) (mvT hZ (own_w hw 192 rfl)) (mvT hZ (own_w hw 193 rfl)) (by decide) (backOf (W := 1) (rm30x5 l Z a0 hw [] b122 b101125 T125.heap n0 z132 f128 f129 g127 f130) hZ (own_w hw 193 rfl) (own_w hw 2 rfl) (by decide) (by decide)) (g := (mkF m 22 #[.val (.int p1)] [(.int (0 : Int32)), (.ref b101125), (.ref b122), (.ref b122)])) rfl (by rw [hml]; rfl) (Steps.refl _) (a := b122) (argsL := [(.ref b101125), (.int (0 : Int32))]) (rest := [(.ref b122)]) (lenOf pd_3 rfl) rfl (by show 2 * 0 + _ ≤ _; exact Nat.le_of_eq rfl) (hb hby d27_22) (fun _ _ => ⟨rfl, rfl, (by decide : 2 + 0 ≤ _), (by decide : 5 + 0 ≤ _)⟩)
    dsimp only [Pt.U, Pt.locs, Pt.cells, Pt.slots] at X131 l131 y131 z131 st131 hQ131
    subst l131 y131 z131
    obtain ⟨rfl, Nq131, K131, R131_1, R131_2⟩ := hQ131
    have N131 := Fr.app N125 Nq131
    have ne133 : b122 ≠ b101125 := (Nat.ne_of_lt (Nat.lt_of_lt_of_le A122.lt R125_1))
    have f134 := (R125_3.keep K131 (ninS (Ne.symm ne133) nin0))
    have h255 := own_e2f hc10_104
    have f135 := (f128.keep K131)
    obtain ⟨fs, hr, hrun, hended, hW, hsame⟩ := X131.leave (v := some (.ref b122)) (fun h => by rw [Bd.returns] at h; cases h)
    refine ⟨_, _, pre103 _ ?_, hrun, hended, _, _, rfl, ?_, ⟨_, rfl⟩, hW, hsame.mono (by decide) (by decide)⟩
    · skip
      show Steps p.tables e below (T102.setTop (mkF m 10 #[.val (.int p1)] [(.int (own_e2 p1))])) _
      refine XS.ifNo X102.here hx rfl (hb hby d27_10) rfl ((if0 _ _).trans (feq (hc10_104 : ¬ ((own_e2 p1) = (0 : Int32)))).1) ?_
      refine st122 _ ?_
      refine XS.dup X122.here hx rfl (hb hby d27_16) rfl rfl ?_
      refine XS.iloadN X122.here hx rfl (hb hby d27_17) rfl ?_
      refine st125 _ ?_
      refine XS.iconst X125.here hx rfl (hb hby d27_21) ?_
      show Steps p.tables e below (T125.setTop (mkF m 22 #[.val (.int p1)] [(.int (0 : Int32)), (.ref b101125), (.ref b122), (.ref b122)])) _
      refine st131.trans ?_
      show Steps p.tables e below (T131.setTop (mkF m 25 #[.val (.int p1)] [(.ref b122)])) _
      jvm_step X131.here [X131.here.top, hx, (hb hby d27_25), X131.method', Bd.returns, Value.isRef, FieldType.isReference]
      first | (intro acts; rw [hr _ acts rfl rfl rfl]) | rw [hr _ _ rfl rfl rfl]
      exact Steps.refl _
    · show Q27 Z p1 cz h0 n0 _ T131.heap _
      exact ⟨b122, b101125, k101125, rfl, N131, ((((Keep.refl h0 []).ext E122).trans K125 (all0 (P := (fun x => x ∈ [] ∨ h0.size ≤ x)))).trans K131 (allS (P := (fun x => x ∈ [] ∨ h0.size ≤ x)) (Or.inr (Nat.le_trans (Nat.le_refl _) (Nat.le_of_eq g122.symm))) all0)), f135, (by simpa only [own_cd, own_bn, own_bs, own_at0, own_at1, if_neg own_10, eq_false h255, if_true, if_false] using R131_1), R131_2, (by simpa only [own_cd, own_bn, own_bs, own_at0, own_at1, if_neg own_10, eq_false h255, if_true, if_false] using f134)⟩
theorem d19_0 : decode prog_64_method_7_code 0 = .ok (.aload_n 0, 1) := by decide +kernel
theorem d19_1 : decode prog_64_method_7_code 1 = .ok (.getfield 13, 3) := by decide +kernel
theorem d19_4 : decode prog_64_method_7_code 4 = .ok (.iload_n 1, 1) := by decide +kernel
theorem d19_5 : decode prog_64_method_7_code 5 = .ok (.iaload, 1) := by decide +kernel
theorem d19_6 : decode prog_64_method_7_code 6 = .ok (.ifCond .ge 14, 3) := by decide +kernel
theorem d19_9 : decode prog_64_method_7_code 9 = .ok (.aload_n 0, 1) := by decide +kernel
theorem d19_10 : decode prog_64_method_7_code 10 = .ok (.getfield 13, 3) := by decide +kernel
theorem d19_13 : decode prog_64_method_7_code 13 = .ok (.iload_n 1, 1) := by decide +kernel
theorem d19_14 : decode prog_64_method_7_code 14 = .ok (.iaload, 1) := by decide +kernel
theorem d19_15 : decode prog_64_method_7_code 15 = .ok (.iconst (-1), 1) := by decide +kernel
theorem d19_16 : decode prog_64_method_7_code 16 = .ok (.ixor, 1) := by decide +kernel
theorem d19_17 : decode prog_64_method_7_code 17 = .ok (.goto 9, 3) := by decide +kernel
theorem d19_26 : decode prog_64_method_7_code 26 = .ok (.ireturn, 1) := by decide +kernel
theorem d19_20 : decode prog_64_method_7_code 20 = .ok (.aload_n 0, 1) := by decide +kernel
theorem d19_21 : decode prog_64_method_7_code 21 = .ok (.getfield 13, 3) := by decide +kernel
theorem d19_24 : decode prog_64_method_7_code 24 = .ok (.iload_n 1, 1) := by decide +kernel
theorem d19_25 : decode prog_64_method_7_code 25 = .ok (.iaload, 1) := by decide +kernel
theorem pn_com_example_rouse_rouse_shell_CommandLine : plainName "com/example/rouse/rouse/shell/CommandLine" = true := by first | (simp [plainName, overriddenIn]; done) | decide +kernel
theorem ef_19k0 (m : MethodId) (a1 : Addr) : entryFrame m #[(.ref a1), (.int (0 : Int32))] 2 = mkF m 0 #[.val (.ref a1), .val (.int (0 : Int32))] [] := by first | (simp [entryFrame, mkF, argsToLocals, Value.category]; done) | rfl
def Q19k0 (Z : State) (a1 : Addr) (wb : Addr) (wk : ClassId) (w0 : Int32) (w1 : Int32) (vv : Int32) (h0 : Heap) (n0 : Nat) (v : Option Value) (h : Heap) (L : List Loc) : Prop := v = some (.int vv) ∧ Fr n0 L ∧ h = h0
set_option maxRecDepth 65536 in
set_option maxHeartbeats 40000000 in
theorem rm19k0 (l : Launch) (Z : State) (a0 : Array Value) (hw : ∀ d ∈ tables_1, d.before a0 Z = true) (ws : List Jvm.Cond) (a1 : Addr) (wb : Addr) (wk : ClassId) (w0 : Int32) (w1 : Int32) (vv : Int32) (h0 : Heap) (n0 : Nat) (Z0 : n0 ≤ h0.size) (H0 : Fld Z h0 a1 "com/example/rouse/rouse/shell/CommandLine" "wordEnds" "[I" (.ref wb)) (H1 : Arv Z h0 wb wk .int (16 : Int32) (own_zl (.int w0) (.int w1)) (.int (0 : Int32))) (H2 : own_we w0 = vv) :
    own_MF l (⟨"com/example/rouse/rouse/shell/CommandLine", "wordEnd", "(I)I"⟩ : MethodName) (Jvm.Cond.code (⟨"com/example/rouse/rouse/shell/CommandLine", "wordEnd", "(I)I"⟩ : MethodName) prog_64_method_7_code 2 (some .int) :: ws) ({ frames := 0, cells := 0, slots := 0, locals := 0 } : Room) #[(.ref a1), (.int (0 : Int32))] Z h0 (Q19k0 Z a1 wb wk w0 w1 vv h0 n0) := by
  refine MetFree.of_bodySF (plainFor_of_name pn_com_example_rouse_rouse_shell_CommandLine) hisR ?_
  intro p e s m args below meth c s₁ Bd hml0 hP hK
  obtain ⟨rfl, hZ, hh⟩ := hP
  have hx := Bd.exec
  have hby := Bd.bytes
  have hml : c.maxLocals = 2 := hml0
  have hown : s.vm.findClass "com/example/rouse/rouse/shell/CommandLine" = some m.cls := findClass_of_methodNamed Bd.named
  have hnm := (name_of_methodNamed Bd.named Bd.method).1
  have X0 : Stand p l e ({ frames := 0, cells := 0, slots := 0, locals := 0 } : Room) s m #[(.ref a1), (.int (0 : Int32))] below meth c s₁ [] 0 0 := Stand.of_body Bd
  have e0 : s₁.heap = h0 := by rw [← hh, Bd.state]; rfl
  have N0 := Fr.nil n0
  have pre0 : ∀ t, Steps p.tables e below (s₁.setTop (mkF m 0 #[.val (.ref a1), .val (.int (0 : Int32))] [])) t → Steps p.tables e below (s₁.setTop (entryFrame m #[(.ref a1), (.int (0 : Int32))] 2)) t := fun t k => castTop (ef_19k0 m a1) k
  obtain ⟨T101, X101, e101, st101⟩ := getF X0 hx hZ hown (host := "") (Or.inl (own_w hw 22 rfl)) Via.refl e0 H0 (g := (mkF m 1 #[.val (.ref a1), .val (.int (0 : Int32))] [(.ref a1)])) rfl rfl (hb hby d19_1)
  obtain ⟨cl102, Ar102, qc102, S102, M102, Hh102, G102⟩ := id H1
  have hin102 : ¬ ((0 : Int32) < 0 ∨ cl102.slots.size ≤ ((0 : Int32)).toNatClampNeg) := inb_of S102 ⟨by decide, by decide⟩
  have pre103 : ∀ t, Steps p.tables e below (T101.setTop (mkF m 6 #[.val (.ref a1), .val (.int (0 : Int32))] [(.int w0)])) t → Steps p.tables e below (s₁.setTop (entryFrame m #[(.ref a1), (.int (0 : Int32))] 2)) t := fun t kt => by
    refine pre0 t ?_
    show Steps p.tables e below (s₁.setTop (mkF m 0 #[.val (.ref a1), .val (.int (0 : Int32))] [])) _
    refine XS.aloadN X0.here hx rfl (hb hby d19_0) rfl rfl ?_
    refine st101 _ ?_
    refine XS.iloadN X101.here hx rfl (hb hby d19_4) rfl ?_
    show Steps p.tables e below (T101.setTop (mkF m 5 #[.val (.ref a1), .val (.int (0 : Int32))] [(.int (0 : Int32)), (.ref wb)])) _
    refine X101.iaload hx (j := (0 : Int32)) (v := (.int w0)) (by rw [e101]; exact Ar102.1) (State.isArrayOf_alike hZ.alike Ar102.2.1) Ar102.2.2 hin102 (Hh102.at hin102 (rfl)) (g := (mkF m 5 #[.val (.ref a1), .val (.int (0 : Int32))] [(.int (0 : Int32)), (.ref wb)])) rfl rfl (hb hby d19_5) _ ?_
    show Steps p.tables e below (T101.setTop (mkF m 6 #[.val (.ref a1), .val (.int (0 : Int32))] [(.int w0)])) _
    exact kt
  by_cases hc6_104 : w0 < (0 : Int32)
  · skip
    obtain ⟨T105, X105, e105, st105⟩ := getF X101 hx hZ hown (host := "") (Or.inl (own_w hw 22 rfl)) Via.refl e101 H0 (g := (mkF m 10 #[.val (.ref a1), .val (.int (0 : Int32))] [(.ref a1)])) rfl rfl (hb hby d19_10)
    obtain ⟨cl106, Ar106, qc106, S106, M106, Hh106, G106⟩ := id H1
    have hin106 : ¬ ((0 : Int32) < 0 ∨ cl106.slots.size ≤ ((0 : Int32)).toNatClampNeg) := inb_of S106 ⟨by decide, by decide⟩
    obtain ⟨fs, hr, hrun, hended, hW, hsame⟩ := X105.leave (v := some (.int (w0 ^^^ (-1 : Int32)))) (fun h => by rw [Bd.returns] at h; cases h)
    refine ⟨_, _, pre103 _ ?_, hrun, hended, _, _, rfl, ?_, ⟨_, rfl⟩, hW, hsame.mono (by decide) (by decide)⟩
    · skip
      show Steps p.tables e below (T101.setTop (mkF m 6 #[.val (.ref a1), .val (.int (0 : Int32))] [(.int w0)])) _
      refine XS.ifNo X101.here hx rfl (hb hby d19_6) rfl ((if0 _ _).trans (tlt (hc6_104 : w0 < (0 : Int32))).2.1) ?_
      refine XS.aloadN X101.here hx rfl (hb hby d19_9) rfl rfl ?_
      refine st105 _ ?_
      refine XS.iloadN X105.here hx rfl (hb hby d19_13) rfl ?_
      show Steps p.tables e below (T105.setTop (mkF m 14 #[.val (.ref a1), .val (.int (0 : Int32))] [(.int (0 : Int32)), (.ref wb)])) _
      refine X105.iaload hx (j := (0 : Int32)) (v := (.int w0)) (by rw [e105]; exact Ar106.1) (State.isArrayOf_alike hZ.alike Ar106.2.1) Ar106.2.2 hin106 (Hh106.at hin106 (rfl)) (g := (mkF m 14 #[.val (.ref a1), .val (.int (0 : Int32))] [(.int (0 : Int32)), (.ref wb)])) rfl rfl (hb hby d19_14) _ ?_
      show Steps p.tables e below (T105.setTop (mkF m 15 #[.val (.ref a1), .val (.int (0 : Int32))] [(.int w0)])) _
      refine XS.iconst X105.here hx rfl (hb hby d19_15) ?_
      refine XS.ixor X105.here hx rfl (hb hby d19_16) rfl ?_
      refine XS.goto X105.here hx rfl (pc0 := 17) (pc' := 26) rfl (hb hby d19_17) (by decide) (by decide) ?_
      show Steps p.tables e below (T105.setTop (mkF m 26 #[.val (.ref a1), .val (.int (0 : Int32))] [(.int (w0 ^^^ (-1 : Int32)))])) _
      exact retI X105 hx Bd.returns (hb hby d19_26) hr
    · show Q19k0 Z a1 wb wk w0 w1 vv h0 n0 _ T105.heap _
      rw [e105]
      exact ⟨(by rw [← H2, own_we, if_pos hc6_104]), N0, rfl⟩
  · skip
    obtain ⟨T107, X107, e107, st107⟩ := getF X101 hx hZ hown (host := "") (Or.inl (own_w hw 22 rfl)) Via.refl e101 H0 (g := (mkF m 21 #[.val (.ref a1), .val (.int (0 : Int32))] [(.ref a1)])) rfl rfl (hb hby d19_21)
    obtain ⟨cl108, Ar108, qc108, S108, M108, Hh108, G108⟩ := id H1
    have hin108 : ¬ ((0 : Int32) < 0 ∨ cl108.slots.size ≤ ((0 : Int32)).toNatClampNeg) := inb_of S108 ⟨by decide, by decide⟩
    obtain ⟨fs, hr, hrun, hended, hW, hsame⟩ := X107.leave (v := some (.int w0)) (fun h => by rw [Bd.returns] at h; cases h)
    refine ⟨_, _, pre103 _ ?_, hrun, hended, _, _, rfl, ?_, ⟨_, rfl⟩, hW, hsame.mono (by decide) (by decide)⟩
    · skip
      show Steps p.tables e below (T101.setTop (mkF m 6 #[.val (.ref a1), .val (.int (0 : Int32))] [(.int w0)])) _
      refine XS.ifYes X101.here hx rfl (pc0 := 6) (pc' := 20) rfl (hb hby d19_6) rfl ((if0 _ _).trans (flt (hc6_104 : ¬ (w0 < (0 : Int32)))).2.1) (by decide) (by decide) ?_
      refine XS.aloadN X101.here hx rfl (hb hby d19_20) rfl rfl ?_
      refine st107 _ ?_
      refine XS.iloadN X107.here hx rfl (hb hby d19_24) rfl ?_
      show Steps p.tables e below (T107.setTop (mkF m 25 #[.val (.ref a1), .val (.int (0 : Int32))] [(.int (0 : Int32)), (.ref wb)])) _
      refine X107.iaload hx (j := (0 : Int32)) (v := (.int w0)) (by rw [e107]; exact Ar108.1) (State.isArrayOf_alike hZ.alike Ar108.2.1) Ar108.2.2 hin108 (Hh108.at hin108 (rfl)) (g := (mkF m 25 #[.val (.ref a1), .val (.int (0 : Int32))] [(.int (0 : Int32)), (.ref wb)])) rfl rfl (hb hby d19_25) _ ?_
      show Steps p.tables e below (T107.setTop (mkF m 26 #[.val (.ref a1), .val (.int (0 : Int32))] [(.int w0)])) _
      exact retI X107 hx Bd.returns (hb hby d19_26) hr
    · show Q19k0 Z a1 wb wk w0 w1 vv h0 n0 _ T107.heap _
      rw [e107]
      exact ⟨(by rw [← H2, own_we, if_neg hc6_104]), N0, rfl⟩
theorem ef_19k1 (m : MethodId) (a1 : Addr) : entryFrame m #[(.ref a1), (.int (1 : Int32))] 2 = mkF m 0 #[.val (.ref a1), .val (.int (1 : Int32))] [] := by first | (simp [entryFrame, mkF, argsToLocals, Value.category]; done) | rfl
def Q19k1 (Z : State) (a1 : Addr) (wb : Addr) (wk : ClassId) (w0 : Int32) (w1 : Int32) (vv : Int32) (h0 : Heap) (n0 : Nat) (v : Option Value) (h : Heap) (L : List Loc) : Prop := v = some (.int vv) ∧ Fr n0 L ∧ h = h0
set_option maxRecDepth 65536 in
set_option maxHeartbeats 40000000 in
theorem rm19k1 (l : Launch) (Z : State) (a0 : Array Value) (hw : ∀ d ∈ tables_1, d.before a0 Z = true) (ws : List Jvm.Cond) (a1 : Addr) (wb : Addr) (wk : ClassId) (w0 : Int32) (w1 : Int32) (vv : Int32) (h0 : Heap) (n0 : Nat) (Z0 : n0 ≤ h0.size) (H0 : Fld Z h0 a1 "com/example/rouse/rouse/shell/CommandLine" "wordEnds" "[I" (.ref wb)) (H1 : Arv Z h0 wb wk .int (16 : Int32) (own_zl (.int w0) (.int w1)) (.int (0 : Int32))) (H2 : own_we w1 = vv) :
    own_MF l (⟨"com/example/rouse/rouse/shell/CommandLine", "wordEnd", "(I)I"⟩ : MethodName) (Jvm.Cond.code (⟨"com/example/rouse/rouse/shell/CommandLine", "wordEnd", "(I)I"⟩ : MethodName) prog_64_method_7_code 2 (some .int) :: ws) ({ frames := 0, cells := 0, slots := 0, locals := 0 } : Room) #[(.ref a1), (.int (1 : Int32))] Z h0 (Q19k1 Z a1 wb wk w0 w1 vv h0 n0) := by
  refine MetFree.of_bodySF (plainFor_of_name pn_com_example_rouse_rouse_shell_CommandLine) hisR ?_
  intro p e s m args below meth c s₁ Bd hml0 hP hK
  obtain ⟨rfl, hZ, hh⟩ := hP
  have hx := Bd.exec
  have hby := Bd.bytes
  have hml : c.maxLocals = 2 := hml0
  have hown : s.vm.findClass "com/example/rouse/rouse/shell/CommandLine" = some m.cls := findClass_of_methodNamed Bd.named
  have hnm := (name_of_methodNamed Bd.named Bd.method).1
  have X0 : Stand p l e ({ frames := 0, cells := 0, slots := 0, locals := 0 } : Room) s m #[(.ref a1), (.int (1 : Int32))] below meth c s₁ [] 0 0 := Stand.of_body Bd
  have e0 : s₁.heap = h0 := by rw [← hh, Bd.state]; rfl
  have N0 := Fr.nil n0
  have pre0 : ∀ t, Steps p.tables e below (s₁.setTop (mkF m 0 #[.val (.ref a1), .val (.int (1 : Int32))] [])) t → Steps p.tables e below (s₁.setTop (entryFrame m #[(.ref a1), (.int (1 : Int32))] 2)) t := fun t k => castTop (ef_19k1 m a1) k
  obtain ⟨T101, X101, e101, st101⟩ := getF X0 hx hZ hown (host := "") (Or.inl (own_w hw 22 rfl)) Via.refl e0 H0 (g := (mkF m 1 #[.val (.ref a1), .val (.int (1 : Int32))] [(.ref a1)])) rfl rfl (hb hby d19_1)
  obtain ⟨cl102, Ar102, qc102, S102, M102, Hh102, G102⟩ := id H1
  have hin102 : ¬ ((1 : Int32) < 0 ∨ cl102.slots.size ≤ ((1 : Int32)).toNatClampNeg) := inb_of S102 ⟨by decide, by decide⟩
  have pre103 : ∀ t, Steps p.tables e below (T101.setTop (mkF m 6 #[.val (.ref a1), .val (.int (1 : Int32))] [(.int w1)])) t → Steps p.tables e below (s₁.setTop (entryFrame m #[(.ref a1), (.int (1 : Int32))] 2)) t := fun t kt => by
    refine pre0 t ?_
    show Steps p.tables e below (s₁.setTop (mkF m 0 #[.val (.ref a1), .val (.int (1 : Int32))] [])) _
    refine XS.aloadN X0.here hx rfl (hb hby d19_0) rfl rfl ?_
    refine st101 _ ?_
    refine XS.iloadN X101.here hx rfl (hb hby d19_4) rfl ?_
    show Steps p.tables e below (T101.setTop (mkF m 5 #[.val (.ref a1), .val (.int (1 : Int32))] [(.int (1 : Int32)), (.ref wb)])) _
    refine X101.iaload hx (j := (1 : Int32)) (v := (.int w1)) (by rw [e101]; exact Ar102.1) (State.isArrayOf_alike hZ.alike Ar102.2.1) Ar102.2.2 hin102 (Hh102.at hin102 (rfl)) (g := (mkF m 5 #[.val (.ref a1), .val (.int (1 : Int32))] [(.int (1 : Int32)), (.ref wb)])) rfl rfl (hb hby d19_5) _ ?_
    show Steps p.tables e below (T101.setTop (mkF m 6 #[.val (.ref a1), .val (.int (1 : Int32))] [(.int w1)])) _
    exact kt
  by_cases hc6_104 : w1 < (0 : Int32)
  · skip
    obtain ⟨T105, X105, e105, st105⟩ := getF X101 hx hZ hown (host := "") (Or.inl (own_w hw 22 rfl)) Via.refl e101 H0 (g := (mkF m 10 #[.val (.ref a1), .val (.int (1 : Int32))] [(.ref a1)])) rfl rfl (hb hby d19_10)
    obtain ⟨cl106, Ar106, qc106, S106, M106, Hh106, G106⟩ := id H1
    have hin106 : ¬ ((1 : Int32) < 0 ∨ cl106.slots.size ≤ ((1 : Int32)).toNatClampNeg) := inb_of S106 ⟨by decide, by decide⟩
    obtain ⟨fs, hr, hrun, hended, hW, hsame⟩ := X105.leave (v := some (.int (w1 ^^^ (-1 : Int32)))) (fun h => by rw [Bd.returns] at h; cases h)
    refine ⟨_, _, pre103 _ ?_, hrun, hended, _, _, rfl, ?_, ⟨_, rfl⟩, hW, hsame.mono (by decide) (by decide)⟩
    · skip
      show Steps p.tables e below (T101.setTop (mkF m 6 #[.val (.ref a1), .val (.int (1 : Int32))] [(.int w1)])) _
      refine XS.ifNo X101.here hx rfl (hb hby d19_6) rfl ((if0 _ _).trans (tlt (hc6_104 : w1 < (0 : Int32))).2.1) ?_
      refine XS.aloadN X101.here hx rfl (hb hby d19_9) rfl rfl ?_
      refine st105 _ ?_
      refine XS.iloadN X105.here hx rfl (hb hby d19_13) rfl ?_
      show Steps p.tables e below (T105.setTop (mkF m 14 #[.val (.ref a1), .val (.int (1 : Int32))] [(.int (1 : Int32)), (.ref wb)])) _
      refine X105.iaload hx (j := (1 : Int32)) (v := (.int w1)) (by rw [e105]; exact Ar106.1) (State.isArrayOf_alike hZ.alike Ar106.2.1) Ar106.2.2 hin106 (Hh106.at hin106 (rfl)) (g := (mkF m 14 #[.val (.ref a1), .val (.int (1 : Int32))] [(.int (1 : Int32)), (.ref wb)])) rfl rfl (hb hby d19_14) _ ?_
      show Steps p.tables e below (T105.setTop (mkF m 15 #[.val (.ref a1), .val (.int (1 : Int32))] [(.int w1)])) _
      refine XS.iconst X105.here hx rfl (hb hby d19_15) ?_
      refine XS.ixor X105.here hx rfl (hb hby d19_16) rfl ?_
      refine XS.goto X105.here hx rfl (pc0 := 17) (pc' := 26) rfl (hb hby d19_17) (by decide) (by decide) ?_
      show Steps p.tables e below (T105.setTop (mkF m 26 #[.val (.ref a1), .val (.int (1 : Int32))] [(.int (w1 ^^^ (-1 : Int32)))])) _
      exact retI X105 hx Bd.returns (hb hby d19_26) hr
    · show Q19k1 Z a1 wb wk w0 w1 vv h0 n0 _ T105.heap _
      rw [e105]
      exact ⟨(by rw [← H2, own_we, if_pos hc6_104]), N0, rfl⟩
  · skip
    obtain ⟨T107, X107, e107, st107⟩ := getF X101 hx hZ hown (host := "") (Or.inl (own_w hw 22 rfl)) Via.refl e101 H0 (g := (mkF m 21 #[.val (.ref a1), .val (.int (1 : Int32))] [(.ref a1)])) rfl rfl (hb hby d19_21)
    obtain ⟨cl108, Ar108, qc108, S108, M108, Hh108, G108⟩ := id H1
    have hin108 : ¬ ((1 : Int32) < 0 ∨ cl108.slots.size ≤ ((1 : Int32)).toNatClampNeg) := inb_of S108 ⟨by decide, by decide⟩
    obtain ⟨fs, hr, hrun, hended, hW, hsame⟩ := X107.leave (v := some (.int w1)) (fun h => by rw [Bd.returns] at h; cases h)
    refine ⟨_, _, pre103 _ ?_, hrun, hended, _, _, rfl, ?_, ⟨_, rfl⟩, hW, hsame.mono (by decide) (by decide)⟩
    · skip
      show Steps p.tables e below (T101.setTop (mkF m 6 #[.val (.ref a1), .val (.int (1 : Int32))] [(.int w1)])) _
      refine XS.ifYes X101.here hx rfl (pc0 := 6) (pc' := 20) rfl (hb hby d19_6) rfl ((if0 _ _).trans (flt (hc6_104 : ¬ (w1 < (0 : Int32)))).2.1) (by decide) (by decide) ?_
      refine XS.aloadN X101.here hx rfl (hb hby d19_20) rfl rfl ?_
      refine st107 _ ?_
      refine XS.iloadN X107.here hx rfl (hb hby d19_24) rfl ?_
      show Steps p.tables e below (T107.setTop (mkF m 25 #[.val (.ref a1), .val (.int (1 : Int32))] [(.int (1 : Int32)), (.ref wb)])) _
      refine X107.iaload hx (j := (1 : Int32)) (v := (.int w1)) (by rw [e107]; exact Ar108.1) (State.isArrayOf_alike hZ.alike Ar108.2.1) Ar108.2.2 hin108 (Hh108.at hin108 (rfl)) (g := (mkF m 25 #[.val (.ref a1), .val (.int (1 : Int32))] [(.int (1 : Int32)), (.ref wb)])) rfl rfl (hb hby d19_25) _ ?_
      show Steps p.tables e below (T107.setTop (mkF m 26 #[.val (.ref a1), .val (.int (1 : Int32))] [(.int w1)])) _
      exact retI X107 hx Bd.returns (hb hby d19_26) hr
    · show Q19k1 Z a1 wb wk w0 w1 vv h0 n0 _ T107.heap _
      rw [e107]
      exact ⟨(by rw [← H2, own_we, if_neg hc6_104]), N0, rfl⟩
theorem d18_0 : decode prog_64_method_8_code 0 = .ok (.iload_n 1, 1) := by decide +kernel
theorem d18_1 : decode prog_64_method_8_code 1 = .ok (.ifCond .ne 7, 3) := by decide +kernel
theorem d18_4 : decode prog_64_method_8_code 4 = .ok (.iconst 0, 1) := by decide +kernel
theorem d18_5 : decode prog_64_method_8_code 5 = .ok (.goto 10, 3) := by decide +kernel
theorem d18_15 : decode prog_64_method_8_code 15 = .ok (.ireturn, 1) := by decide +kernel
theorem ef_18k0 (m : MethodId) (a1 : Addr) : entryFrame m #[(.ref a1), (.int (0 : Int32))] 2 = mkF m 0 #[.val (.ref a1), .val (.int (0 : Int32))] [] := by first | (simp [entryFrame, mkF, argsToLocals, Value.category]; done) | rfl
def Q18k0 (Z : State) (a1 : Addr) (h0 : Heap) (n0 : Nat) (v : Option Value) (h : Heap) (L : List Loc) : Prop := v = some (.int (0 : Int32)) ∧ Fr n0 L ∧ h = h0
set_option maxRecDepth 65536 in
set_option maxHeartbeats 40000000 in
theorem rm18k0 (l : Launch) (Z : State) (a0 : Array Value) (hw : ∀ d ∈ tables_1, d.before a0 Z = true) (ws : List Jvm.Cond) (a1 : Addr) (h0 : Heap) (n0 : Nat) (Z0 : n0 ≤ h0.size) :
    own_MF l (⟨"com/example/rouse/rouse/shell/CommandLine", "wordStart", "(I)I"⟩ : MethodName) (Jvm.Cond.code (⟨"com/example/rouse/rouse/shell/CommandLine", "wordStart", "(I)I"⟩ : MethodName) prog_64_method_8_code 2 (some .int) :: ws) ({ frames := 0, cells := 0, slots := 0, locals := 0 } : Room) #[(.ref a1), (.int (0 : Int32))] Z h0 (Q18k0 Z a1 h0 n0) := by
  refine MetFree.of_bodySF (plainFor_of_name pn_com_example_rouse_rouse_shell_CommandLine) hisR ?_
  intro p e s m args below meth c s₁ Bd hml0 hP hK
  obtain ⟨rfl, hZ, hh⟩ := hP
  have hx := Bd.exec
  have hby := Bd.bytes
  have hml : c.maxLocals = 2 := hml0
  have hown : s.vm.findClass "com/example/rouse/rouse/shell/CommandLine" = some m.cls := findClass_of_methodNamed Bd.named
  have hnm := (name_of_methodNamed Bd.named Bd.method).1
  have X0 : Stand p l e ({ frames := 0, cells := 0, slots := 0, locals := 0 } : Room) s m #[(.ref a1), (.int (0 : Int32))] below meth c s₁ [] 0 0 := Stand.of_body Bd
  have e0 : s₁.heap = h0 := by rw [← hh, Bd.state]; rfl
  have N0 := Fr.nil n0
  have pre0 : ∀ t, Steps p.tables e below (s₁.setTop (mkF m 0 #[.val (.ref a1), .val (.int (0 : Int32))] [])) t → Steps p.tables e below (s₁.setTop (entryFrame m #[(.ref a1), (.int (0 : Int32))] 2)) t := fun t k => castTop (ef_18k0 m a1) k
  obtain ⟨fs, hr, hrun, hended, hW, hsame⟩ := X0.leave (v := some (.int (0 : Int32))) (fun h => by rw [Bd.returns] at h; cases h)
  refine ⟨_, _, pre0 _ ?_, hrun, hended, _, _, rfl, ?_, ⟨_, rfl⟩, hW, hsame.mono (by decide) (by decide)⟩
  · skip
    show Steps p.tables e below (s₁.setTop (mkF m 0 #[.val (.ref a1), .val (.int (0 : Int32))] [])) _
    refine XS.iloadN X0.here hx rfl (hb hby d18_0) rfl ?_
    refine XS.ifNo X0.here hx rfl (hb hby d18_1) rfl ((if0 _ _).trans (teq (by decide : (0 : Int32) = (0 : Int32))).2) ?_
    refine XS.iconst X0.here hx rfl (hb hby d18_4) ?_
    refine XS.goto X0.here hx rfl (pc0 := 5) (pc' := 15) rfl (hb hby d18_5) (by decide) (by decide) ?_
    show Steps p.tables e below (s₁.setTop (mkF m 15 #[.val (.ref a1), .val (.int (0 : Int32))] [(.int (0 : Int32))])) _
    exact retI X0 hx Bd.returns (hb hby d18_15) hr
  · show Q18k0 Z a1 h0 n0 _ s₁.heap _
    rw [e0]
    exact ⟨rfl, N0, rfl⟩
theorem d18_8 : decode prog_64_method_8_code 8 = .ok (.aload_n 0, 1) := by decide +kernel
theorem d18_9 : decode prog_64_method_8_code 9 = .ok (.iload_n 1, 1) := by decide +kernel
theorem d18_10 : decode prog_64_method_8_code 10 = .ok (.iconst 1, 1) := by decide +kernel
theorem d18_11 : decode prog_64_method_8_code 11 = .ok (.isub, 1) := by decide +kernel
theorem d18_12 : decode prog_64_method_8_code 12 = .ok (.invokevirtual 53, 3) := by decide +kernel
theorem ef_18k1 (m : MethodId) (a1 : Addr) : entryFrame m #[(.ref a1), (.int (1 : Int32))] 2 = mkF m 0 #[.val (.ref a1), .val (.int (1 : Int32))] [] := by first | (simp [entryFrame, mkF, argsToLocals, Value.category]; done) | rfl
def Q18k1 (Z : State) (a1 : Addr) (wb : Addr) (wk : ClassId) (w0 : Int32) (w1 : Int32) (vv : Int32) (h0 : Heap) (n0 : Nat) (v : Option Value) (h : Heap) (L : List Loc) : Prop := v = some (.int vv) ∧ Fr n0 L ∧ h = h0
set_option maxRecDepth 65536 in
set_option maxHeartbeats 40000000 in
theorem rm18k1 (l : Launch) (Z : State) (a0 : Array Value) (hw : ∀ d ∈ tables_1, d.before a0 Z = true) (ws : List Jvm.Cond) (a1 : Addr) (wb : Addr) (wk : ClassId) (w0 : Int32) (w1 : Int32) (vv : Int32) (h0 : Heap) (n0 : Nat) (Z0 : n0 ≤ h0.size) (H0 : Fld Z h0 a1 "com/example/rouse/rouse/shell/CommandLine" "wordEnds" "[I" (.ref wb)) (H1 : Arv Z h0 wb wk .int (16 : Int32) (own_zl (.int w0) (.int w1)) (.int (0 : Int32))) (H2 : own_we w0 = vv) (H3 : Exa Z h0 a1 "com/example/rouse/rouse/shell/CommandLine") :
    own_MF l (⟨"com/example/rouse/rouse/shell/CommandLine", "wordStart", "(I)I"⟩ : MethodName) (Jvm.Cond.code (⟨"com/example/rouse/rouse/shell/CommandLine", "wordStart", "(I)I"⟩ : MethodName) prog_64_method_8_code 2 (some .int) :: ws) ({ frames := 1, cells := 0, slots := 0, locals := 13 } : Room) #[(.ref a1), (.int (1 : Int32))] Z h0 (Q18k1 Z a1 wb wk w0 w1 vv h0 n0) := by
  refine MetFree.of_bodySF (plainFor_of_name pn_com_example_rouse_rouse_shell_CommandLine) hisR ?_
  intro p e s m args below meth c s₁ Bd hml0 hP hK
  obtain ⟨rfl, hZ, hh⟩ := hP
  have hx := Bd.exec
  have hby := Bd.bytes
  have hml : c.maxLocals = 2 := hml0
  have hown : s.vm.findClass "com/example/rouse/rouse/shell/CommandLine" = some m.cls := findClass_of_methodNamed Bd.named
  have hnm := (name_of_methodNamed Bd.named Bd.method).1
  have X0 : Stand p l e ({ frames := 1, cells := 0, slots := 0, locals := 13 } : Room) s m #[(.ref a1), (.int (1 : Int32))] below meth c s₁ [] 0 0 := Stand.of_body Bd
  have e0 : s₁.heap = h0 := by rw [← hh, Bd.state]; rfl
  have N0 := Fr.nil n0
  have pre0 : ∀ t, Steps p.tables e below (s₁.setTop (mkF m 0 #[.val (.ref a1), .val (.int (1 : Int32))] [])) t → Steps p.tables e below (s₁.setTop (entryFrame m #[(.ref a1), (.int (1 : Int32))] 2)) t := fun t k => castTop (ef_18k1 m a1) k
  obtain ⟨cq101, q101, q101'⟩ := H3.cell
  obtain ⟨_, _, ⟨T101, L101, k101, n101⟩, -, X101, ⟨Lc101, hQ101, l101, y101, z101⟩, st101⟩ := X0.privateBack hx (y := (⟨"com/example/rouse/rouse/shell/CommandLine", "wordEnd", "(I)I"⟩ : MethodName)) hown (mvT hZ (own_w hw 175 rfl)) (mvT hZ (own_w hw 140 rfl)) (mvT hZ (own_selp (by decide) (own_w hw 10 rfl) (own_w hw 141 rfl) (own_w hw 140 rfl))) (Cond.privateMethod_at (mvP hZ (own_w hw 141 rfl) (args := #[]))) (mvT hZ (own_w hw 142 rfl)) (by decide) (backOf (W := 0) (rm19k0 l Z a0 hw [] a1 wb wk w0 w1 vv h0 n0 Z0 H0 H1 H2) hZ (own_w hw 142 rfl) (own_w hw 11 rfl) (by decide) (by decide)) (g := (mkF m 12 #[.val (.ref a1), .val (.int (1 : Int32))] [(.int (0 : Int32)), (.ref a1)])) rfl (by rw [hml]; rfl) (Steps.refl _) (a := a1) (by rw [e0]; exact q101) q101' (argsL := [(.int (0 : Int32))]) (rest := []) (lenOf pd_4 rfl) rfl (by show 2 * 0 + _ ≤ _; exact Nat.le_of_eq rfl) (hb hby d18_12) (fun _ _ => ⟨rfl, e0, (by decide : 0 + 0 ≤ _), (by decide : 0 + 0 ≤ _)⟩)
  dsimp only [Pt.U, Pt.locs, Pt.cells, Pt.slots] at X101 l101 y101 z101 st101 hQ101
  subst l101 y101 z101
  obtain ⟨rfl, Nq101, Heq101⟩ := hQ101
  have N101 := Fr.app N0 Nq101
  obtain ⟨fs, hr, hrun, hended, hW, hsame⟩ := X101.leave (v := some (.int vv)) (fun h => by rw [Bd.returns] at h; cases h)
  refine ⟨_, _, pre0 _ ?_, hrun, hended, _, _, rfl, ?_, ⟨_, rfl⟩, hW, hsame.mono (by decide) (by decide)⟩
  · skip
    show Steps p.tables e below (s₁.setTop (mkF m 0 #[.val (.ref a1), .val (.int (1 : Int32))] [])) _
    refine XS.iloadN X0.here hx rfl (hb hby d18_0) rfl ?_
    refine XS.ifYes X0.here hx rfl (pc0 := 1) (pc' := 8) rfl (hb hby d18_1) rfl ((if0 _ _).trans (feq (by decide : ¬ ((1 : Int32) = (0 : Int32)))).2) (by decide) (by decide) ?_
    refine XS.aloadN X0.here hx rfl (hb hby d18_8) rfl rfl ?_
    refine XS.iloadN X0.here hx rfl (hb hby d18_9) rfl ?_
    refine XS.iconst X0.here hx rfl (hb hby d18_10) ?_
    refine XS.isub X0.here hx rfl (hb hby d18_11) rfl ?_
    show Steps p.tables e below (s₁.setTop (mkF m 12 #[.val (.ref a1), .val (.int (1 : Int32))] [(.int ((1 : Int32) - (1 : Int32))), (.ref a1)])) _
    rw [show ((1 : Int32) - (1 : Int32)) = (0 : Int32) from by decide]
    show Steps p.tables e below (s₁.setTop (mkF m 12 #[.val (.ref a1), .val (.int (1 : Int32))] [(.int (0 : Int32)), (.ref a1)])) _
    refine st101.trans ?_
    show Steps p.tables e below (T101.setTop (mkF m 15 #[.val (.ref a1), .val (.int (1 : Int32))] [(.int vv)])) _
    exact retI X101 hx Bd.returns (hb hby d18_15) hr
  · show Q18k1 Z a1 wb wk w0 w1 vv h0 n0 _ T101.heap _
    rw [Heq101]
    exact ⟨rfl, N101, rfl⟩
theorem d31_0 : decode prog_64_method_2_code 0 = .ok (.aload_n 0, 1) := by decide +kernel
theorem d31_1 : decode prog_64_method_2_code 1 = .ok (.getfield 24, 3) := by decide +kernel
theorem d31_4 : decode prog_64_method_2_code 4 = .ok (.aload_n 0, 1) := by decide +kernel
theorem d31_5 : decode prog_64_method_2_code 5 = .ok (.getfield 9, 3) := by decide +kernel
theorem d31_8 : decode prog_64_method_2_code 8 = .ok (.arraylength, 1) := by decide +kernel
theorem d31_9 : decode prog_64_method_2_code 9 = .ok (.if_icmp .ne 27, 3) := by decide +kernel
theorem d31_36 : decode prog_64_method_2_code 36 = .ok (.aload_n 0, 1) := by decide +kernel
theorem d31_37 : decode prog_64_method_2_code 37 = .ok (.getfield 9, 3) := by decide +kernel
theorem d31_40 : decode prog_64_method_2_code 40 = .ok (.aload_n 0, 1) := by decide +kernel
theorem d31_41 : decode prog_64_method_2_code 41 = .ok (.dup, 1) := by decide +kernel
theorem d31_42 : decode prog_64_method_2_code 42 = .ok (.getfield 24, 3) := by decide +kernel
theorem d31_45 : decode prog_64_method_2_code 45 = .ok (.dup_x1, 1) := by decide +kernel
theorem d31_46 : decode prog_64_method_2_code 46 = .ok (.iconst 1, 1) := by decide +kernel
theorem d31_47 : decode prog_64_method_2_code 47 = .ok (.iadd, 1) := by decide +kernel
theorem d31_48 : decode prog_64_method_2_code 48 = .ok (.putfield 24, 3) := by decide +kernel
theorem d31_51 : decode prog_64_method_2_code 51 = .ok (.iload_n 1, 1) := by decide +kernel
theorem d31_52 : decode prog_64_method_2_code 52 = .ok (.castore, 1) := by decide +kernel
theorem d31_53 : decode prog_64_method_2_code 53 = .ok (.return_, 1) := by decide +kernel
theorem ef_31n0 (m : MethodId) (a1 : Addr) (p2 : Int32) : entryFrame m #[(.ref a1), (.int p2)] 2 = mkF m 0 #[.val (.ref a1), .val (.int p2)] [] := by first | (simp [entryFrame, mkF, argsToLocals, Value.category]; done) | rfl
def Q31n0 (Z : State) (a1 : Addr) (p2 : Int32) (w : Int32) (cs : Int32) (cb : Addr) (ck : ClassId) (wb : Addr) (x0 : Int32) (x1 : Int32) (h0 : Heap) (n0 : Nat) (v : Option Value) (h : Heap) (L : List Loc) : Prop := v = none ∧ Fr n0 L ∧ Keep h0 h [a1, cb] ∧ Fld Z h a1 "com/example/rouse/rouse/shell/CommandLine" "words" "I" (.int w) ∧ Fld Z h a1 "com/example/rouse/rouse/shell/CommandLine" "commandStart" "I" (.int cs) ∧ Fld Z h a1 "com/example/rouse/rouse/shell/CommandLine" "length" "I" (.int ((0 : Int32) + (1 : Int32))) ∧ Fld Z h a1 "com/example/rouse/rouse/shell/CommandLine" "characters" "[C" (.ref cb) ∧ Fld Z h a1 "com/example/rouse/rouse/shell/CommandLine" "wordEnds" "[I" (.ref wb) ∧ Arv Z h cb ck .char (16 : Int32) (own_zl (.int (own_at (0 : Int32) (nar .char p2) x0)) (.int (own_at (0 : Int32) x1 (nar .char p2)))) (.int (0 : Int32))
set_option maxRecDepth 65536 in
set_option maxHeartbeats 40000000 in
theorem rm31n0 (l : Launch) (Z : State) (a0 : Array Value) (hw : ∀ d ∈ tables_1, d.before a0 Z = true) (ws : List Jvm.Cond) (a1 : Addr) (p2 : Int32) (w : Int32) (cs : Int32) (cb : Addr) (ck : ClassId) (wb : Addr) (x0 : Int32) (x1 : Int32) (h0 : Heap) (n0 : Nat) (Z0 : n0 ≤ h0.size) (H0 : Exa Z h0 a1 "com/example/rouse/rouse/shell/CommandLine") (H1 : Fld Z h0 a1 "com/example/rouse/rouse/shell/CommandLine" "words" "I" (.int w)) (H2 : Fld Z h0 a1 "com/example/rouse/rouse/shell/CommandLine" "commandStart" "I" (.int cs)) (H3 : Fld Z h0 a1 "com/example/rouse/rouse/shell/CommandLine" "length" "I" (.int (0 : Int32))) (H4 : Fld Z h0 a1 "com/example/rouse/rouse/shell/CommandLine" "characters" "[C" (.ref cb)) (H5 : Fld Z h0 a1 "com/example/rouse/rouse/shell/CommandLine" "wordEnds" "[I" (.ref wb)) (H6 : Arv Z h0 cb ck .char (16 : Int32) (own_zl (.int x0) (.int x1)) (.int (0 : Int32))) (H7 : n0 ≤ a1) (H8 : n0 ≤ cb) :
    own_MF l (⟨"com/example/rouse/rouse/shell/CommandLine", "append", "(C)V"⟩ : MethodName) (Jvm.Cond.code (⟨"com/example/rouse/rouse/shell/CommandLine", "append", "(C)V"⟩ : MethodName) prog_64_method_2_code 2 none :: ws) ({ frames := 0, cells := 0, slots := 0, locals := 0 } : Room) #[(.ref a1), (.int p2)] Z h0 (Q31n0 Z a1 p2 w cs cb ck wb x0 x1 h0 n0) := by
  refine MetFree.of_bodySF (plainFor_of_name pn_com_example_rouse_rouse_shell_CommandLine) hisR ?_
  intro p e s m args below meth c s₁ Bd hml0 hP hK
  obtain ⟨rfl, hZ, hh⟩ := hP
  have hx := Bd.exec
  have hby := Bd.bytes
  have hml : c.maxLocals = 2 := hml0
  have hown : s.vm.findClass "com/example/rouse/rouse/shell/CommandLine" = some m.cls := findClass_of_methodNamed Bd.named
  have hnm := (name_of_methodNamed Bd.named Bd.method).1
  have X0 : Stand p l e ({ frames := 0, cells := 0, slots := 0, locals := 0 } : Room) s m #[(.ref a1), (.int p2)] below meth c s₁ [] 0 0 := Stand.of_body Bd
  have e0 : s₁.heap = h0 := by rw [← hh, Bd.state]; rfl
  have N0 := Fr.nil n0
  have pre0 : ∀ t, Steps p.tables e below (s₁.setTop (mkF m 0 #[.val (.ref a1), .val (.int p2)] [])) t → Steps p.tables e below (s₁.setTop (entryFrame m #[(.ref a1), (.int p2)] 2)) t := fun t k => castTop (ef_31n0 m a1 p2) k
  obtain ⟨T101, X101, e101, st101⟩ := getF X0 hx hZ hown (host := "") (Or.inl (own_w hw 35 rfl)) Via.refl e0 H3 (g := (mkF m 1 #[.val (.ref a1), .val (.int p2)] [(.ref a1)])) rfl rfl (hb hby d31_1)
  obtain ⟨T102, X102, e102, st102⟩ := getF X101 hx hZ hown (host := "") (Or.inl (own_w hw 19 rfl)) Via.refl e101 H4 (g := (mkF m 5 #[.val (.ref a1), .val (.int p2)] [(.ref a1), (.int (0 : Int32))])) rfl rfl (hb hby d31_5)
  obtain ⟨cl103, Ar103, -, S103, M103, -, -⟩ := id H6
  obtain ⟨T104, X104, e104, st104⟩ := getF X102 hx hZ hown (host := "") (Or.inl (own_w hw 19 rfl)) Via.refl e102 H4 (g := (mkF m 37 #[.val (.ref a1), .val (.int p2)] [(.ref a1)])) rfl rfl (hb hby d31_37)
  obtain ⟨T105, X105, e105, st105⟩ := getF X104 hx hZ hown (host := "") (Or.inl (own_w hw 35 rfl)) Via.refl e104 H3 (g := (mkF m 42 #[.val (.ref a1), .val (.int p2)] [(.ref a1), (.ref a1), (.ref cb)])) rfl rfl (hb hby d31_42)
  obtain ⟨T106, h106, X106, e106, W106, st106⟩ := putF X105 hx hZ hown (host := "") (Or.inl (own_w hw 35 rfl)) Via.refl e105 H3 H0 (Or.inl (own_w hw 36 rfl)) (own_w hw 10 rfl) (ty := .int) (by decide) rfl rfl (g := (mkF m 48 #[.val (.ref a1), .val (.int p2)] [(.int (1 : Int32)), (.ref a1), (.int (0 : Int32)), (.ref cb)])) rfl rfl (hb hby d31_48)
  have Fw106 := H3.same W106
  have N106 := Fr.snoc X106 N0 H7
  have ne107 : a1 ≠ cb := Exa.neArv H0 H6 (own_w hw 10 rfl)
  have f108 := (H6.other W106 (Ne.symm ne107))
  obtain ⟨cl109, Ar109, qc109, S109, M109, Hh109, G109⟩ := id f108
  have hin109 : ¬ ((0 : Int32) < 0 ∨ cl109.slots.size ≤ ((0 : Int32)).toNatClampNeg) := inb_of S109 ⟨by decide, by decide⟩
  obtain ⟨T109, h109, X109, e109, W109, st109⟩ := stC X106 hx hZ e106 Ar109 (j := (0 : Int32)) hin109 (g := (mkF m 52 #[.val (.ref a1), .val (.int p2)] [(.int p2), (.int (0 : Int32)), (.ref cb)])) rfl rfl (hb hby d31_52)
  have V109 : Arv Z h109 cb ck .char (16 : Int32) (own_zl (.int (nar .char p2)) (.int x1)) (.int (0 : Int32)) := Arv.set Ar109 qc109 S109 M109 Hh109 G109 (fits_nar_char _) W109 0 rfl (by first | decide | (simp; done))
  have N109 := Fr.snoc X109 N106 H8
  have f110 := (Fw106.other W109 (Or.inl ne107))
  have f111 := ((H1.other W106 (Or.inr (slot_ne (Or.inl (own_w hw 34 rfl)) (Or.inl (own_w hw 36 rfl)) (by decide) (t := .int) (t' := .int) (by decide) (by decide)))).other W109 (Or.inl ne107))
  have f112 := ((H2.other W106 (Or.inr (slot_ne (Or.inl (own_w hw 43 rfl)) (Or.inl (own_w hw 36 rfl)) (by decide) (t := .int) (t' := .int) (by decide) (by decide)))).other W109 (Or.inl ne107))
  have f113 := ((H4.other W106 (Or.inr (slot_ne (Or.inl (own_w hw 20 rfl)) (Or.inl (own_w hw 36 rfl)) (by decide) (t := (.array .char)) (t' := .int) (by decide) (by decide)))).other W109 (Or.inl ne107))
  have f114 := ((H5.other W106 (Or.inr (slot_ne (Or.inl (own_w hw 23 rfl)) (Or.inl (own_w hw 36 rfl)) (by decide) (t := (.array .int)) (t' := .int) (by decide) (by decide)))).other W109 (Or.inl ne107))
  obtain ⟨fs, hr, hrun, hended, hW, hsame⟩ := X109.leave (v := none) (fun _ => rfl)
  refine ⟨_, _, pre0 _ ?_, hrun, hended, _, _, rfl, ?_, ⟨_, rfl⟩, hW, hsame.mono (by decide) (by decide)⟩
  · skip
    show Steps p.tables e below (s₁.setTop (mkF m 0 #[.val (.ref a1), .val (.int p2)] [])) _
    refine XS.aloadN X0.here hx rfl (hb hby d31_0) rfl rfl ?_
    refine st101 _ ?_
    refine XS.aloadN X101.here hx rfl (hb hby d31_4) rfl rfl ?_
    refine st102 _ ?_
    show Steps p.tables e below (T102.setTop (mkF m 8 #[.val (.ref a1), .val (.int p2)] [(.ref cb), (.int (0 : Int32))])) _
    refine X102.arraylength hx (by rw [e102]; exact Ar103.1) (State.isArrayOf_alike hZ.alike Ar103.2.1) (g := (mkF m 8 #[.val (.ref a1), .val (.int p2)] [(.ref cb), (.int (0 : Int32))])) rfl rfl (hb hby d31_8) _ ?_
    rw [len_of S103 M103]
    show Steps p.tables e below (T102.setTop (mkF m 9 #[.val (.ref a1), .val (.int p2)] [(.int (16 : Int32)), (.int (0 : Int32))])) _
    refine XS.icmpYes X102.here hx rfl (pc0 := 9) (pc' := 36) rfl (hb hby d31_9) rfl (feq (by decide : ¬ ((0 : Int32) = (16 : Int32)))).2 (by decide) (by decide) ?_
    refine XS.aloadN X102.here hx rfl (hb hby d31_36) rfl rfl ?_
    refine st104 _ ?_
    refine XS.aloadN X104.here hx rfl (hb hby d31_40) rfl rfl ?_
    refine XS.dup X104.here hx rfl (hb hby d31_41) rfl rfl ?_
    refine st105 _ ?_
    refine XS.dupX1 X105.here hx rfl (hb hby d31_45) rfl rfl rfl ?_
    refine XS.iconst X105.here hx rfl (hb hby d31_46) ?_
    refine XS.iadd X105.here hx rfl (hb hby d31_47) rfl ?_
    show Steps p.tables e below (T105.setTop (mkF m 48 #[.val (.ref a1), .val (.int p2)] [(.int ((0 : Int32) + (1 : Int32))), (.ref a1), (.int (0 : Int32)), (.ref cb)])) _
    rw [show ((0 : Int32) + (1 : Int32)) = (1 : Int32) from by decide]
    show Steps p.tables e below (T105.setTop (mkF m 48 #[.val (.ref a1), .val (.int p2)] [(.int (1 : Int32)), (.ref a1), (.int (0 : Int32)), (.ref cb)])) _
    refine st106 _ ?_
    refine XS.iloadN X106.here hx rfl (hb hby d31_51) rfl ?_
    refine st109 _ ?_
    show Steps p.tables e below (T109.setTop (mkF m 53 #[.val (.ref a1), .val (.int p2)] [])) _
    exact X109.returnOut hx Bd.returns (hb hby d31_53) hr
  · show Q31n0 Z a1 p2 w cs cb ck wb x0 x1 h0 n0 _ T109.heap _
    rw [e109]
    exact ⟨rfl, N109, (((Keep.refl h0 [a1, cb]).wr W106 (Or.inl (List.mem_of_getElem? (i := 0) rfl))).wr W109 (Or.inl (List.mem_of_getElem? (i := 1) rfl))), f111, f112, (by rw [show ((0 : Int32) + (1 : Int32)) = (1 : Int32) from by decide]; exact f110), f113, f114, (by rw [own_at0, own_at0]; exact V109)⟩
theorem ef_31n1 (m : MethodId) (a1 : Addr) (p2 : Int32) : entryFrame m #[(.ref a1), (.int p2)] 2 = mkF m 0 #[.val (.ref a1), .val (.int p2)] [] := by first | (simp [entryFrame, mkF, argsToLocals, Value.category]; done) | rfl
def Q31n1 (Z : State) (a1 : Addr) (p2 : Int32) (w : Int32) (cs : Int32) (cb : Addr) (ck : ClassId) (wb : Addr) (x0 : Int32) (x1 : Int32) (h0 : Heap) (n0 : Nat) (v : Option Value) (h : Heap) (L : List Loc) : Prop := v = none ∧ Fr n0 L ∧ Keep h0 h [a1, cb] ∧ Fld Z h a1 "com/example/rouse/rouse/shell/CommandLine" "words" "I" (.int w) ∧ Fld Z h a1 "com/example/rouse/rouse/shell/CommandLine" "commandStart" "I" (.int cs) ∧ Fld Z h a1 "com/example/rouse/rouse/shell/CommandLine" "length" "I" (.int ((1 : Int32) + (1 : Int32))) ∧ Fld Z h a1 "com/example/rouse/rouse/shell/CommandLine" "characters" "[C" (.ref cb) ∧ Fld Z h a1 "com/example/rouse/rouse/shell/CommandLine" "wordEnds" "[I" (.ref wb) ∧ Arv Z h cb ck .char (16 : Int32) (own_zl (.int (own_at (1 : Int32) (nar .char p2) x0)) (.int (own_at (1 : Int32) x1 (nar .char p2)))) (.int (0 : Int32))
set_option maxRecDepth 65536 in
set_option maxHeartbeats 40000000 in
theorem rm31n1 (l : Launch) (Z : State) (a0 : Array Value) (hw : ∀ d ∈ tables_1, d.before a0 Z = true) (ws : List Jvm.Cond) (a1 : Addr) (p2 : Int32) (w : Int32) (cs : Int32) (cb : Addr) (ck : ClassId) (wb : Addr) (x0 : Int32) (x1 : Int32) (h0 : Heap) (n0 : Nat) (Z0 : n0 ≤ h0.size) (H0 : Exa Z h0 a1 "com/example/rouse/rouse/shell/CommandLine") (H1 : Fld Z h0 a1 "com/example/rouse/rouse/shell/CommandLine" "words" "I" (.int w)) (H2 : Fld Z h0 a1 "com/example/rouse/rouse/shell/CommandLine" "commandStart" "I" (.int cs)) (H3 : Fld Z h0 a1 "com/example/rouse/rouse/shell/CommandLine" "length" "I" (.int (1 : Int32))) (H4 : Fld Z h0 a1 "com/example/rouse/rouse/shell/CommandLine" "characters" "[C" (.ref cb)) (H5 : Fld Z h0 a1 "com/example/rouse/rouse/shell/CommandLine" "wordEnds" "[I" (.ref wb)) (H6 : Arv Z h0 cb ck .char (16 : Int32) (own_zl (.int x0) (.int x1)) (.int (0 : Int32))) (H7 : n0 ≤ a1) (H8 : n0 ≤ cb) :
    own_MF l (⟨"com/example/rouse/rouse/shell/CommandLine", "append", "(C)V"⟩ : MethodName) (Jvm.Cond.code (⟨"com/example/rouse/rouse/shell/CommandLine", "append", "(C)V"⟩ : MethodName) prog_64_method_2_code 2 none :: ws) ({ frames := 0, cells := 0, slots := 0, locals := 0 } : Room) #[(.ref a1), (.int p2)] Z h0 (Q31n1 Z a1 p2 w cs cb ck wb x0 x1 h0 n0) := by
  refine MetFree.of_bodySF (plainFor_of_name pn_com_example_rouse_rouse_shell_CommandLine) hisR ?_
  intro p e s m args below meth c s₁ Bd hml0 hP hK
  obtain ⟨rfl, hZ, hh⟩ := hP
  have hx := Bd.exec
  have hby := Bd.bytes
  have hml : c.maxLocals = 2 := hml0
  have hown : s.vm.findClass "com/example/rouse/rouse/shell/CommandLine" = some m.cls := findClass_of_methodNamed Bd.named
  have hnm := (name_of_methodNamed Bd.named Bd.method).1
  have X0 : Stand p l e ({ frames := 0, cells := 0, slots := 0, locals := 0 } : Room) s m #[(.ref a1), (.int p2)] below meth c s₁ [] 0 0 := Stand.of_body Bd
  have e0 : s₁.heap = h0 := by rw [← hh, Bd.state]; rfl
  have N0 := Fr.nil n0
  have pre0 : ∀ t, Steps p.tables e below (s₁.setTop (mkF m 0 #[.val (.ref a1), .val (.int p2)] [])) t → Steps p.tables e below (s₁.setTop (entryFrame m #[(.ref a1), (.int p2)] 2)) t := fun t k => castTop (ef_31n1 m a1 p2) k
  obtain ⟨T101, X101, e101, st101⟩ := getF X0 hx hZ hown (host := "") (Or.inl (own_w hw 35 rfl)) Via.refl e0 H3 (g := (mkF m 1 #[.val (.ref a1), .val (.int p2)] [(.ref a1)])) rfl rfl (hb hby d31_1)
  obtain ⟨T102, X102, e102, st102⟩ := getF X101 hx hZ hown (host := "") (Or.inl (own_w hw 19 rfl)) Via.refl e101 H4 (g := (mkF m 5 #[.val (.ref a1), .val (.int p2)] [(.ref a1), (.int (1 : Int32))])) rfl rfl (hb hby d31_5)
  obtain ⟨cl103, Ar103, -, S103, M103, -, -⟩ := id H6
  obtain ⟨T104, X104, e104, st104⟩ := getF X102 hx hZ hown (host := "") (Or.inl (own_w hw 19 rfl)) Via.refl e102 H4 (g := (mkF m 37 #[.val (.ref a1), .val (.int p2)] [(.ref a1)])) rfl rfl (hb hby d31_37)
  obtain ⟨T105, X105, e105, st105⟩ := getF X104 hx hZ hown (host := "") (Or.inl (own_w hw 35 rfl)) Via.refl e104 H3 (g := (mkF m 42 #[.val (.ref a1), .val (.int p2)] [(.ref a1), (.ref a1), (.ref cb)])) rfl rfl (hb hby d31_42)
  obtain ⟨T106, h106, X106, e106, W106, st106⟩ := putF X105 hx hZ hown (host := "") (Or.inl (own_w hw 35 rfl)) Via.refl e105 H3 H0 (Or.inl (own_w hw 36 rfl)) (own_w hw 10 rfl) (ty := .int) (by decide) rfl rfl (g := (mkF m 48 #[.val (.ref a1), .val (.int p2)] [(.int (2 : Int32)), (.ref a1), (.int (1 : Int32)), (.ref cb)])) rfl rfl (hb hby d31_48)
  have Fw106 := H3.same W106
  have N106 := Fr.snoc X106 N0 H7
  have ne107 : a1 ≠ cb := Exa.neArv H0 H6 (own_w hw 10 rfl)
  have f108 := (H6.other W106 (Ne.symm ne107))
  obtain ⟨cl109, Ar109, qc109, S109, M109, Hh109, G109⟩ := id f108
  have hin109 : ¬ ((1 : Int32) < 0 ∨ cl109.slots.size ≤ ((1 : Int32)).toNatClampNeg) := inb_of S109 ⟨by decide, by decide⟩
  obtain ⟨T109, h109, X109, e109, W109, st109⟩ := stC X106 hx hZ e106 Ar109 (j := (1 : Int32)) hin109 (g := (mkF m 52 #[.val (.ref a1), .val (.int p2)] [(.int p2), (.int (1 : Int32)), (.ref cb)])) rfl rfl (hb hby d31_52)
  have V109 : Arv Z h109 cb ck .char (16 : Int32) (own_zl (.int x0) (.int (nar .char p2))) (.int (0 : Int32)) := Arv.set Ar109 qc109 S109 M109 Hh109 G109 (fits_nar_char _) W109 1 rfl (by first | decide | (simp; done))
  have N109 := Fr.snoc X109 N106 H8
  have f110 := (Fw106.other W109 (Or.inl ne107))
  have f111 := ((H1.other W106 (Or.inr (slot_ne (Or.inl (own_w hw 34 rfl)) (Or.inl (own_w hw 36 rfl)) (by decide) (t := .int) (t' := .int) (by decide) (by decide)))).other W109 (Or.inl ne107))
  have f112 := ((H2.other W106 (Or.inr (slot_ne (Or.inl (own_w hw 43 rfl)) (Or.inl (own_w hw 36 rfl)) (by decide) (t := .int) (t' := .int) (by decide) (by decide)))).other W109 (Or.inl ne107))
  have f113 := ((H4.other W106 (Or.inr (slot_ne (Or.inl (own_w hw 20 rfl)) (Or.inl (own_w hw 36 rfl)) (by decide) (t := (.array .char)) (t' := .int) (by decide) (by decide)))).other W109 (Or.inl ne107))
  have f114 := ((H5.other W106 (Or.inr (slot_ne (Or.inl (own_w hw 23 rfl)) (Or.inl (own_w hw 36 rfl)) (by decide) (t := (.array .int)) (t' := .int) (by decide) (by decide)))).other W109 (Or.inl ne107))
  obtain ⟨fs, hr, hrun, hended, hW, hsame⟩ := X109.leave (v := none) (fun _ => rfl)
  refine ⟨_, _, pre0 _ ?_, hrun, hended, _, _, rfl, ?_, ⟨_, rfl⟩, hW, hsame.mono (by decide) (by decide)⟩
  · skip
    show Steps p.tables e below (s₁.setTop (mkF m 0 #[.val (.ref a1), .val (.int p2)] [])) _
    refine XS.aloadN X0.here hx rfl (hb hby d31_0) rfl rfl ?_
    refine st101 _ ?_
    refine XS.aloadN X101.here hx rfl (hb hby d31_4) rfl rfl ?_
    refine st102 _ ?_
    show Steps p.tables e below (T102.setTop (mkF m 8 #[.val (.ref a1), .val (.int p2)] [(.ref cb), (.int (1 : Int32))])) _
    refine X102.arraylength hx (by rw [e102]; exact Ar103.1) (State.isArrayOf_alike hZ.alike Ar103.2.1) (g := (mkF m 8 #[.val (.ref a1), .val (.int p2)] [(.ref cb), (.int (1 : Int32))])) rfl rfl (hb hby d31_8) _ ?_
    rw [len_of S103 M103]
    show Steps p.tables e below (T102.setTop (mkF m 9 #[.val (.ref a1), .val (.int p2)] [(.int (16 : Int32)), (.int (1 : Int32))])) _
    refine XS.icmpYes X102.here hx rfl (pc0 := 9) (pc' := 36) rfl (hb hby d31_9) rfl (feq (by decide : ¬ ((1 : Int32) = (16 : Int32)))).2 (by decide) (by decide) ?_
    refine XS.aloadN X102.here hx rfl (hb hby d31_36) rfl rfl ?_
    refine st104 _ ?_
    refine XS.aloadN X104.here hx rfl (hb hby d31_40) rfl rfl ?_
    refine XS.dup X104.here hx rfl (hb hby d31_41) rfl rfl ?_
    refine st105 _ ?_
    refine XS.dupX1 X105.here hx rfl (hb hby d31_45) rfl rfl rfl ?_
    refine XS.iconst X105.here hx rfl (hb hby d31_46) ?_
    refine XS.iadd X105.here hx rfl (hb hby d31_47) rfl ?_
    show Steps p.tables e below (T105.setTop (mkF m 48 #[.val (.ref a1), .val (.int p2)] [(.int ((1 : Int32) + (1 : Int32))), (.ref a1), (.int (1 : Int32)), (.ref cb)])) _
    rw [show ((1 : Int32) + (1 : Int32)) = (2 : Int32) from by decide]
    show Steps p.tables e below (T105.setTop (mkF m 48 #[.val (.ref a1), .val (.int p2)] [(.int (2 : Int32)), (.ref a1), (.int (1 : Int32)), (.ref cb)])) _
    refine st106 _ ?_
    refine XS.iloadN X106.here hx rfl (hb hby d31_51) rfl ?_
    refine st109 _ ?_
    show Steps p.tables e below (T109.setTop (mkF m 53 #[.val (.ref a1), .val (.int p2)] [])) _
    exact X109.returnOut hx Bd.returns (hb hby d31_53) hr
  · show Q31n1 Z a1 p2 w cs cb ck wb x0 x1 h0 n0 _ T109.heap _
    rw [e109]
    exact ⟨rfl, N109, (((Keep.refl h0 [a1, cb]).wr W106 (Or.inl (List.mem_of_getElem? (i := 0) rfl))).wr W109 (Or.inl (List.mem_of_getElem? (i := 1) rfl))), f111, f112, (by rw [show ((1 : Int32) + (1 : Int32)) = (2 : Int32) from by decide]; exact f110), f113, f114, (by rw [own_at1, own_at1]; exact V109)⟩
theorem ef_31g (m : MethodId) (a1 : Addr) (p2 : Int32) : entryFrame m #[(.ref a1), (.int p2)] 2 = mkF m 0 #[.val (.ref a1), .val (.int p2)] [] := by first | (simp [entryFrame, mkF, argsToLocals, Value.category]; done) | rfl
def Q31g (Z : State) (a1 : Addr) (p2 : Int32) (w : Int32) (cs : Int32) (cb : Addr) (ck : ClassId) (wb : Addr) (x0 : Int32) (x1 : Int32) (n : Int32) (h0 : Heap) (n0 : Nat) (v : Option Value) (h : Heap) (L : List Loc) : Prop := v = none ∧ Fr n0 L ∧ Keep h0 h [a1, cb] ∧ Fld Z h a1 "com/example/rouse/rouse/shell/CommandLine" "words" "I" (.int w) ∧ Fld Z h a1 "com/example/rouse/rouse/shell/CommandLine" "commandStart" "I" (.int cs) ∧ Fld Z h a1 "com/example/rouse/rouse/shell/CommandLine" "length" "I" (.int (n + (1 : Int32))) ∧ Fld Z h a1 "com/example/rouse/rouse/shell/CommandLine" "characters" "[C" (.ref cb) ∧ Fld Z h a1 "com/example/rouse/rouse/shell/CommandLine" "wordEnds" "[I" (.ref wb) ∧ Arv Z h cb ck .char (16 : Int32) (own_zl (.int (own_at n (nar .char p2) x0)) (.int (own_at n x1 (nar .char p2)))) (.int (0 : Int32))
set_option maxRecDepth 65536 in
set_option maxHeartbeats 40000000 in
theorem rm31g (l : Launch) (Z : State) (a0 : Array Value) (hw : ∀ d ∈ tables_1, d.before a0 Z = true) (ws : List Jvm.Cond) (a1 : Addr) (p2 : Int32) (w : Int32) (cs : Int32) (cb : Addr) (ck : ClassId) (wb : Addr) (x0 : Int32) (x1 : Int32) (n : Int32) (h0 : Heap) (n0 : Nat) (Z0 : n0 ≤ h0.size) (H0 : Exa Z h0 a1 "com/example/rouse/rouse/shell/CommandLine") (H1 : Fld Z h0 a1 "com/example/rouse/rouse/shell/CommandLine" "words" "I" (.int w)) (H2 : Fld Z h0 a1 "com/example/rouse/rouse/shell/CommandLine" "commandStart" "I" (.int cs)) (H3 : Fld Z h0 a1 "com/example/rouse/rouse/shell/CommandLine" "length" "I" (.int n)) (H4 : Fld Z h0 a1 "com/example/rouse/rouse/shell/CommandLine" "characters" "[C" (.ref cb)) (H5 : Fld Z h0 a1 "com/example/rouse/rouse/shell/CommandLine" "wordEnds" "[I" (.ref wb)) (H6 : Arv Z h0 cb ck .char (16 : Int32) (own_zl (.int x0) (.int x1)) (.int (0 : Int32))) (H7 : n0 ≤ a1) (H8 : n0 ≤ cb) (H9 : own_01 n) :
    own_MF l (⟨"com/example/rouse/rouse/shell/CommandLine", "append", "(C)V"⟩ : MethodName) (Jvm.Cond.code (⟨"com/example/rouse/rouse/shell/CommandLine", "append", "(C)V"⟩ : MethodName) prog_64_method_2_code 2 none :: ws) ({ frames := 0, cells := 0, slots := 0, locals := 0 } : Room) #[(.ref a1), (.int p2)] Z h0 (Q31g Z a1 p2 w cs cb ck wb x0 x1 n h0 n0) := by
  rcases H9 with rfl | rfl
  · exact rm31n0 l Z a0 hw ws a1 p2 w cs cb ck wb x0 x1 h0 n0 Z0 H0 H1 H2 H3 H4 H5 H6 H7 H8
  · exact rm31n1 l Z a0 hw ws a1 p2 w cs cb ck wb x0 x1 h0 n0 Z0 H0 H1 H2 H3 H4 H5 H6 H7 H8
theorem d3_0 : decode prog_64_method_3_code 0 = .ok (.aload_n 0, 1) := by decide +kernel
theorem d3_1 : decode prog_64_method_3_code 1 = .ok (.getfield 39, 3) := by decide +kernel
theorem d3_4 : decode prog_64_method_3_code 4 = .ok (.aload_n 0, 1) := by decide +kernel
theorem d3_5 : decode prog_64_method_3_code 5 = .ok (.getfield 13, 3) := by decide +kernel
theorem d3_8 : decode prog_64_method_3_code 8 = .ok (.arraylength, 1) := by decide +kernel
theorem d3_9 : decode prog_64_method_3_code 9 = .ok (.if_icmp .ne 27, 3) := by decide +kernel
theorem d3_36 : decode prog_64_method_3_code 36 = .ok (.aload_n 0, 1) := by decide +kernel
theorem d3_37 : decode prog_64_method_3_code 37 = .ok (.getfield 13, 3) := by decide +kernel
theorem d3_40 : decode prog_64_method_3_code 40 = .ok (.aload_n 0, 1) := by decide +kernel
theorem d3_41 : decode prog_64_method_3_code 41 = .ok (.dup, 1) := by decide +kernel
theorem d3_42 : decode prog_64_method_3_code 42 = .ok (.getfield 39, 3) := by decide +kernel
theorem d3_45 : decode prog_64_method_3_code 45 = .ok (.dup_x1, 1) := by decide +kernel
theorem d3_46 : decode prog_64_method_3_code 46 = .ok (.iconst 1, 1) := by decide +kernel
theorem d3_47 : decode prog_64_method_3_code 47 = .ok (.iadd, 1) := by decide +kernel
theorem d3_48 : decode prog_64_method_3_code 48 = .ok (.putfield 39, 3) := by decide +kernel
theorem d3_51 : decode prog_64_method_3_code 51 = .ok (.aload_n 0, 1) := by decide +kernel
theorem d3_52 : decode prog_64_method_3_code 52 = .ok (.getfield 24, 3) := by decide +kernel
theorem d3_55 : decode prog_64_method_3_code 55 = .ok (.iastore, 1) := by decide +kernel
theorem d3_56 : decode prog_64_method_3_code 56 = .ok (.return_, 1) := by decide +kernel
theorem ef_3k0 (m : MethodId) (a1 : Addr) : entryFrame m #[(.ref a1)] 1 = mkF m 0 #[.val (.ref a1)] [] := by first | (simp [entryFrame, mkF, argsToLocals, Value.category]; done) | rfl
def Q3k0 (Z : State) (a1 : Addr) (cb : Addr) (wb : Addr) (wk : ClassId) (w0 : Int32) (w1 : Int32) (cs : Int32) (n : Int32) (h0 : Heap) (n0 : Nat) (v : Option Value) (h : Heap) (L : List Loc) : Prop := v = none ∧ Fr n0 L ∧ Keep h0 h [a1, wb] ∧ Fld Z h a1 "com/example/rouse/rouse/shell/CommandLine" "words" "I" (.int (1 : Int32)) ∧ Fld Z h a1 "com/example/rouse/rouse/shell/CommandLine" "commandStart" "I" (.int cs) ∧ Fld Z h a1 "com/example/rouse/rouse/shell/CommandLine" "length" "I" (.int n) ∧ Fld Z h a1 "com/example/rouse/rouse/shell/CommandLine" "characters" "[C" (.ref cb) ∧ Fld Z h a1 "com/example/rouse/rouse/shell/CommandLine" "wordEnds" "[I" (.ref wb) ∧ Arv Z h wb wk .int (16 : Int32) (own_zl (.int n) (.int w1)) (.int (0 : Int32))
set_option maxRecDepth 65536 in
set_option maxHeartbeats 40000000 in
theorem rm3k0 (l : Launch) (Z : State) (a0 : Array Value) (hw : ∀ d ∈ tables_1, d.before a0 Z = true) (ws : List Jvm.Cond) (a1 : Addr) (cb : Addr) (wb : Addr) (wk : ClassId) (w0 : Int32) (w1 : Int32) (cs : Int32) (n : Int32) (h0 : Heap) (n0 : Nat) (Z0 : n0 ≤ h0.size) (H0 : Exa Z h0 a1 "com/example/rouse/rouse/shell/CommandLine") (H1 : Fld Z h0 a1 "com/example/rouse/rouse/shell/CommandLine" "words" "I" (.int (0 : Int32))) (H2 : Fld Z h0 a1 "com/example/rouse/rouse/shell/CommandLine" "commandStart" "I" (.int cs)) (H3 : Fld Z h0 a1 "com/example/rouse/rouse/shell/CommandLine" "length" "I" (.int n)) (H4 : Fld Z h0 a1 "com/example/rouse/rouse/shell/CommandLine" "characters" "[C" (.ref cb)) (H5 : Fld Z h0 a1 "com/example/rouse/rouse/shell/CommandLine" "wordEnds" "[I" (.ref wb)) (H6 : Arv Z h0 wb wk .int (16 : Int32) (own_zl (.int w0) (.int w1)) (.int (0 : Int32))) (H7 : n0 ≤ a1) (H8 : n0 ≤ wb) :
    own_MF l (⟨"com/example/rouse/rouse/shell/CommandLine", "endWord", "()V"⟩ : MethodName) (Jvm.Cond.code (⟨"com/example/rouse/rouse/shell/CommandLine", "endWord", "()V"⟩ : MethodName) prog_64_method_3_code 1 none :: ws) ({ frames := 0, cells := 0, slots := 0, locals := 0 } : Room) #[(.ref a1)] Z h0 (Q3k0 Z a1 cb wb wk w0 w1 cs n h0 n0) := by
  refine MetFree.of_bodySF (plainFor_of_name pn_com_example_rouse_rouse_shell_CommandLine) hisR ?_
  intro p e s m args below meth c s₁ Bd hml0 hP hK
  obtain ⟨rfl, hZ, hh⟩ := hP
  have hx := Bd.exec
  have hby := Bd.bytes
  have hml : c.maxLocals = 1 := hml0
  have hown : s.vm.findClass "com/example/rouse/rouse/shell/CommandLine" = some m.cls := findClass_of_methodNamed Bd.named
  have hnm := (name_of_methodNamed Bd.named Bd.method).1
  have X0 : Stand p l e ({ frames := 0, cells := 0, slots := 0, locals := 0 } : Room) s m #[(.ref a1)] below meth c s₁ [] 0 0 := Stand.of_body Bd
  have e0 : s₁.heap = h0 := by rw [← hh, Bd.state]; rfl
  have N0 := Fr.nil n0
  have pre0 : ∀ t, Steps p.tables e below (s₁.setTop (mkF m 0 #[.val (.ref a1)] [])) t → Steps p.tables e below (s₁.setTop (entryFrame m #[(.ref a1)] 1)) t := fun t k => castTop (ef_3k0 m a1) k
  obtain ⟨T101, X101, e101, st101⟩ := getF X0 hx hZ hown (host := "") (Or.inl (own_w hw 33 rfl)) Via.refl e0 H1 (g := (mkF m 1 #[.val (.ref a1)] [(.ref a1)])) rfl rfl (hb hby d3_1)
  obtain ⟨T102, X102, e102, st102⟩ := getF X101 hx hZ hown (host := "") (Or.inl (own_w hw 22 rfl)) Via.refl e101 H5 (g := (mkF m 5 #[.val (.ref a1)] [(.ref a1), (.int (0 : Int32))])) rfl rfl (hb hby d3_5)
  obtain ⟨cl103, Ar103, -, S103, M103, -, -⟩ := id H6
  obtain ⟨T104, X104, e104, st104⟩ := getF X102 hx hZ hown (host := "") (Or.inl (own_w hw 22 rfl)) Via.refl e102 H5 (g := (mkF m 37 #[.val (.ref a1)] [(.ref a1)])) rfl rfl (hb hby d3_37)
  obtain ⟨T105, X105, e105, st105⟩ := getF X104 hx hZ hown (host := "") (Or.inl (own_w hw 33 rfl)) Via.refl e104 H1 (g := (mkF m 42 #[.val (.ref a1)] [(.ref a1), (.ref a1), (.ref wb)])) rfl rfl (hb hby d3_42)
  obtain ⟨T106, h106, X106, e106, W106, st106⟩ := putF X105 hx hZ hown (host := "") (Or.inl (own_w hw 33 rfl)) Via.refl e105 H1 H0 (Or.inl (own_w hw 34 rfl)) (own_w hw 10 rfl) (ty := .int) (by decide) rfl rfl (g := (mkF m 48 #[.val (.ref a1)] [(.int (1 : Int32)), (.ref a1), (.int (0 : Int32)), (.ref wb)])) rfl rfl (hb hby d3_48)
  have Fw106 := H1.same W106
  have N106 := Fr.snoc X106 N0 H7
  have f107 := (H3.other W106 (Or.inr (slot_ne (Or.inl (own_w hw 36 rfl)) (Or.inl (own_w hw 34 rfl)) (by decide) (t := .int) (t' := .int) (by decide) (by decide))))
  obtain ⟨T108, X108, e108, st108⟩ := getF X106 hx hZ hown (host := "") (Or.inl (own_w hw 35 rfl)) Via.refl e106 f107 (g := (mkF m 52 #[.val (.ref a1)] [(.ref a1), (.int (0 : Int32)), (.ref wb)])) rfl rfl (hb hby d3_52)
  have ne109 : a1 ≠ wb := Exa.neArv H0 H6 (own_w hw 10 rfl)
  have f110 := (H6.other W106 (Ne.symm ne109))
  obtain ⟨cl111, Ar111, qc111, S111, M111, Hh111, G111⟩ := id f110
  have hin111 : ¬ ((0 : Int32) < 0 ∨ cl111.slots.size ≤ ((0 : Int32)).toNatClampNeg) := inb_of S111 ⟨by decide, by decide⟩
  obtain ⟨T111, h111, X111, e111, W111, st111⟩ := stI X108 hx hZ e108 Ar111 (j := (0 : Int32)) hin111 (g := (mkF m 55 #[.val (.ref a1)] [(.int n), (.int (0 : Int32)), (.ref wb)])) rfl rfl (hb hby d3_55)
  have V111 : Arv Z h111 wb wk .int (16 : Int32) (own_zl (.int n) (.int w1)) (.int (0 : Int32)) := Arv.set Ar111 qc111 S111 M111 Hh111 G111 rfl W111 0 rfl (by first | decide | (simp; done))
  have N111 := Fr.snoc X111 N106 H8
  have f112 := (Fw106.other W111 (Or.inl ne109))
  have f113 := ((H2.other W106 (Or.inr (slot_ne (Or.inl (own_w hw 43 rfl)) (Or.inl (own_w hw 34 rfl)) (by decide) (t := .int) (t' := .int) (by decide) (by decide)))).other W111 (Or.inl ne109))
  have f114 := (f107.other W111 (Or.inl ne109))
  have f115 := ((H4.other W106 (Or.inr (slot_ne (Or.inl (own_w hw 20 rfl)) (Or.inl (own_w hw 34 rfl)) (by decide) (t := (.array .char)) (t' := .int) (by decide) (by decide)))).other W111 (Or.inl ne109))
  have f116 := ((H5.other W106 (Or.inr (slot_ne (Or.inl (own_w hw 23 rfl)) (Or.inl (own_w hw 34 rfl)) (by decide) (t := (.array .int)) (t' := .int) (by decide) (by decide)))).other W111 (Or.inl ne109))
  obtain ⟨fs, hr, hrun, hended, hW, hsame⟩ := X111.leave (v := none) (fun _ => rfl)
  refine ⟨_, _, pre0 _ ?_, hrun, hended, _, _, rfl, ?_, ⟨_, rfl⟩, hW, hsame.mono (by decide) (by decide)⟩
  · skip
    show Steps p.tables e below (s₁.setTop (mkF m 0 #[.val (.ref a1)] [])) _
    refine XS.aloadN X0.here hx rfl (hb hby d3_0) rfl rfl ?_
    refine st101 _ ?_
    refine XS.aloadN X101.here hx rfl (hb hby d3_4) rfl rfl ?_
    refine st102 _ ?_
    show Steps p.tables e below (T102.setTop (mkF m 8 #[.val (.ref a1)] [(.ref wb), (.int (0 : Int32))])) _
    refine X102.arraylength hx (by rw [e102]; exact Ar103.1) (State.isArrayOf_alike hZ.alike Ar103.2.1) (g := (mkF m 8 #[.val (.ref a1)] [(.ref wb), (.int (0 : Int32))])) rfl rfl (hb hby d3_8) _ ?_
    rw [len_of S103 M103]
    show Steps p.tables e below (T102.setTop (mkF m 9 #[.val (.ref a1)] [(.int (16 : Int32)), (.int (0 : Int32))])) _
    refine XS.icmpYes X102.here hx rfl (pc0 := 9) (pc' := 36) rfl (hb hby d3_9) rfl (feq (by decide : ¬ ((0 : Int32) = (16 : Int32)))).2 (by decide) (by decide) ?_
    refine XS.aloadN X102.here hx rfl (hb hby d3_36) rfl rfl ?_
    refine st104 _ ?_
    refine XS.aloadN X104.here hx rfl (hb hby d3_40) rfl rfl ?_
    refine XS.dup X104.here hx rfl (hb hby d3_41) rfl rfl ?_
    refine st105 _ ?_
    refine XS.dupX1 X105.here hx rfl (hb hby d3_45) rfl rfl rfl ?_
    refine XS.iconst X105.here hx rfl (hb hby d3_46) ?_
    refine XS.iadd X105.here hx rfl (hb hby d3_47) rfl ?_
    show Steps p.tables e below (T105.setTop (mkF m 48 #[.val (.ref a1)] [(.int ((0 : Int32) + (1 : Int32))), (.ref a1), (.int (0 : Int32)), (.ref wb)])) _
    rw [show ((0 : Int32) + (1 : Int32)) = (1 : Int32) from by decide]
    show Steps p.tables e below (T105.setTop (mkF m 48 #[.val (.ref a1)] [(.int (1 : Int32)), (.ref a1), (.int (0 : Int32)), (.ref wb)])) _
    refine st106 _ ?_
    refine XS.aloadN X106.here hx rfl (hb hby d3_51) rfl rfl ?_
    refine st108 _ ?_
    refine st111 _ ?_
    show Steps p.tables e below (T111.setTop (mkF m 56 #[.val (.ref a1)] [])) _
    exact X111.returnOut hx Bd.returns (hb hby d3_56) hr
  · show Q3k0 Z a1 cb wb wk w0 w1 cs n h0 n0 _ T111.heap _
    rw [e111]
    exact ⟨rfl, N111, (((Keep.refl h0 [a1, wb]).wr W106 (Or.inl (List.mem_of_getElem? (i := 0) rfl))).wr W111 (Or.inl (List.mem_of_getElem? (i := 1) rfl))), f112, f113, f114, f115, f116, V111⟩
theorem d4_0 : decode prog_64_method_5_code 0 = .ok (.aload_n 0, 1) := by decide +kernel
theorem d4_1 : decode prog_64_method_5_code 1 = .ok (.getfield 13, 3) := by decide +kernel
theorem d4_4 : decode prog_64_method_5_code 4 = .ok (.aload_n 0, 1) := by decide +kernel
theorem d4_5 : decode prog_64_method_5_code 5 = .ok (.getfield 39, 3) := by decide +kernel
theorem d4_8 : decode prog_64_method_5_code 8 = .ok (.iconst 1, 1) := by decide +kernel
theorem d4_9 : decode prog_64_method_5_code 9 = .ok (.isub, 1) := by decide +kernel
theorem d4_10 : decode prog_64_method_5_code 10 = .ok (.aload_n 0, 1) := by decide +kernel
theorem d4_11 : decode prog_64_method_5_code 11 = .ok (.getfield 13, 3) := by decide +kernel
theorem d4_14 : decode prog_64_method_5_code 14 = .ok (.aload_n 0, 1) := by decide +kernel
theorem d4_15 : decode prog_64_method_5_code 15 = .ok (.getfield 39, 3) := by decide +kernel
theorem d4_18 : decode prog_64_method_5_code 18 = .ok (.iconst 1, 1) := by decide +kernel
theorem d4_19 : decode prog_64_method_5_code 19 = .ok (.isub, 1) := by decide +kernel
theorem d4_20 : decode prog_64_method_5_code 20 = .ok (.iaload, 1) := by decide +kernel
theorem d4_21 : decode prog_64_method_5_code 21 = .ok (.iconst (-1), 1) := by decide +kernel
theorem d4_22 : decode prog_64_method_5_code 22 = .ok (.ixor, 1) := by decide +kernel
theorem d4_23 : decode prog_64_method_5_code 23 = .ok (.iastore, 1) := by decide +kernel
theorem d4_24 : decode prog_64_method_5_code 24 = .ok (.aload_n 0, 1) := by decide +kernel
theorem d4_25 : decode prog_64_method_5_code 25 = .ok (.aload_n 0, 1) := by decide +kernel
theorem d4_26 : decode prog_64_method_5_code 26 = .ok (.getfield 39, 3) := by decide +kernel
theorem d4_29 : decode prog_64_method_5_code 29 = .ok (.putfield 45, 3) := by decide +kernel
theorem d4_32 : decode prog_64_method_5_code 32 = .ok (.return_, 1) := by decide +kernel
theorem ef_4k0 (m : MethodId) (a1 : Addr) : entryFrame m #[(.ref a1)] 1 = mkF m 0 #[.val (.ref a1)] [] := by first | (simp [entryFrame, mkF, argsToLocals, Value.category]; done) | rfl
def Q4k0 (Z : State) (a1 : Addr) (cb : Addr) (wb : Addr) (wk : ClassId) (w0 : Int32) (w1 : Int32) (cs : Int32) (n : Int32) (h0 : Heap) (n0 : Nat) (v : Option Value) (h : Heap) (L : List Loc) : Prop := v = none ∧ Fr n0 L ∧ Keep h0 h [a1, wb] ∧ Fld Z h a1 "com/example/rouse/rouse/shell/CommandLine" "words" "I" (.int (1 : Int32)) ∧ Fld Z h a1 "com/example/rouse/rouse/shell/CommandLine" "commandStart" "I" (.int (1 : Int32)) ∧ Fld Z h a1 "com/example/rouse/rouse/shell/CommandLine" "length" "I" (.int n) ∧ Fld Z h a1 "com/example/rouse/rouse/shell/CommandLine" "characters" "[C" (.ref cb) ∧ Fld Z h a1 "com/example/rouse/rouse/shell/CommandLine" "wordEnds" "[I" (.ref wb) ∧ Arv Z h wb wk .int (16 : Int32) (own_zl (.int (w0 ^^^ (-1 : Int32))) (.int w1)) (.int (0 : Int32))
set_option maxRecDepth 65536 in
set_option maxHeartbeats 40000000 in
theorem rm4k0 (l : Launch) (Z : State) (a0 : Array Value) (hw : ∀ d ∈ tables_1, d.before a0 Z = true) (ws : List Jvm.Cond) (a1 : Addr) (cb : Addr) (wb : Addr) (wk : ClassId) (w0 : Int32) (w1 : Int32) (cs : Int32) (n : Int32) (h0 : Heap) (n0 : Nat) (Z0 : n0 ≤ h0.size) (H0 : Exa Z h0 a1 "com/example/rouse/rouse/shell/CommandLine") (H1 : Fld Z h0 a1 "com/example/rouse/rouse/shell/CommandLine" "words" "I" (.int (1 : Int32))) (H2 : Fld Z h0 a1 "com/example/rouse/rouse/shell/CommandLine" "commandStart" "I" (.int cs)) (H3 : Fld Z h0 a1 "com/example/rouse/rouse/shell/CommandLine" "length" "I" (.int n)) (H4 : Fld Z h0 a1 "com/example/rouse/rouse/shell/CommandLine" "characters" "[C" (.ref cb)) (H5 : Fld Z h0 a1 "com/example/rouse/rouse/shell/CommandLine" "wordEnds" "[I" (.ref wb)) (H6 : Arv Z h0 wb wk .int (16 : Int32) (own_zl (.int w0) (.int w1)) (.int (0 : Int32))) (H7 : n0 ≤ a1) (H8 : n0 ≤ wb) :
    own_MF l (⟨"com/example/rouse/rouse/shell/CommandLine", "endCommand", "()V"⟩ : MethodName) (Jvm.Cond.code (⟨"com/example/rouse/rouse/shell/CommandLine", "endCommand", "()V"⟩ : MethodName) prog_64_method_5_code 1 none :: ws) ({ frames := 0, cells := 0, slots := 0, locals := 0 } : Room) #[(.ref a1)] Z h0 (Q4k0 Z a1 cb wb wk w0 w1 cs n h0 n0) := by
  refine MetFree.of_bodySF (plainFor_of_name pn_com_example_rouse_rouse_shell_CommandLine) hisR ?_
  intro p e s m args below meth c s₁ Bd hml0 hP hK
  obtain ⟨rfl, hZ, hh⟩ := hP
  have hx := Bd.exec
  have hby := Bd.bytes
  have hml : c.maxLocals = 1 := hml0
  have hown : s.vm.findClass "com/example/rouse/rouse/shell/CommandLine" = some m.cls := findClass_of_methodNamed Bd.named
  have hnm := (name_of_methodNamed Bd.named Bd.method).1
  have X0 : Stand p l e ({ frames := 0, cells := 0, slots := 0, locals := 0 } : Room) s m #[(.ref a1)] below meth c s₁ [] 0 0 := Stand.of_body Bd
  have e0 : s₁.heap = h0 := by rw [← hh, Bd.state]; rfl
  have N0 := Fr.nil n0
  have pre0 : ∀ t, Steps p.tables e below (s₁.setTop (mkF m 0 #[.val (.ref a1)] [])) t → Steps p.tables e below (s₁.setTop (entryFrame m #[(.ref a1)] 1)) t := fun t k => castTop (ef_4k0 m a1) k
  obtain ⟨T101, X101, e101, st101⟩ := getF X0 hx hZ hown (host := "") (Or.inl (own_w hw 22 rfl)) Via.refl e0 H5 (g := (mkF m 1 #[.val (.ref a1)] [(.ref a1)])) rfl rfl (hb hby d4_1)
  obtain ⟨T102, X102, e102, st102⟩ := getF X101 hx hZ hown (host := "") (Or.inl (own_w hw 33 rfl)) Via.refl e101 H1 (g := (mkF m 5 #[.val (.ref a1)] [(.ref a1), (.ref wb)])) rfl rfl (hb hby d4_5)
  obtain ⟨T103, X103, e103, st103⟩ := getF X102 hx hZ hown (host := "") (Or.inl (own_w hw 22 rfl)) Via.refl e102 H5 (g := (mkF m 11 #[.val (.ref a1)] [(.ref a1), (.int (0 : Int32)), (.ref wb)])) rfl rfl (hb hby d4_11)
  obtain ⟨T104, X104, e104, st104⟩ := getF X103 hx hZ hown (host := "") (Or.inl (own_w hw 33 rfl)) Via.refl e103 H1 (g := (mkF m 15 #[.val (.ref a1)] [(.ref a1), (.ref wb), (.int (0 : Int32)), (.ref wb)])) rfl rfl (hb hby d4_15)
  obtain ⟨cl105, Ar105, qc105, S105, M105, Hh105, G105⟩ := id H6
  have hin105 : ¬ ((0 : Int32) < 0 ∨ cl105.slots.size ≤ ((0 : Int32)).toNatClampNeg) := inb_of S105 ⟨by decide, by decide⟩
  obtain ⟨cl106, Ar106, qc106, S106, M106, Hh106, G106⟩ := id H6
  have hin106 : ¬ ((0 : Int32) < 0 ∨ cl106.slots.size ≤ ((0 : Int32)).toNatClampNeg) := inb_of S106 ⟨by decide, by decide⟩
  obtain ⟨T106, h106, X106, e106, W106, st106⟩ := stI X104 hx hZ e104 Ar106 (j := (0 : Int32)) hin106 (g := (mkF m 23 #[.val (.ref a1)] [(.int (w0 ^^^ (-1 : Int32))), (.int (0 : Int32)), (.ref wb)])) rfl rfl (hb hby d4_23)
  have V106 : Arv Z h106 wb wk .int (16 : Int32) (own_zl (.int (w0 ^^^ (-1 : Int32))) (.int w1)) (.int (0 : Int32)) := Arv.set Ar106 qc106 S106 M106 Hh106 G106 rfl W106 0 rfl (by first | decide | (simp; done))
  have N106 := Fr.snoc X106 N0 H8
  have ne107 : a1 ≠ wb := Exa.neArv (H0.wr W106) V106 (own_w hw 10 rfl)
  have f108 := (H1.other W106 (Or.inl ne107))
  obtain ⟨T109, X109, e109, st109⟩ := getF X106 hx hZ hown (host := "") (Or.inl (own_w hw 33 rfl)) Via.refl e106 f108 (g := (mkF m 26 #[.val (.ref a1)] [(.ref a1), (.ref a1)])) rfl rfl (hb hby d4_26)
  have f110 := (H2.other W106 (Or.inl ne107))
  have f111 := (H0.wr W106)
  obtain ⟨T112, h112, X112, e112, W112, st112⟩ := putF X109 hx hZ hown (host := "") (Or.inl (own_w hw 42 rfl)) Via.refl e109 f110 f111 (Or.inl (own_w hw 43 rfl)) (own_w hw 10 rfl) (ty := .int) (by decide) rfl rfl (g := (mkF m 29 #[.val (.ref a1)] [(.int (1 : Int32)), (.ref a1)])) rfl rfl (hb hby d4_29)
  have Fw112 := f110.same W112
  have N112 := Fr.snoc X112 N106 H7
  have f113 := (f108.other W112 (Or.inr (slot_ne (Or.inl (own_w hw 34 rfl)) (Or.inl (own_w hw 43 rfl)) (by decide) (t := .int) (t' := .int) (by decide) (by decide))))
  have f114 := ((H3.other W106 (Or.inl ne107)).other W112 (Or.inr (slot_ne (Or.inl (own_w hw 36 rfl)) (Or.inl (own_w hw 43 rfl)) (by decide) (t := .int) (t' := .int) (by decide) (by decide))))
  have f115 := ((H4.other W106 (Or.inl ne107)).other W112 (Or.inr (slot_ne (Or.inl (own_w hw 20 rfl)) (Or.inl (own_w hw 43 rfl)) (by decide) (t := (.array .char)) (t' := .int) (by decide) (by decide))))
  have f116 := ((H5.other W106 (Or.inl ne107)).other W112 (Or.inr (slot_ne (Or.inl (own_w hw 23 rfl)) (Or.inl (own_w hw 43 rfl)) (by decide) (t := (.array .int)) (t' := .int) (by decide) (by decide))))
  have f117 := (V106.other W112 (Ne.symm ne107))
  obtain ⟨fs, hr, hrun, hended, hW, hsame⟩ := X112.leave (v := none) (fun _ => rfl)
  refine ⟨_, _, pre0 _ ?_, hrun, hended, _, _, rfl, ?_, ⟨_, rfl⟩, hW, hsame.mono (by decide) (by decide)⟩
  · skip
    show Steps p.tables e below (s₁.setTop (mkF m 0 #[.val (.ref a1)] [])) _
    refine XS.aloadN X0.here hx rfl (hb hby d4_0) rfl rfl ?_
    refine st101 _ ?_
    refine XS.aloadN X101.here hx rfl (hb hby d4_4) rfl rfl ?_
    refine st102 _ ?_
    refine XS.iconst X102.here hx rfl (hb hby d4_8) ?_
    refine XS.isub X102.here hx rfl (hb hby d4_9) rfl ?_
    show Steps p.tables e below (T102.setTop (mkF m 10 #[.val (.ref a1)] [(.int ((1 : Int32) - (1 : Int32))), (.ref wb)])) _
    rw [show ((1 : Int32) - (1 : Int32)) = (0 : Int32) from by decide]
    show Steps p.tables e below (T102.setTop (mkF m 10 #[.val (.ref a1)] [(.int (0 : Int32)), (.ref wb)])) _
    refine XS.aloadN X102.here hx rfl (hb hby d4_10) rfl rfl ?_
    refine st103 _ ?_
    refine XS.aloadN X103.here hx rfl (hb hby d4_14) rfl rfl ?_
    refine st104 _ ?_
    refine XS.iconst X104.here hx rfl (hb hby d4_18) ?_
    refine XS.isub X104.here hx rfl (hb hby d4_19) rfl ?_
    show Steps p.tables e below (T104.setTop (mkF m 20 #[.val (.ref a1)] [(.int ((1 : Int32) - (1 : Int32))), (.ref wb), (.int (0 : Int32)), (.ref wb)])) _
    rw [show ((1 : Int32) - (1 : Int32)) = (0 : Int32) from by decide]
    show Steps p.tables e below (T104.setTop (mkF m 20 #[.val (.ref a1)] [(.int (0 : Int32)), (.ref wb), (.int (0 : Int32)), (.ref wb)])) _
    refine X104.iaload hx (j := (0 : Int32)) (v := (.int w0)) (by rw [e104]; exact Ar105.1) (State.isArrayOf_alike hZ.alike Ar105.2.1) Ar105.2.2 hin105 (Hh105.at hin105 (rfl)) (g := (mkF m 20 #[.val (.ref a1)] [(.int (0 : Int32)), (.ref wb), (.int (0 : Int32)), (.ref wb)])) rfl rfl (hb hby d4_20) _ ?_
    show Steps p.tables e below (T104.setTop (mkF m 21 #[.val (.ref a1)] [(.int w0), (.int (0 : Int32)), (.ref wb)])) _
    refine XS.iconst X104.here hx rfl (hb hby d4_21) ?_
    refine XS.ixor X104.here hx rfl (hb hby d4_22) rfl ?_
    refine st106 _ ?_
    refine XS.aloadN X106.here hx rfl (hb hby d4_24) rfl rfl ?_
    refine XS.aloadN X106.here hx rfl (hb hby d4_25) rfl rfl ?_
    refine st109 _ ?_
    refine st112 _ ?_
    show Steps p.tables e below (T112.setTop (mkF m 32 #[.val (.ref a1)] [])) _
    exact X112.returnOut hx Bd.returns (hb hby d4_32) hr
  · show Q4k0 Z a1 cb wb wk w0 w1 cs n h0 n0 _ T112.heap _
    rw [e112]
    exact ⟨rfl, N112, (((Keep.refl h0 [a1, wb]).wr W106 (Or.inl (List.mem_of_getElem? (i := 1) rfl))).wr W112 (Or.inl (List.mem_of_getElem? (i := 0) rfl))), f113, Fw112, f114, f115, f116, f117⟩
theorem ef_3k1 (m : MethodId) (a1 : Addr) : entryFrame m #[(.ref a1)] 1 = mkF m 0 #[.val (.ref a1)] [] := by first | (simp [entryFrame, mkF, argsToLocals, Value.category]; done) | rfl
def Q3k1 (Z : State) (a1 : Addr) (cb : Addr) (wb : Addr) (wk : ClassId) (w0 : Int32) (w1 : Int32) (cs : Int32) (n : Int32) (h0 : Heap) (n0 : Nat) (v : Option Value) (h : Heap) (L : List Loc) : Prop := v = none ∧ Fr n0 L ∧ Keep h0 h [a1, wb] ∧ Fld Z h a1 "com/example/rouse/rouse/shell/CommandLine" "words" "I" (.int (2 : Int32)) ∧ Fld Z h a1 "com/example/rouse/rouse/shell/CommandLine" "commandStart" "I" (.int cs) ∧ Fld Z h a1 "com/example/rouse/rouse/shell/CommandLine" "length" "I" (.int n) ∧ Fld Z h a1 "com/example/rouse/rouse/shell/CommandLine" "characters" "[C" (.ref cb) ∧ Fld Z h a1 "com/example/rouse/rouse/shell/CommandLine" "wordEnds" "[I" (.ref wb) ∧ Arv Z h wb wk .int (16 : Int32) (own_zl (.int w0) (.int n)) (.int (0 : Int32))
set_option maxRecDepth 65536 in
set_option maxHeartbeats 40000000 in
theorem rm3k1 (l : Launch) (Z : State) (a0 : Array Value) (hw : ∀ d ∈ tables_1, d.before a0 Z = true) (ws : List Jvm.Cond) (a1 : Addr) (cb : Addr) (wb : Addr) (wk : ClassId) (w0 : Int32) (w1 : Int32) (cs : Int32) (n : Int32) (h0 : Heap) (n0 : Nat) (Z0 : n0 ≤ h0.size) (H0 : Exa Z h0 a1 "com/example/rouse/rouse/shell/CommandLine") (H1 : Fld Z h0 a1 "com/example/rouse/rouse/shell/CommandLine" "words" "I" (.int (1 : Int32))) (H2 : Fld Z h0 a1 "com/example/rouse/rouse/shell/CommandLine" "commandStart" "I" (.int cs)) (H3 : Fld Z h0 a1 "com/example/rouse/rouse/shell/CommandLine" "length" "I" (.int n)) (H4 : Fld Z h0 a1 "com/example/rouse/rouse/shell/CommandLine" "characters" "[C" (.ref cb)) (H5 : Fld Z h0 a1 "com/example/rouse/rouse/shell/CommandLine" "wordEnds" "[I" (.ref wb)) (H6 : Arv Z h0 wb wk .int (16 : Int32) (own_zl (.int w0) (.int w1)) (.int (0 : Int32))) (H7 : n0 ≤ a1) (H8 : n0 ≤ wb) :
    own_MF l (⟨"com/example/rouse/rouse/shell/CommandLine", "endWord", "()V"⟩ : MethodName) (Jvm.Cond.code (⟨"com/example/rouse/rouse/shell/CommandLine", "endWord", "()V"⟩ : MethodName) prog_64_method_3_code 1 none :: ws) ({ frames := 0, cells := 0, slots := 0, locals := 0 } : Room) #[(.ref a1)] Z h0 (Q3k1 Z a1 cb wb wk w0 w1 cs n h0 n0) := by
  refine MetFree.of_bodySF (plainFor_of_name pn_com_example_rouse_rouse_shell_CommandLine) hisR ?_
  intro p e s m args below meth c s₁ Bd hml0 hP hK
  obtain ⟨rfl, hZ, hh⟩ := hP
  have hx := Bd.exec
  have hby := Bd.bytes
  have hml : c.maxLocals = 1 := hml0
  have hown : s.vm.findClass "com/example/rouse/rouse/shell/CommandLine" = some m.cls := findClass_of_methodNamed Bd.named
  have hnm := (name_of_methodNamed Bd.named Bd.method).1
  have X0 : Stand p l e ({ frames := 0, cells := 0, slots := 0, locals := 0 } : Room) s m #[(.ref a1)] below meth c s₁ [] 0 0 := Stand.of_body Bd
  have e0 : s₁.heap = h0 := by rw [← hh, Bd.state]; rfl
  have N0 := Fr.nil n0
  have pre0 : ∀ t, Steps p.tables e below (s₁.setTop (mkF m 0 #[.val (.ref a1)] [])) t → Steps p.tables e below (s₁.setTop (entryFrame m #[(.ref a1)] 1)) t := fun t k => castTop (ef_3k1 m a1) k
  obtain ⟨T101, X101, e101, st101⟩ := getF X0 hx hZ hown (host := "") (Or.inl (own_w hw 33 rfl)) Via.refl e0 H1 (g := (mkF m 1 #[.val (.ref a1)] [(.ref a1)])) rfl rfl (hb hby d3_1)
  obtain ⟨T102, X102, e102, st102⟩ := getF X101 hx hZ hown (host := "") (Or.inl (own_w hw 22 rfl)) Via.refl e101 H5 (g := (mkF m 5 #[.val (.ref a1)] [(.ref a1), (.int (1 : Int32))])) rfl rfl (hb hby d3_5)
  obtain ⟨cl103, Ar103, -, S103, M103, -, -⟩ := id H6
  obtain ⟨T104, X104, e104, st104⟩ := getF X102 hx hZ hown (host := "") (Or.inl (own_w hw 22 rfl)) Via.refl e102 H5 (g := (mkF m 37 #[.val (.ref a1)] [(.ref a1)])) rfl rfl (hb hby d3_37)
  obtain ⟨T105, X105, e105, st105⟩ := getF X104 hx hZ hown (host := "") (Or.inl (own_w hw 33 rfl)) Via.refl e104 H1 (g := (mkF m 42 #[.val (.ref a1)] [(.ref a1), (.ref a1), (.ref wb)])) rfl rfl (hb hby d3_42)
  obtain ⟨T106, h106, X106, e106, W106, st106⟩ := putF X105 hx hZ hown (host := "") (Or.inl (own_w hw 33 rfl)) Via.refl e105 H1 H0 (Or.inl (own_w hw 34 rfl)) (own_w hw 10 rfl) (ty := .int) (by decide) rfl rfl (g := (mkF m 48 #[.val (.ref a1)] [(.int (2 : Int32)), (.ref a1), (.int (1 : Int32)), (.ref wb)])) rfl rfl (hb hby d3_48)
  have Fw106 := H1.same W106
  have N106 := Fr.snoc X106 N0 H7
  have f107 := (H3.other W106 (Or.inr (slot_ne (Or.inl (own_w hw 36 rfl)) (Or.inl (own_w hw 34 rfl)) (by decide) (t := .int) (t' := .int) (by decide) (by decide))))
  obtain ⟨T108, X108, e108, st108⟩ := getF X106 hx hZ hown (host := "") (Or.inl (own_w hw 35 rfl)) Via.refl e106 f107 (g := (mkF m 52 #[.val (.ref a1)] [(.ref a1), (.int (1 : Int32)), (.ref wb)])) rfl rfl (hb hby d3_52)
  have ne109 : a1 ≠ wb := Exa.neArv H0 H6 (own_w hw 10 rfl)
  have f110 := (H6.other W106 (Ne.symm ne109))
  obtain ⟨cl111, Ar111, qc111, S111, M111, Hh111, G111⟩ := id f110
  have hin111 : ¬ ((1 : Int32) < 0 ∨ cl111.slots.size ≤ ((1 : Int32)).toNatClampNeg) := inb_of S111 ⟨by decide, by decide⟩
  obtain ⟨T111, h111, X111, e111, W111, st111⟩ := stI X108 hx hZ e108 Ar111 (j := (1 : Int32)) hin111 (g := (mkF m 55 #[.val (.ref a1)] [(.int n), (.int (1 : Int32)), (.ref wb)])) rfl rfl (hb hby d3_55)
  have V111 : Arv Z h111 wb wk .int (16 : Int32) (own_zl (.int w0) (.int n)) (.int (0 : Int32)) := Arv.set Ar111 qc111 S111 M111 Hh111 G111 rfl W111 1 rfl (by first | decide | (simp; done))
  have N111 := Fr.snoc X111 N106 H8
  have f112 := (Fw106.other W111 (Or.inl ne109))
  have f113 := ((H2.other W106 (Or.inr (slot_ne (Or.inl (own_w hw 43 rfl)) (Or.inl (own_w hw 34 rfl)) (by decide) (t := .int) (t' := .int) (by decide) (by decide)))).other W111 (Or.inl ne109))
  have f114 := (f107.other W111 (Or.inl ne109))
  have f115 := ((H4.other W106 (Or.inr (slot_ne (Or.inl (own_w hw 20 rfl)) (Or.inl (own_w hw 34 rfl)) (by decide) (t := (.array .char)) (t' := .int) (by decide) (by decide)))).other W111 (Or.inl ne109))
  have f116 := ((H5.other W106 (Or.inr (slot_ne (Or.inl (own_w hw 23 rfl)) (Or.inl (own_w hw 34 rfl)) (by decide) (t := (.array .int)) (t' := .int) (by decide) (by decide)))).other W111 (Or.inl ne109))
  obtain ⟨fs, hr, hrun, hended, hW, hsame⟩ := X111.leave (v := none) (fun _ => rfl)
  refine ⟨_, _, pre0 _ ?_, hrun, hended, _, _, rfl, ?_, ⟨_, rfl⟩, hW, hsame.mono (by decide) (by decide)⟩
  · skip
    show Steps p.tables e below (s₁.setTop (mkF m 0 #[.val (.ref a1)] [])) _
    refine XS.aloadN X0.here hx rfl (hb hby d3_0) rfl rfl ?_
    refine st101 _ ?_
    refine XS.aloadN X101.here hx rfl (hb hby d3_4) rfl rfl ?_
    refine st102 _ ?_
    show Steps p.tables e below (T102.setTop (mkF m 8 #[.val (.ref a1)] [(.ref wb), (.int (1 : Int32))])) _
    refine X102.arraylength hx (by rw [e102]; exact Ar103.1) (State.isArrayOf_alike hZ.alike Ar103.2.1) (g := (mkF m 8 #[.val (.ref a1)] [(.ref wb), (.int (1 : Int32))])) rfl rfl (hb hby d3_8) _ ?_
    rw [len_of S103 M103]
    show Steps p.tables e below (T102.setTop (mkF m 9 #[.val (.ref a1)] [(.int (16 : Int32)), (.int (1 : Int32))])) _
    refine XS.icmpYes X102.here hx rfl (pc0 := 9) (pc' := 36) rfl (hb hby d3_9) rfl (feq (by decide : ¬ ((1 : Int32) = (16 : Int32)))).2 (by decide) (by decide) ?_
    refine XS.aloadN X102.here hx rfl (hb hby d3_36) rfl rfl ?_
    refine st104 _ ?_
    refine XS.aloadN X104.here hx rfl (hb hby d3_40) rfl rfl ?_
    refine XS.dup X104.here hx rfl (hb hby d3_41) rfl rfl ?_
    refine st105 _ ?_
    refine XS.dupX1 X105.here hx rfl (hb hby d3_45) rfl rfl rfl ?_
    refine XS.iconst X105.here hx rfl (hb hby d3_46) ?_
    refine XS.iadd X105.here hx rfl (hb hby d3_47) rfl ?_
    show Steps p.tables e below (T105.setTop (mkF m 48 #[.val (.ref a1)] [(.int ((1 : Int32) + (1 : Int32))), (.ref a1), (.int (1 : Int32)), (.ref wb)])) _
    rw [show ((1 : Int32) + (1 : Int32)) = (2 : Int32) from by decide]
    show Steps p.tables e below (T105.setTop (mkF m 48 #[.val (.ref a1)] [(.int (2 : Int32)), (.ref a1), (.int (1 : Int32)), (.ref wb)])) _
    refine st106 _ ?_
    refine XS.aloadN X106.here hx rfl (hb hby d3_51) rfl rfl ?_
    refine st108 _ ?_
    refine st111 _ ?_
    show Steps p.tables e below (T111.setTop (mkF m 56 #[.val (.ref a1)] [])) _
    exact X111.returnOut hx Bd.returns (hb hby d3_56) hr
  · show Q3k1 Z a1 cb wb wk w0 w1 cs n h0 n0 _ T111.heap _
    rw [e111]
    exact ⟨rfl, N111, (((Keep.refl h0 [a1, wb]).wr W106 (Or.inl (List.mem_of_getElem? (i := 0) rfl))).wr W111 (Or.inl (List.mem_of_getElem? (i := 1) rfl))), f112, f113, f114, f115, f116, V111⟩
theorem ef_4k1 (m : MethodId) (a1 : Addr) : entryFrame m #[(.ref a1)] 1 = mkF m 0 #[.val (.ref a1)] [] := by first | (simp [entryFrame, mkF, argsToLocals, Value.category]; done) | rfl
def Q4k1 (Z : State) (a1 : Addr) (cb : Addr) (wb : Addr) (wk : ClassId) (w0 : Int32) (w1 : Int32) (cs : Int32) (n : Int32) (h0 : Heap) (n0 : Nat) (v : Option Value) (h : Heap) (L : List Loc) : Prop := v = none ∧ Fr n0 L ∧ Keep h0 h [a1, wb] ∧ Fld Z h a1 "com/example/rouse/rouse/shell/CommandLine" "words" "I" (.int (2 : Int32)) ∧ Fld Z h a1 "com/example/rouse/rouse/shell/CommandLine" "commandStart" "I" (.int (2 : Int32)) ∧ Fld Z h a1 "com/example/rouse/rouse/shell/CommandLine" "length" "I" (.int n) ∧ Fld Z h a1 "com/example/rouse/rouse/shell/CommandLine" "characters" "[C" (.ref cb) ∧ Fld Z h a1 "com/example/rouse/rouse/shell/CommandLine" "wordEnds" "[I" (.ref wb) ∧ Arv Z h wb wk .int (16 : Int32) (own_zl (.int w0) (.int (w1 ^^^ (-1 : Int32)))) (.int (0 : Int32))
set_option maxRecDepth 65536 in
set_option maxHeartbeats 40000000 in
theorem rm4k1 (l : Launch) (Z : State) (a0 : Array Value) (hw : ∀ d ∈ tables_1, d.before a0 Z = true) (ws : List Jvm.Cond) (a1 : Addr) (cb : Addr) (wb : Addr) (wk : ClassId) (w0 : Int32) (w1 : Int32) (cs : Int32) (n : Int32) (h0 : Heap) (n0 : Nat) (Z0 : n0 ≤ h0.size) (H0 : Exa Z h0 a1 "com/example/rouse/rouse/shell/CommandLine") (H1 : Fld Z h0 a1 "com/example/rouse/rouse/shell/CommandLine" "words" "I" (.int (2 : Int32))) (H2 : Fld Z h0 a1 "com/example/rouse/rouse/shell/CommandLine" "commandStart" "I" (.int cs)) (H3 : Fld Z h0 a1 "com/example/rouse/rouse/shell/CommandLine" "length" "I" (.int n)) (H4 : Fld Z h0 a1 "com/example/rouse/rouse/shell/CommandLine" "characters" "[C" (.ref cb)) (H5 : Fld Z h0 a1 "com/example/rouse/rouse/shell/CommandLine" "wordEnds" "[I" (.ref wb)) (H6 : Arv Z h0 wb wk .int (16 : Int32) (own_zl (.int w0) (.int w1)) (.int (0 : Int32))) (H7 : n0 ≤ a1) (H8 : n0 ≤ wb) :
    own_MF l (⟨"com/example/rouse/rouse/shell/CommandLine", "endCommand", "()V"⟩ : MethodName) (Jvm.Cond.code (⟨"com/example/rouse/rouse/shell/CommandLine", "endCommand", "()V"⟩ : MethodName) prog_64_method_5_code 1 none :: ws) ({ frames := 0, cells := 0, slots := 0, locals := 0 } : Room) #[(.ref a1)] Z h0 (Q4k1 Z a1 cb wb wk w0 w1 cs n h0 n0) := by
  refine MetFree.of_bodySF (plainFor_of_name pn_com_example_rouse_rouse_shell_CommandLine) hisR ?_
  intro p e s m args below meth c s₁ Bd hml0 hP hK
  obtain ⟨rfl, hZ, hh⟩ := hP
  have hx := Bd.exec
  have hby := Bd.bytes
  have hml : c.maxLocals = 1 := hml0
  have hown : s.vm.findClass "com/example/rouse/rouse/shell/CommandLine" = some m.cls := findClass_of_methodNamed Bd.named
  have hnm := (name_of_methodNamed Bd.named Bd.method).1
  have X0 : Stand p l e ({ frames := 0, cells := 0, slots := 0, locals := 0 } : Room) s m #[(.ref a1)] below meth c s₁ [] 0 0 := Stand.of_body Bd
  have e0 : s₁.heap = h0 := by rw [← hh, Bd.state]; rfl
  have N0 := Fr.nil n0
  have pre0 : ∀ t, Steps p.tables e below (s₁.setTop (mkF m 0 #[.val (.ref a1)] [])) t → Steps p.tables e below (s₁.setTop (entryFrame m #[(.ref a1)] 1)) t := fun t k => castTop (ef_4k1 m a1) k
  obtain ⟨T101, X101, e101, st101⟩ := getF X0 hx hZ hown (host := "") (Or.inl (own_w hw 22 rfl)) Via.refl e0 H5 (g := (mkF m 1 #[.val (.ref a1)] [(.ref a1)])) rfl rfl (hb hby d4_1)
  obtain ⟨T102, X102, e102, st102⟩ := getF X101 hx hZ hown (host := "") (Or.inl (own_w hw 33 rfl)) Via.refl e101 H1 (g := (mkF m 5 #[.val (.ref a1)] [(.ref a1), (.ref wb)])) rfl rfl (hb hby d4_5)
  obtain ⟨T103, X103, e103, st103⟩ := getF X102 hx hZ hown (host := "") (Or.inl (own_w hw 22 rfl)) Via.refl e102 H5 (g := (mkF m 11 #[.val (.ref a1)] [(.ref a1), (.int (1 : Int32)), (.ref wb)])) rfl rfl (hb hby d4_11)
  obtain ⟨T104, X104, e104, st104⟩ := getF X103 hx hZ hown (host := "") (Or.inl (own_w hw 33 rfl)) Via.refl e103 H1 (g := (mkF m 15 #[.val (.ref a1)] [(.ref a1), (.ref wb), (.int (1 : Int32)), (.ref wb)])) rfl rfl (hb hby d4_15)
  obtain ⟨cl105, Ar105, qc105, S105, M105, Hh105, G105⟩ := id H6
  have hin105 : ¬ ((1 : Int32) < 0 ∨ cl105.slots.size ≤ ((1 : Int32)).toNatClampNeg) := inb_of S105 ⟨by decide, by decide⟩
  obtain ⟨cl106, Ar106, qc106, S106, M106, Hh106, G106⟩ := id H6
  have hin106 : ¬ ((1 : Int32) < 0 ∨ cl106.slots.size ≤ ((1 : Int32)).toNatClampNeg) := inb_of S106 ⟨by decide, by decide⟩
  obtain ⟨T106, h106, X106, e106, W106, st106⟩ := stI X104 hx hZ e104 Ar106 (j := (1 : Int32)) hin106 (g := (mkF m 23 #[.val (.ref a1)] [(.int (w1 ^^^ (-1 : Int32))), (.int (1 : Int32)), (.ref wb)])) rfl rfl (hb hby d4_23)
  have V106 : Arv Z h106 wb wk .int (16 : Int32) (own_zl (.int w0) (.int (w1 ^^^ (-1 : Int32)))) (.int (0 : Int32)) := Arv.set Ar106 qc106 S106 M106 Hh106 G106 rfl W106 1 rfl (by first | decide | (simp; done))
  have N106 := Fr.snoc X106 N0 H8
  have ne107 : a1 ≠ wb := Exa.neArv (H0.wr W106) V106 (own_w hw 10 rfl)
  have f108 := (H1.other W106 (Or.inl ne107))
  obtain ⟨T109, X109, e109, st109⟩ := getF X106 hx hZ hown (host := "") (Or.inl (own_w hw 33 rfl)) Via.refl e106 f108 (g := (mkF m 26 #[.val (.ref a1)] [(.ref a1), (.ref a1)])) rfl rfl (hb hby d4_26)
  have f110 := (H2.other W106 (Or.inl ne107))
  have f111 := (H0.wr W106)
  obtain ⟨T112, h112, X112, e112, W112, st112⟩ := putF X109 hx hZ hown (host := "") (Or.inl (own_w hw 42 rfl)) Via.refl e109 f110 f111 (Or.inl (own_w hw 43 rfl)) (own_w hw 10 rfl) (ty := .int) (by decide) rfl rfl (g := (mkF m 29 #[.val (.ref a1)] [(.int (2 : Int32)), (.ref a1)])) rfl rfl (hb hby d4_29)
  have Fw112 := f110.same W112
  have N112 := Fr.snoc X112 N106 H7
  have f113 := (f108.other W112 (Or.inr (slot_ne (Or.inl (own_w hw 34 rfl)) (Or.inl (own_w hw 43 rfl)) (by decide) (t := .int) (t' := .int) (by decide) (by decide))))
  have f114 := ((H3.other W106 (Or.inl ne107)).other W112 (Or.inr (slot_ne (Or.inl (own_w hw 36 rfl)) (Or.inl (own_w hw 43 rfl)) (by decide) (t := .int) (t' := .int) (by decide) (by decide))))
  have f115 := ((H4.other W106 (Or.inl ne107)).other W112 (Or.inr (slot_ne (Or.inl (own_w hw 20 rfl)) (Or.inl (own_w hw 43 rfl)) (by decide) (t := (.array .char)) (t' := .int) (by decide) (by decide))))
  have f116 := ((H5.other W106 (Or.inl ne107)).other W112 (Or.inr (slot_ne (Or.inl (own_w hw 23 rfl)) (Or.inl (own_w hw 43 rfl)) (by decide) (t := (.array .int)) (t' := .int) (by decide) (by decide))))
  have f117 := (V106.other W112 (Ne.symm ne107))
  obtain ⟨fs, hr, hrun, hended, hW, hsame⟩ := X112.leave (v := none) (fun _ => rfl)
  refine ⟨_, _, pre0 _ ?_, hrun, hended, _, _, rfl, ?_, ⟨_, rfl⟩, hW, hsame.mono (by decide) (by decide)⟩
  · skip
    show Steps p.tables e below (s₁.setTop (mkF m 0 #[.val (.ref a1)] [])) _
    refine XS.aloadN X0.here hx rfl (hb hby d4_0) rfl rfl ?_
    refine st101 _ ?_
    refine XS.aloadN X101.here hx rfl (hb hby d4_4) rfl rfl ?_
    refine st102 _ ?_
    refine XS.iconst X102.here hx rfl (hb hby d4_8) ?_
    refine XS.isub X102.here hx rfl (hb hby d4_9) rfl ?_
    show Steps p.tables e below (T102.setTop (mkF m 10 #[.val (.ref a1)] [(.int ((2 : Int32) - (1 : Int32))), (.ref wb)])) _
    rw [show ((2 : Int32) - (1 : Int32)) = (1 : Int32) from by decide]
    show Steps p.tables e below (T102.setTop (mkF m 10 #[.val (.ref a1)] [(.int (1 : Int32)), (.ref wb)])) _
    refine XS.aloadN X102.here hx rfl (hb hby d4_10) rfl rfl ?_
    refine st103 _ ?_
    refine XS.aloadN X103.here hx rfl (hb hby d4_14) rfl rfl ?_
    refine st104 _ ?_
    refine XS.iconst X104.here hx rfl (hb hby d4_18) ?_
    refine XS.isub X104.here hx rfl (hb hby d4_19) rfl ?_
    show Steps p.tables e below (T104.setTop (mkF m 20 #[.val (.ref a1)] [(.int ((2 : Int32) - (1 : Int32))), (.ref wb), (.int (1 : Int32)), (.ref wb)])) _
    rw [show ((2 : Int32) - (1 : Int32)) = (1 : Int32) from by decide]
    show Steps p.tables e below (T104.setTop (mkF m 20 #[.val (.ref a1)] [(.int (1 : Int32)), (.ref wb), (.int (1 : Int32)), (.ref wb)])) _
    refine X104.iaload hx (j := (1 : Int32)) (v := (.int w1)) (by rw [e104]; exact Ar105.1) (State.isArrayOf_alike hZ.alike Ar105.2.1) Ar105.2.2 hin105 (Hh105.at hin105 (rfl)) (g := (mkF m 20 #[.val (.ref a1)] [(.int (1 : Int32)), (.ref wb), (.int (1 : Int32)), (.ref wb)])) rfl rfl (hb hby d4_20) _ ?_
    show Steps p.tables e below (T104.setTop (mkF m 21 #[.val (.ref a1)] [(.int w1), (.int (1 : Int32)), (.ref wb)])) _
    refine XS.iconst X104.here hx rfl (hb hby d4_21) ?_
    refine XS.ixor X104.here hx rfl (hb hby d4_22) rfl ?_
    refine st106 _ ?_
    refine XS.aloadN X106.here hx rfl (hb hby d4_24) rfl rfl ?_
    refine XS.aloadN X106.here hx rfl (hb hby d4_25) rfl rfl ?_
    refine st109 _ ?_
    refine st112 _ ?_
    show Steps p.tables e below (T112.setTop (mkF m 32 #[.val (.ref a1)] [])) _
    exact X112.returnOut hx Bd.returns (hb hby d4_32) hr
  · show Q4k1 Z a1 cb wb wk w0 w1 cs n h0 n0 _ T112.heap _
    rw [e112]
    exact ⟨rfl, N112, (((Keep.refl h0 [a1, wb]).wr W106 (Or.inl (List.mem_of_getElem? (i := 1) rfl))).wr W112 (Or.inl (List.mem_of_getElem? (i := 0) rfl))), f113, Fw112, f114, f115, f116, f117⟩
theorem d33_0 : decode jdk_52_method_21_code 0 = .ok (.iconst 0, 1) := by decide +kernel
theorem d33_1 : decode jdk_52_method_21_code 1 = .ok (.istore 5, 2) := by decide +kernel
theorem d33_3 : decode jdk_52_method_21_code 3 = .ok (.iload 5, 2) := by decide +kernel
theorem d33_5 : decode jdk_52_method_21_code 5 = .ok (.iload 4, 2) := by decide +kernel
theorem d33_7 : decode jdk_52_method_21_code 7 = .ok (.if_icmp .ge 37, 3) := by decide +kernel
theorem d33_10 : decode jdk_52_method_21_code 10 = .ok (.aload_n 0, 1) := by decide +kernel
theorem d33_11 : decode jdk_52_method_21_code 11 = .ok (.iload_n 1, 1) := by decide +kernel
theorem d33_12 : decode jdk_52_method_21_code 12 = .ok (.caload, 1) := by decide +kernel
theorem d33_13 : decode jdk_52_method_21_code 13 = .ok (.istore 6, 2) := by decide +kernel
theorem d33_15 : decode jdk_52_method_21_code 15 = .ok (.iload 6, 2) := by decide +kernel
theorem d33_17 : decode jdk_52_method_21_code 17 = .ok (.sipush 255, 3) := by decide +kernel
theorem d33_20 : decode jdk_52_method_21_code 20 = .ok (.if_icmp .le 6, 3) := by decide +kernel
theorem d33_23 : decode jdk_52_method_21_code 23 = .ok (.iload 5, 2) := by decide +kernel
theorem d33_25 : decode jdk_52_method_21_code 25 = .ok (.ireturn, 1) := by decide +kernel
theorem d33_26 : decode jdk_52_method_21_code 26 = .ok (.aload_n 2, 1) := by decide +kernel
theorem d33_27 : decode jdk_52_method_21_code 27 = .ok (.iload_n 3, 1) := by decide +kernel
theorem d33_28 : decode jdk_52_method_21_code 28 = .ok (.iload 6, 2) := by decide +kernel
theorem d33_30 : decode jdk_52_method_21_code 30 = .ok (.i2b, 1) := by decide +kernel
theorem d33_31 : decode jdk_52_method_21_code 31 = .ok (.bastore, 1) := by decide +kernel
theorem d33_32 : decode jdk_52_method_21_code 32 = .ok (.iinc 1 1, 3) := by decide +kernel
theorem d33_35 : decode jdk_52_method_21_code 35 = .ok (.iinc 3 1, 3) := by decide +kernel
theorem d33_38 : decode jdk_52_method_21_code 38 = .ok (.iinc 5 1, 3) := by decide +kernel
theorem d33_41 : decode jdk_52_method_21_code 41 = .ok (.goto (-38), 3) := by decide +kernel
theorem d33_44 : decode jdk_52_method_21_code 44 = .ok (.iload 4, 2) := by decide +kernel
theorem d33_46 : decode jdk_52_method_21_code 46 = .ok (.ireturn, 1) := by decide +kernel
theorem ef_33s0 (m : MethodId) (cb : Addr) (b : Addr) : entryFrame m #[(.ref cb), (.int (0 : Int32)), (.ref b), (.int (0 : Int32)), (.int (1 : Int32))] 7 = mkF m 0 #[.val (.ref cb), .val (.int (0 : Int32)), .val (.ref b), .val (.int (0 : Int32)), .val (.int (1 : Int32)), .unset, .unset] [] := by first | (simp [entryFrame, mkF, argsToLocals, Value.category]; done) | rfl
def Q33s0 (Z : State) (cb : Addr) (b : Addr) (ck : ClassId) (x0 : Int32) (x1 : Int32) (k : ClassId) (h0 : Heap) (n0 : Nat) (v : Option Value) (h : Heap) (L : List Loc) : Prop := v = some (.int (own_cmp x0)) ∧ Fr n0 L ∧ Keep h0 h [b] ∧ Arv Z h b k .byte (1 : Int32) (own_c1 x0) (.int (0 : Int32))
set_option maxRecDepth 65536 in
set_option maxHeartbeats 40000000 in
theorem rm33s0 (l : Launch) (Z : State) (a0 : Array Value) (hw : ∀ d ∈ tables_1, d.before a0 Z = true) (ws : List Jvm.Cond) (cb : Addr) (b : Addr) (ck : ClassId) (x0 : Int32) (x1 : Int32) (k : ClassId) (h0 : Heap) (n0 : Nat) (Z0 : n0 ≤ h0.size) (H0 : Arv Z h0 cb ck .char (16 : Int32) (own_zl (.int x0) (.int x1)) (.int (0 : Int32))) (H1 : Arv Z h0 b k .byte (1 : Int32) [(.int (0 : Int32))] (.int (0 : Int32))) (H2 : n0 ≤ b) (H3 : cb ≠ b) :
    own_MF l (⟨"java/lang/StringUTF16", "compress", "([CI[BII)I"⟩ : MethodName) (Jvm.Cond.code (⟨"java/lang/StringUTF16", "compress", "([CI[BII)I"⟩ : MethodName) jdk_52_method_21_code 7 (some .int) :: ws) ({ frames := 0, cells := 0, slots := 0, locals := 0 } : Room) #[(.ref cb), (.int (0 : Int32)), (.ref b), (.int (0 : Int32)), (.int (1 : Int32))] Z h0 (Q33s0 Z cb b ck x0 x1 k h0 n0) := by
  refine MetFree.of_bodySF (plainFor_of_name pn_java_lang_StringUTF16) hisR ?_
  intro p e s m args below meth c s₁ Bd hml0 hP hK
  obtain ⟨rfl, hZ, hh⟩ := hP
  have hx := Bd.exec
  have hby := Bd.bytes
  have hml : c.maxLocals = 7 := hml0
  have hown : s.vm.findClass "java/lang/StringUTF16" = some m.cls := findClass_of_methodNamed Bd.named
  have hnm := (name_of_methodNamed Bd.named Bd.method).1
  have X0 : Stand p l e ({ frames := 0, cells := 0, slots := 0, locals := 0 } : Room) s m #[(.ref cb), (.int (0 : Int32)), (.ref b), (.int (0 : Int32)), (.int (1 : Int32))] below meth c s₁ [] 0 0 := Stand.of_body Bd
  have e0 : s₁.heap = h0 := by rw [← hh, Bd.state]; rfl
  have N0 := Fr.nil n0
  have pre0 : ∀ t, Steps p.tables e below (s₁.setTop (mkF m 0 #[.val (.ref cb), .val (.int (0 : Int32)), .val (.ref b), .val (.int (0 : Int32)), .val (.int (1 : Int32)), .unset, .unset] [])) t → Steps p.tables e below (s₁.setTop (entryFrame m #[(.ref cb), (.int (0 : Int32)), (.ref b), (.int (0 : Int32)), (.int (1 : Int32))] 7)) t := fun t k => castTop (ef_33s0 m cb b) k
  obtain ⟨cl101, Ar101, qc101, S101, M101, Hh101, G101⟩ := id H0
  have hin101 : ¬ ((0 : Int32) < 0 ∨ cl101.slots.size ≤ ((0 : Int32)).toNatClampNeg) := inb_of S101 ⟨by decide, by decide⟩
  have pre102 : ∀ t, Steps p.tables e below (s₁.setTop (mkF m 20 #[.val (.ref cb), .val (.int (0 : Int32)), .val (.ref b), .val (.int (0 : Int32)), .val (.int (1 : Int32)), .val (.int (0 : Int32)), .val (.int x0)] [(.int (255 : Int32)), (.int x0)])) t → Steps p.tables e below (s₁.setTop (entryFrame m #[(.ref cb), (.int (0 : Int32)), (.ref b), (.int (0 : Int32)), (.int (1 : Int32))] 7)) t := fun t kt => by
    refine pre0 t ?_
    show Steps p.tables e below (s₁.setTop (mkF m 0 #[.val (.ref cb), .val (.int (0 : Int32)), .val (.ref b), .val (.int (0 : Int32)), .val (.int (1 : Int32)), .unset, .unset] [])) _
    refine XS.iconst X0.here hx rfl (hb hby d33_0) ?_
    refine XS.istore X0.here hx rfl (hb hby d33_1) rfl (l' := #[.val (.ref cb), .val (.int (0 : Int32)), .val (.ref b), .val (.int (0 : Int32)), .val (.int (1 : Int32)), .val (.int (0 : Int32)), .unset]) rfl ?_
    refine XS.iload X0.here hx rfl (hb hby d33_3) rfl ?_
    refine XS.iload X0.here hx rfl (hb hby d33_5) rfl ?_
    refine XS.icmpNo X0.here hx rfl (hb hby d33_7) rfl (tlt (by decide : (0 : Int32) < (1 : Int32))).2.1 ?_
    refine XS.aloadN X0.here hx rfl (hb hby d33_10) rfl rfl ?_
    refine XS.iloadN X0.here hx rfl (hb hby d33_11) rfl ?_
    show Steps p.tables e below (s₁.setTop (mkF m 12 #[.val (.ref cb), .val (.int (0 : Int32)), .val (.ref b), .val (.int (0 : Int32)), .val (.int (1 : Int32)), .val (.int (0 : Int32)), .unset] [(.int (0 : Int32)), (.ref cb)])) _
    refine X0.caload hx (j := (0 : Int32)) (v := (.int x0)) (by rw [e0]; exact Ar101.1) (State.isArrayOf_alike hZ.alike Ar101.2.1) Ar101.2.2 hin101 (Hh101.at hin101 (rfl)) (g := (mkF m 12 #[.val (.ref cb), .val (.int (0 : Int32)), .val (.ref b), .val (.int (0 : Int32)), .val (.int (1 : Int32)), .val (.int (0 : Int32)), .unset] [(.int (0 : Int32)), (.ref cb)])) rfl rfl (hb hby d33_12) _ ?_
    show Steps p.tables e below (s₁.setTop (mkF m 13 #[.val (.ref cb), .val (.int (0 : Int32)), .val (.ref b), .val (.int (0 : Int32)), .val (.int (1 : Int32)), .val (.int (0 : Int32)), .unset] [(.int x0)])) _
    refine XS.istore X0.here hx rfl (hb hby d33_13) rfl (l' := #[.val (.ref cb), .val (.int (0 : Int32)), .val (.ref b), .val (.int (0 : Int32)), .val (.int (1 : Int32)), .val (.int (0 : Int32)), .val (.int x0)]) rfl ?_
    refine XS.iload X0.here hx rfl (hb hby d33_15) rfl ?_
    refine XS.sipush X0.here hx rfl (hb hby d33_17) ?_
    show Steps p.tables e below (s₁.setTop (mkF m 20 #[.val (.ref cb), .val (.int (0 : Int32)), .val (.ref b), .val (.int (0 : Int32)), .val (.int (1 : Int32)), .val (.int (0 : Int32)), .val (.int x0)] [(.int (255 : Int32)), (.int x0)])) _
    exact kt
  by_cases hc20_103 : (255 : Int32) < x0
  · skip
    obtain ⟨fs, hr, hrun, hended, hW, hsame⟩ := X0.leave (v := some (.int (0 : Int32))) (fun h => by rw [Bd.returns] at h; cases h)
    refine ⟨_, _, pre102 _ ?_, hrun, hended, _, _, rfl, ?_, ⟨_, rfl⟩, hW, hsame.mono (by decide) (by decide)⟩
    · skip
      show Steps p.tables e below (s₁.setTop (mkF m 20 #[.val (.ref cb), .val (.int (0 : Int32)), .val (.ref b), .val (.int (0 : Int32)), .val (.int (1 : Int32)), .val (.int (0 : Int32)), .val (.int x0)] [(.int (255 : Int32)), (.int x0)])) _
      refine XS.icmpNo X0.here hx rfl (hb hby d33_20) rfl (tlt (hc20_103 : (255 : Int32) < x0)).2.2.2 ?_
      refine XS.iload X0.here hx rfl (hb hby d33_23) rfl ?_
      show Steps p.tables e below (s₁.setTop (mkF m 25 #[.val (.ref cb), .val (.int (0 : Int32)), .val (.ref b), .val (.int (0 : Int32)), .val (.int (1 : Int32)), .val (.int (0 : Int32)), .val (.int x0)] [(.int (0 : Int32))])) _
      exact retI X0 hx Bd.returns (hb hby d33_25) hr
    · show Q33s0 Z cb b ck x0 x1 k h0 n0 _ s₁.heap _
      rw [e0]
      exact ⟨(by simp only [own_cmp, eq_true hc20_103, if_true, if_false]), N0, (Keep.refl h0 [b]), (by simpa only [own_c1, eq_true hc20_103, if_true, if_false] using H1)⟩
  · skip
    obtain ⟨cl104, Ar104, qc104, S104, M104, Hh104, G104⟩ := id H1
    have hin104 : ¬ ((0 : Int32) < 0 ∨ cl104.slots.size ≤ ((0 : Int32)).toNatClampNeg) := inb_of S104 ⟨by decide, by decide⟩
    obtain ⟨T104, h104, X104, e104, W104, st104⟩ := stB X0 hx hZ e0 Ar104 (j := (0 : Int32)) hin104 (g := (mkF m 31 #[.val (.ref cb), .val (.int (0 : Int32)), .val (.ref b), .val (.int (0 : Int32)), .val (.int (1 : Int32)), .val (.int (0 : Int32)), .val (.int x0)] [(.int (x0.toInt8.toInt32)), (.int (0 : Int32)), (.ref b)])) rfl rfl (hb hby d33_31)
    have V104 : Arv Z h104 b k .byte (1 : Int32) [(.int (nar .byte (x0.toInt8.toInt32)))] (.int (0 : Int32)) := Arv.set Ar104 qc104 S104 M104 Hh104 G104 (fits_nar_byte _) W104 0 rfl (by first | decide | (simp; done))
    have N104 := Fr.snoc X104 N0 H2
    obtain ⟨fs, hr, hrun, hended, hW, hsame⟩ := X104.leave (v := some (.int (1 : Int32))) (fun h => by rw [Bd.returns] at h; cases h)
    refine ⟨_, _, pre102 _ ?_, hrun, hended, _, _, rfl, ?_, ⟨_, rfl⟩, hW, hsame.mono (by decide) (by decide)⟩
    · skip
      show Steps p.tables e below (s₁.setTop (mkF m 20 #[.val (.ref cb), .val (.int (0 : Int32)), .val (.ref b), .val (.int (0 : Int32)), .val (.int (1 : Int32)), .val (.int (0 : Int32)), .val (.int x0)] [(.int (255 : Int32)), (.int x0)])) _
      refine XS.icmpYes X0.here hx rfl (pc0 := 20) (pc' := 26) rfl (hb hby d33_20) rfl (flt (hc20_103 : ¬ ((255 : Int32) < x0))).2.2.2 (by decide) (by decide) ?_
      refine XS.aloadN X0.here hx rfl (hb hby d33_26) rfl rfl ?_
      refine XS.iloadN X0.here hx rfl (hb hby d33_27) rfl ?_
      refine XS.iload X0.here hx rfl (hb hby d33_28) rfl ?_
      refine XS.i2b X0.here hx rfl (hb hby d33_30) rfl ?_
      refine st104 _ ?_
      show Steps p.tables e below (T104.setTop (mkF m 32 #[.val (.ref cb), .val (.int (0 : Int32)), .val (.ref b), .val (.int (0 : Int32)), .val (.int (1 : Int32)), .val (.int (0 : Int32)), .val (.int x0)] [])) _
      refine XS.iinc X104.here hx rfl (hb hby d33_32) rfl (l' := #[.val (.ref cb), .val (.int ((0 : Int32) + (1 : Int32))), .val (.ref b), .val (.int (0 : Int32)), .val (.int (1 : Int32)), .val (.int (0 : Int32)), .val (.int x0)]) rfl ?_
      show Steps p.tables e below (T104.setTop (mkF m 35 #[.val (.ref cb), .val (.int ((0 : Int32) + (1 : Int32))), .val (.ref b), .val (.int (0 : Int32)), .val (.int (1 : Int32)), .val (.int (0 : Int32)), .val (.int x0)] [])) _
      rw [show ((0 : Int32) + (1 : Int32)) = (1 : Int32) from by decide]
      show Steps p.tables e below (T104.setTop (mkF m 35 #[.val (.ref cb), .val (.int (1 : Int32)), .val (.ref b), .val (.int (0 : Int32)), .val (.int (1 : Int32)), .val (.int (0 : Int32)), .val (.int x0)] [])) _
      refine XS.iinc X104.here hx rfl (hb hby d33_35) rfl (l' := #[.val (.ref cb), .val (.int (1 : Int32)), .val (.ref b), .val (.int ((0 : Int32) + (1 : Int32))), .val (.int (1 : Int32)), .val (.int (0 : Int32)), .val (.int x0)]) rfl ?_
      show Steps p.tables e below (T104.setTop (mkF m 38 #[.val (.ref cb), .val (.int (1 : Int32)), .val (.ref b), .val (.int ((0 : Int32) + (1 : Int32))), .val (.int (1 : Int32)), .val (.int (0 : Int32)), .val (.int x0)] [])) _
      rw [show ((0 : Int32) + (1 : Int32)) = (1 : Int32) from by decide]
      show Steps p.tables e below (T104.setTop (mkF m 38 #[.val (.ref cb), .val (.int (1 : Int32)), .val (.ref b), .val (.int (1 : Int32)), .val (.int (1 : Int32)), .val (.int (0 : Int32)), .val (.int x0)] [])) _
      refine XS.iinc X104.here hx rfl (hb hby d33_38) rfl (l' := #[.val (.ref cb), .val (.int (1 : Int32)), .val (.ref b), .val (.int (1 : Int32)), .val (.int (1 : Int32)), .val (.int ((0 : Int32) + (1 : Int32))), .val (.int x0)]) rfl ?_
      show Steps p.tables e below (T104.setTop (mkF m 41 #[.val (.ref cb), .val (.int (1 : Int32)), .val (.ref b), .val (.int (1 : Int32)), .val (.int (1 : Int32)), .val (.int ((0 : Int32) + (1 : Int32))), .val (.int x0)] [])) _
      rw [show ((0 : Int32) + (1 : Int32)) = (1 : Int32) from by decide]
      show Steps p.tables e below (T104.setTop (mkF m 41 #[.val (.ref cb), .val (.int (1 : Int32)), .val (.ref b), .val (.int (1 : Int32)), .val (.int (1 : Int32)), .val (.int (1 : Int32)), .val (.int x0)] [])) _
      refine XS.goto X104.here hx rfl (pc0 := 41) (pc' := 3) rfl (hb hby d33_41) (by decide) (by decide) ?_
      refine XS.iload X104.here hx rfl (hb hby d33_3) rfl ?_
      refine XS.iload X104.here hx rfl (hb hby d33_5) rfl ?_
      refine XS.icmpYes X104.here hx rfl (pc0 := 7) (pc' := 44) rfl (hb hby d33_7) rfl (flt (by decide : ¬ ((1 : Int32) < (1 : Int32)))).2.1 (by decide) (by decide) ?_
      refine XS.iload X104.here hx rfl (hb hby d33_44) rfl ?_
      show Steps p.tables e below (T104.setTop (mkF m 46 #[.val (.ref cb), .val (.int (1 : Int32)), .val (.ref b), .val (.int (1 : Int32)), .val (.int (1 : Int32)), .val (.int (1 : Int32)), .val (.int x0)] [(.int (1 : Int32))])) _
      exact retI X104 hx Bd.returns (hb hby d33_46) hr
    · show Q33s0 Z cb b ck x0 x1 k h0 n0 _ T104.heap _
      rw [e104]
      exact ⟨(by simp only [own_cmp, eq_false hc20_103, if_true, if_false]), N104, ((Keep.refl h0 [b]).wr W104 (Or.inl (List.mem_of_getElem? (i := 0) rfl))), (by simpa only [own_c1, eq_false hc20_103, if_true, if_false] using V104)⟩
theorem d39_0 : decode jdk_52_method_3_code 0 = .ok (.iload_n 0, 1) := by decide +kernel
theorem d39_1 : decode jdk_52_method_3_code 1 = .ok (.ifCond .ge 11, 3) := by decide +kernel
theorem d39_12 : decode jdk_52_method_3_code 12 = .ok (.iload_n 0, 1) := by decide +kernel
theorem d39_13 : decode jdk_52_method_3_code 13 = .ok (.ldc 20, 2) := by decide +kernel
theorem d39_15 : decode jdk_52_method_3_code 15 = .ok (.if_icmp .lt 40, 3) := by decide +kernel
theorem d39_55 : decode jdk_52_method_3_code 55 = .ok (.iload_n 0, 1) := by decide +kernel
theorem d39_56 : decode jdk_52_method_3_code 56 = .ok (.iconst 1, 1) := by decide +kernel
theorem d39_57 : decode jdk_52_method_3_code 57 = .ok (.ishl, 1) := by decide +kernel
theorem d39_58 : decode jdk_52_method_3_code 58 = .ok (.ireturn, 1) := by decide +kernel
theorem ef_39x8 (m : MethodId)  : entryFrame m #[(.int (1 : Int32))] 1 = mkF m 0 #[.val (.int (1 : Int32))] [] := by first | (simp [entryFrame, mkF, argsToLocals, Value.category]; done) | rfl
def Q39x8 (Z : State)  (h0 : Heap) (n0 : Nat) (v : Option Value) (h : Heap) (L : List Loc) : Prop := v = some (.int (2 : Int32)) ∧ Fr n0 L ∧ h = h0
set_option maxRecDepth 65536 in
set_option maxHeartbeats 40000000 in
theorem rm39x8 (l : Launch) (Z : State) (a0 : Array Value) (hw : ∀ d ∈ tables_1, d.before a0 Z = true) (ws : List Jvm.Cond)  (h0 : Heap) (n0 : Nat) (Z0 : n0 ≤ h0.size) :
    own_MF l (⟨"java/lang/StringUTF16", "newBytesLength", "(I)I"⟩ : MethodName) (Jvm.Cond.code (⟨"java/lang/StringUTF16", "newBytesLength", "(I)I"⟩ : MethodName) jdk_52_method_3_code 1 (some .int) :: ws) ({ frames := 0, cells := 0, slots := 0, locals := 0 } : Room) #[(.int (1 : Int32))] Z h0 (Q39x8 Z  h0 n0) := by
  refine MetFree.of_bodySF (plainFor_of_name pn_java_lang_StringUTF16) hisR ?_
  intro p e s m args below meth c s₁ Bd hml0 hP hK
  obtain ⟨rfl, hZ, hh⟩ := hP
  have hx := Bd.exec
  have hby := Bd.bytes
  have hml : c.maxLocals = 1 := hml0
  have hown : s.vm.findClass "java/lang/StringUTF16" = some m.cls := findClass_of_methodNamed Bd.named
  have hnm := (name_of_methodNamed Bd.named Bd.method).1
  have X0 : Stand p l e ({ frames := 0, cells := 0, slots := 0, locals := 0 } : Room) s m #[(.int (1 : Int32))] below meth c s₁ [] 0 0 := Stand.of_body Bd
  have e0 : s₁.heap = h0 := by rw [← hh, Bd.state]; rfl
  have N0 := Fr.nil n0
  have pre0 : ∀ t, Steps p.tables e below (s₁.setTop (mkF m 0 #[.val (.int (1 : Int32))] [])) t → Steps p.tables e below (s₁.setTop (entryFrame m #[(.int (1 : Int32))] 1)) t := fun t k => castTop (ef_39x8 m ) k
  obtain ⟨fs, hr, hrun, hended, hW, hsame⟩ := X0.leave (v := some (.int (2 : Int32))) (fun h => by rw [Bd.returns] at h; cases h)
  refine ⟨_, _, pre0 _ ?_, hrun, hended, _, _, rfl, ?_, ⟨_, rfl⟩, hW, hsame.mono (by decide) (by decide)⟩
  · skip
    show Steps p.tables e below (s₁.setTop (mkF m 0 #[.val (.int (1 : Int32))] [])) _
    refine XS.iloadN X0.here hx rfl (hb hby d39_0) rfl ?_
    refine XS.ifYes X0.here hx rfl (pc0 := 1) (pc' := 12) rfl (hb hby d39_1) rfl ((if0 _ _).trans (flt (by decide : ¬ ((1 : Int32) < (0 : Int32)))).2.1) (by decide) (by decide) ?_
    refine XS.iloadN X0.here hx rfl (hb hby d39_12) rfl ?_
    show Steps p.tables e below (s₁.setTop (mkF m 13 #[.val (.int (1 : Int32))] [(.int (1 : Int32))])) _
    refine X0.ldcInt hx hown (mvT hZ (own_w hw 227 rfl)) (g := (mkF m 13 #[.val (.int (1 : Int32))] [(.int (1 : Int32))])) rfl (hb hby d39_13) _ ?_
    show Steps p.tables e below (s₁.setTop (mkF m 15 #[.val (.int (1 : Int32))] [(.int (1073741823 : Int32)), (.int (1 : Int32))])) _
    refine XS.icmpYes X0.here hx rfl (pc0 := 15) (pc' := 55) rfl (hb hby d39_15) rfl (tlt (by decide : (1 : Int32) < (1073741823 : Int32))).1 (by decide) (by decide) ?_
    refine XS.iloadN X0.here hx rfl (hb hby d39_55) rfl ?_
    refine XS.iconst X0.here hx rfl (hb hby d39_56) ?_
    refine XS.ishl X0.here hx rfl (hb hby d39_57) rfl ?_
    show Steps p.tables e below (s₁.setTop (mkF m 58 #[.val (.int (1 : Int32))] [(.int ((1 : Int32) <<< ((1 : Int32) &&& 31)))])) _
    rw [show ((1 : Int32) <<< ((1 : Int32) &&& 31)) = (2 : Int32) from by decide]
    show Steps p.tables e below (s₁.setTop (mkF m 58 #[.val (.int (1 : Int32))] [(.int (2 : Int32))])) _
    exact retI X0 hx Bd.returns (hb hby d39_58) hr
  · show Q39x8 Z  h0 n0 _ s₁.heap _
    rw [e0]
    exact ⟨rfl, N0, rfl⟩
theorem d38_0 : decode jdk_52_method_2_code 0 = .ok (.iload_n 0, 1) := by decide +kernel
theorem d38_1 : decode jdk_52_method_2_code 1 = .ok (.invokestatic 11, 3) := by decide +kernel
theorem d38_4 : decode jdk_52_method_2_code 4 = .ok (.newarray .byte, 2) := by decide +kernel
theorem d38_6 : decode jdk_52_method_2_code 6 = .ok (.areturn, 1) := by decide +kernel
theorem ef_38x7 (m : MethodId)  : entryFrame m #[(.int (1 : Int32))] 1 = mkF m 0 #[.val (.int (1 : Int32))] [] := by first | (simp [entryFrame, mkF, argsToLocals, Value.category]; done) | rfl
def Q38x7 (Z : State)  (h0 : Heap) (n0 : Nat) (v : Option Value) (h : Heap) (L : List Loc) : Prop := ∃ (b102 : Addr) (k102 : ClassId), v = some (.ref b102) ∧ Fr n0 L ∧ Keep h0 h [] ∧ h0.size ≤ b102 ∧ Exa Z h b102 "[B" ∧ Arv Z h b102 k102 .byte (2 : Int32) [(.int (0 : Int32)), (.int (0 : Int32))] (.int (0 : Int32))
set_option maxRecDepth 65536 in
set_option maxHeartbeats 40000000 in
theorem rm38x7 (l : Launch) (Z : State) (a0 : Array Value) (hw : ∀ d ∈ tables_1, d.before a0 Z = true) (ws : List Jvm.Cond)  (h0 : Heap) (n0 : Nat) (Z0 : n0 ≤ h0.size) :
    own_MF l (⟨"java/lang/StringUTF16", "newBytesFor", "(I)[B"⟩ : MethodName) (Jvm.Cond.code (⟨"java/lang/StringUTF16", "newBytesFor", "(I)[B"⟩ : MethodName) jdk_52_method_2_code 1 (some (.array .byte)) :: ws) ({ frames := 1, cells := 1, slots := 2, locals := 12 } : Room) #[(.int (1 : Int32))] Z h0 (Q38x7 Z  h0 n0) := by
  refine MetFree.of_bodySF (plainFor_of_name pn_java_lang_StringUTF16) hisR ?_
  intro p e s m args below meth c s₁ Bd hml0 hP hK
  obtain ⟨rfl, hZ, hh⟩ := hP
  have hx := Bd.exec
  have hby := Bd.bytes
  have hml : c.maxLocals = 1 := hml0
  have hown : s.vm.findClass "java/lang/StringUTF16" = some m.cls := findClass_of_methodNamed Bd.named
  have hnm := (name_of_methodNamed Bd.named Bd.method).1
  have X0 : Stand p l e ({ frames := 1, cells := 1, slots := 2, locals := 12 } : Room) s m #[(.int (1 : Int32))] below meth c s₁ [] 0 0 := Stand.of_body Bd
  have e0 : s₁.heap = h0 := by rw [← hh, Bd.state]; rfl
  have N0 := Fr.nil n0
  have pre0 : ∀ t, Steps p.tables e below (s₁.setTop (mkF m 0 #[.val (.int (1 : Int32))] [])) t → Steps p.tables e below (s₁.setTop (entryFrame m #[(.int (1 : Int32))] 1)) t := fun t k => castTop (ef_38x7 m ) k
  obtain ⟨_, _, ⟨T101, L101, k101, n101⟩, -, X101, ⟨Lc101, hQ101, l101, y101, z101⟩, st101⟩ := Jvm.LawKit.callS X0 hx (y := (⟨"java/lang/StringUTF16", "newBytesLength", "(I)I"⟩ : MethodName)) hown (mvT hZ (own_w hw 224 rfl)) (mvT hZ (own_w hw 225 rfl)) (mvT hZ (own_w hw 201 rfl)) (mvT hZ (own_w hw 226 rfl)) (by decide) (backOf (W := 0) (rm39x8 l Z a0 hw []  h0 n0 Z0) hZ (own_w hw 226 rfl) (own_w hw 201 rfl) (by decide) (by decide)) (g := (mkF m 1 #[.val (.int (1 : Int32))] [(.int (1 : Int32))])) rfl (by rw [hml]; rfl) (argsL := [(.int (1 : Int32))]) (rest := []) (lenOf pd_4 rfl) rfl (by show 2 * 0 + _ ≤ _; exact Nat.le_of_eq rfl) (hb hby d38_1) (fun _ _ => ⟨rfl, e0, (by decide : 0 + 0 ≤ _), (by decide : 0 + 0 ≤ _)⟩)
  dsimp only [Pt.U, Pt.locs, Pt.cells, Pt.slots] at X101 l101 y101 z101 st101 hQ101
  subst l101 y101 z101
  obtain ⟨rfl, Nq101, Heq101⟩ := hQ101
  have N101 := Fr.app N0 Nq101
  obtain ⟨T102, h102, k102, X102, e102, E102, A102, Qe102, st102⟩ := newPE X101 hx hZ (own_w hw 4 rfl) Heq101 (g := (mkF m 4 #[.val (.int (1 : Int32))] [(.int (2 : Int32))])) rfl (hb hby d38_4) rfl (by decide) (cap := 2) (by decide) (by decide) (by decide) (by decide) (ad := "[B") (by decide)
  obtain ⟨b102, g102⟩ : ∃ z, z = h0.size := ⟨_, rfl⟩
  rw [← g102] at A102 Qe102 st102
  have V102 : Arv Z h102 b102 k102 .byte (2 : Int32) [(.int (0 : Int32)), (.int (0 : Int32))] (.int (0 : Int32)) := (Arv.new A102 (by decide)).pad (pad_rep [] (.int (0 : Int32)) 2)
  obtain ⟨fs, hr, hrun, hended, hW, hsame⟩ := X102.leave (v := some (.ref b102)) (fun h => by rw [Bd.returns] at h; cases h)
  refine ⟨_, _, pre0 _ ?_, hrun, hended, _, _, rfl, ?_, ⟨_, rfl⟩, hW, hsame.mono (by decide) (by decide)⟩
  · skip
    show Steps p.tables e below (s₁.setTop (mkF m 0 #[.val (.int (1 : Int32))] [])) _
    refine XS.iloadN X0.here hx rfl (hb hby d38_0) rfl ?_
    refine st101 _ ?_
    refine st102 _ ?_
    show Steps p.tables e below (T102.setTop (mkF m 6 #[.val (.int (1 : Int32))] [(.ref b102)])) _
    jvm_step X102.here [X102.here.top, hx, (hb hby d38_6), X102.method', Bd.returns, Value.isRef, FieldType.isReference]
    first | (intro acts; rw [hr _ acts rfl rfl rfl]) | rw [hr _ _ rfl rfl rfl]
    exact Steps.refl _
  · show Q38x7 Z  h0 n0 _ T102.heap _
    rw [e102]
    exact ⟨b102, k102, rfl, N101, ((Keep.refl h0 []).ext E102), (Nat.le_trans (Nat.le_refl _) (Nat.le_of_eq g102.symm)), Qe102, V102⟩
theorem d37_0 : decode jdk_52_method_14_code 0 = .ok (.iload_n 2, 1) := by decide +kernel
theorem d37_1 : decode jdk_52_method_14_code 1 = .ok (.invokestatic 107, 3) := by decide +kernel
theorem d37_4 : decode jdk_52_method_14_code 4 = .ok (.astore_n 3, 1) := by decide +kernel
theorem d37_5 : decode jdk_52_method_14_code 5 = .ok (.iconst 0, 1) := by decide +kernel
theorem d37_6 : decode jdk_52_method_14_code 6 = .ok (.istore 4, 2) := by decide +kernel
theorem d37_8 : decode jdk_52_method_14_code 8 = .ok (.iload 4, 2) := by decide +kernel
theorem d37_10 : decode jdk_52_method_14_code 10 = .ok (.iload_n 2, 1) := by decide +kernel
theorem d37_11 : decode jdk_52_method_14_code 11 = .ok (.if_icmp .ge 21, 3) := by decide +kernel
theorem d37_14 : decode jdk_52_method_14_code 14 = .ok (.aload_n 3, 1) := by decide +kernel
theorem d37_15 : decode jdk_52_method_14_code 15 = .ok (.iload 4, 2) := by decide +kernel
theorem d37_17 : decode jdk_52_method_14_code 17 = .ok (.aload_n 0, 1) := by decide +kernel
theorem d37_18 : decode jdk_52_method_14_code 18 = .ok (.iload_n 1, 1) := by decide +kernel
theorem d37_19 : decode jdk_52_method_14_code 19 = .ok (.caload, 1) := by decide +kernel
theorem d37_20 : decode jdk_52_method_14_code 20 = .ok (.invokestatic 111, 3) := by decide +kernel
theorem d37_23 : decode jdk_52_method_14_code 23 = .ok (.iinc 1 1, 3) := by decide +kernel
theorem d37_26 : decode jdk_52_method_14_code 26 = .ok (.iinc 4 1, 3) := by decide +kernel
theorem d37_29 : decode jdk_52_method_14_code 29 = .ok (.goto (-21), 3) := by decide +kernel
theorem d37_32 : decode jdk_52_method_14_code 32 = .ok (.aload_n 3, 1) := by decide +kernel
theorem d37_33 : decode jdk_52_method_14_code 33 = .ok (.areturn, 1) := by decide +kernel
theorem ef_37x6 (m : MethodId) (ra0 : Addr) : entryFrame m #[(.ref ra0), (.int (0 : Int32)), (.int (1 : Int32))] 5 = mkF m 0 #[.val (.ref ra0), .val (.int (0 : Int32)), .val (.int (1 : Int32)), .unset, .unset] [] := by first | (simp [entryFrame, mkF, argsToLocals, Value.category]; done) | rfl
def Q37x6 (Z : State) (ra0 : Addr) (ui1 : Int32) (ui2 : Int32) (uk3 : ClassId) (h0 : Heap) (n0 : Nat) (v : Option Value) (h : Heap) (L : List Loc) : Prop := ∃ (b102101 : Addr) (k102101 : ClassId), v = some (.ref b102101) ∧ Fr n0 L ∧ Keep h0 h [] ∧ h0.size ≤ b102101 ∧ Exa Z h b102101 "[B" ∧ Arv Z h b102101 k102101 .byte (2 : Int32) [(.int (nar .byte ((ui1 >>> ((0 : Int32) &&& 31)).toInt8.toInt32))), (.int (nar .byte ((ui1 >>> ((8 : Int32) &&& 31)).toInt8.toInt32)))] (.int (0 : Int32))
set_option maxRecDepth 65536 in
set_option maxHeartbeats 40000000 in
theorem rm37x6 (l : Launch) (Z : State) (a0 : Array Value) (hw : ∀ d ∈ tables_1, d.before a0 Z = true) (ws : List Jvm.Cond) (ra0 : Addr) (ui1 : Int32) (ui2 : Int32) (uk3 : ClassId) (h0 : Heap) (n0 : Nat) (Z0 : n0 ≤ h0.size) (H0 : Arv Z h0 ra0 uk3 .char (16 : Int32) (own_zl (.int ui1) (.int ui2)) (.int (0 : Int32))) (H1 : Sta Z h0 "java/lang/StringUTF16" "$assertionsDisabled" "Z" (.int (1 : Int32))) (H2 : Sta Z h0 "java/lang/StringUTF16" "HI_BYTE_SHIFT" "I" (.int (0 : Int32))) (H3 : Sta Z h0 "java/lang/StringUTF16" "LO_BYTE_SHIFT" "I" (.int (8 : Int32))) :
    own_MF l (⟨"java/lang/StringUTF16", "toBytes", "([CII)[B"⟩ : MethodName) (Jvm.Cond.code (⟨"java/lang/StringUTF16", "toBytes", "([CII)[B"⟩ : MethodName) jdk_52_method_14_code 5 (some (.array .byte)) :: ws) ({ frames := 2, cells := 1, slots := 2, locals := 24 } : Room) #[(.ref ra0), (.int (0 : Int32)), (.int (1 : Int32))] Z h0 (Q37x6 Z ra0 ui1 ui2 uk3 h0 n0) := by
  refine MetFree.of_bodySF (plainFor_of_name pn_java_lang_StringUTF16) hisR ?_
  intro p e s m args below meth c s₁ Bd hml0 hP hK
  obtain ⟨rfl, hZ, hh⟩ := hP
  have hx := Bd.exec
  have hby := Bd.bytes
  have hml : c.maxLocals = 5 := hml0
  have hown : s.vm.findClass "java/lang/StringUTF16" = some m.cls := findClass_of_methodNamed Bd.named
  have hnm := (name_of_methodNamed Bd.named Bd.method).1
  have X0 : Stand p l e ({ frames := 2, cells := 1, slots := 2, locals := 24 } : Room) s m #[(.ref ra0), (.int (0 : Int32)), (.int (1 : Int32))] below meth c s₁ [] 0 0 := Stand.of_body Bd
  have e0 : s₁.heap = h0 := by rw [← hh, Bd.state]; rfl
  have N0 := Fr.nil n0
  have pre0 : ∀ t, Steps p.tables e below (s₁.setTop (mkF m 0 #[.val (.ref ra0), .val (.int (0 : Int32)), .val (.int (1 : Int32)), .unset, .unset] [])) t → Steps p.tables e below (s₁.setTop (entryFrame m #[(.ref ra0), (.int (0 : Int32)), (.int (1 : Int32))] 5)) t := fun t k => castTop (ef_37x6 m ra0) k
  obtain ⟨_, _, ⟨T101, L101, k101, n101⟩, -, X101, ⟨Lc101, hQ101, l101, y101, z101⟩, st101⟩ := Jvm.LawKit.callS X0 hx (y := (⟨"java/lang/StringUTF16", "newBytesFor", "(I)[B"⟩ : MethodName)) hown (mvT hZ (own_w hw 221 rfl)) (mvT hZ (own_w hw 222 rfl)) (mvT hZ (own_w hw 201 rfl)) (mvT hZ (own_w hw 223 rfl)) (by decide) (backOf (W := 0) (rm38x7 l Z a0 hw []  h0 n0 Z0) hZ (own_w hw 223 rfl) (own_w hw 201 rfl) (by decide) (by decide)) (g := (mkF m 1 #[.val (.ref ra0), .val (.int (0 : Int32)), .val (.int (1 : Int32)), .unset, .unset] [(.int (1 : Int32))])) rfl (by rw [hml]; rfl) (argsL := [(.int (1 : Int32))]) (rest := []) (lenOf pd_6 rfl) rfl (by show 2 * 0 + _ ≤ _; exact Nat.le_of_eq rfl) (hb hby d37_1) (fun _ _ => ⟨rfl, e0, (by decide : 0 + 1 ≤ _), (by decide : 0 + 2 ≤ _)⟩)
  dsimp only [Pt.U, Pt.locs, Pt.cells, Pt.slots] at X101 l101 y101 z101 st101 hQ101
  subst l101 y101 z101
  obtain ⟨b102101, k102101, rfl, Nq101, K101, R101_1, R101_2, R101_3⟩ := hQ101
  have N101 := Fr.app N0 Nq101
  have f102 := (H0.keep K101 nin0)
  obtain ⟨cl103, Ar103, qc103, S103, M103, Hh103, G103⟩ := id f102
  have hin103 : ¬ ((0 : Int32) < 0 ∨ cl103.slots.size ≤ ((0 : Int32)).toNatClampNeg) := inb_of S103 ⟨by decide, by decide⟩
  have g104 : n0 ≤ b102101 := Nat.le_trans Z0 R101_1
  have f105 := (own_sta_keep H1 K101 own_pl0)
  have f106 := (own_sta_keep H2 K101 own_pl0)
  have f107 := (own_sta_keep H3 K101 own_pl0)
  have z109 : n0 ≤ T101.heap.size := (Nat.le_trans Z0 K101.1)
  obtain ⟨_, _, ⟨T108, L108, k108, n108⟩, -, X108, ⟨Lc108, hQ108, l108, y108, z108⟩, st108⟩ := Jvm.LawKit.callS X101 hx (y := (⟨"java/lang/StringUTF16", "putChar", "([BII)V"⟩ : MethodName)) hown (mvT hZ (own_w hw 212 rfl)) (mvT hZ (own_w hw 213 rfl)) (mvT hZ (own_w hw 201 rfl)) (mvT hZ (own_w hw 214 rfl)) (by decide) (backOf (W := 0) (rm36x2 l Z a0 hw [] b102101 ui1 k102101 T101.heap n0 z109 f105 f106 R101_3 g104 f107 R101_2) hZ (own_w hw 214 rfl) (own_w hw 201 rfl) (by decide) (by decide)) (g := (mkF m 20 #[.val (.ref ra0), .val (.int (0 : Int32)), .val (.int (1 : Int32)), .val (.ref b102101), .val (.int (0 : Int32))] [(.int ui1), (.int (0 : Int32)), (.ref b102101)])) rfl (by rw [hml]; rfl) (argsL := [(.ref b102101), (.int (0 : Int32)), (.int ui1)]) (rest := []) (lenOf pd_1 rfl) rfl (by show 2 * 0 + _ ≤ _; exact Nat.le_of_eq rfl) (hb hby d37_20) (fun _ _ => ⟨rfl, rfl, (by decide : 1 + 0 ≤ _), (by decide : 2 + 0 ≤ _)⟩)
  dsimp only [Pt.U, Pt.locs, Pt.cells, Pt.slots] at X108 l108 y108 z108 st108 hQ108
  subst l108 y108 z108
  obtain ⟨rfl, Nq108, K108, R108_1⟩ := hQ108
  have N108 := Fr.app N101 Nq108
  have f110 := (R101_2.keep K108)
  obtain ⟨fs, hr, hrun, hended, hW, hsame⟩ := X108.leave (v := some (.ref b102101)) (fun h => by rw [Bd.returns] at h; cases h)
  refine ⟨_, _, pre0 _ ?_, hrun, hended, _, _, rfl, ?_, ⟨_, rfl⟩, hW, hsame.mono (by decide) (by decide)⟩
  · skip
    show Steps p.tables e below (s₁.setTop (mkF m 0 #[.val (.ref ra0), .val (.int (0 : Int32)), .val (.int (1 : Int32)), .unset, .unset] [])) _
    refine XS.iloadN X0.here hx rfl (hb hby d37_0) rfl ?_
    refine st101 _ ?_
    refine XS.astoreN X101.here hx rfl (hb hby d37_4) rfl rfl (l' := #[.val (.ref ra0), .val (.int (0 : Int32)), .val (.int (1 : Int32)), .val (.ref b102101), .unset]) rfl ?_
    refine XS.iconst X101.here hx rfl (hb hby d37_5) ?_
    refine XS.istore X101.here hx rfl (hb hby d37_6) rfl (l' := #[.val (.ref ra0), .val (.int (0 : Int32)), .val (.int (1 : Int32)), .val (.ref b102101), .val (.int (0 : Int32))]) rfl ?_
    refine XS.iload X101.here hx rfl (hb hby d37_8) rfl ?_
    refine XS.iloadN X101.here hx rfl (hb hby d37_10) rfl ?_
    refine XS.icmpNo X101.here hx rfl (hb hby d37_11) rfl (tlt (by decide : (0 : Int32) < (1 : Int32))).2.1 ?_
    refine XS.aloadN X101.here hx rfl (hb hby d37_14) rfl rfl ?_
    refine XS.iload X101.here hx rfl (hb hby d37_15) rfl ?_
    refine XS.aloadN X101.here hx rfl (hb hby d37_17) rfl rfl ?_
    refine XS.iloadN X101.here hx rfl (hb hby d37_18) rfl ?_
    show Steps p.tables e below (T101.setTop (mkF m 19 #[.val (.ref ra0), .val (.int (0 : Int32)), .val (.int (1 : Int32)), .val (.ref b102101), .val (.int (0 : Int32))] [(.int (0 : Int32)), (.ref ra0), (.int (0 : Int32)), (.ref b102101)])) _
    refine X101.caload hx (j := (0 : Int32)) (v := (.int ui1)) Ar103.1 (State.isArrayOf_alike hZ.alike Ar103.2.1) Ar103.2.2 hin103 (Hh103.at hin103 (rfl)) (g := (mkF m 19 #[.val (.ref ra0), .val (.int (0 : Int32)), .val (.int (1 : Int32)), .val (.ref b102101), .val (.int (0 : Int32))] [(.int (0 : Int32)), (.ref ra0), (.int (0 : Int32)), (.ref b102101)])) rfl rfl (hb hby d37_19) _ ?_
    show Steps p.tables e below (T101.setTop (mkF m 20 #[.val (.ref ra0), .val (.int (0 : Int32)), .val (.int (1 : Int32)), .val (.ref b102101), .val (.int (0 : Int32))] [(.int ui1), (.int (0 : Int32)), (.ref b102101)])) _
    refine st108 _ ?_
    show Steps p.tables e below (T108.setTop (mkF m 23 #[.val (.ref ra0), .val (.int (0 : Int32)), .val (.int (1 : Int32)), .val (.ref b102101), .val (.int (0 : Int32))] [])) _
    refine XS.iinc X108.here hx rfl (hb hby d37_23) rfl (l' := #[.val (.ref ra0), .val (.int ((0 : Int32) + (1 : Int32))), .val (.int (1 : Int32)), .val (.ref b102101), .val (.int (0 : Int32))]) rfl ?_
    show Steps p.tables e below (T108.setTop (mkF m 26 #[.val (.ref ra0), .val (.int ((0 : Int32) + (1 : Int32))), .val (.int (1 : Int32)), .val (.ref b102101), .val (.int (0 : Int32))] [])) _
    rw [show ((0 : Int32) + (1 : Int32)) = (1 : Int32) from by decide]
    show Steps p.tables e below (T108.setTop (mkF m 26 #[.val (.ref ra0), .val (.int (1 : Int32)), .val (.int (1 : Int32)), .val (.ref b102101), .val (.int (0 : Int32))] [])) _
    refine XS.iinc X108.here hx rfl (hb hby d37_26) rfl (l' := #[.val (.ref ra0), .val (.int (1 : Int32)), .val (.int (1 : Int32)), .val (.ref b102101), .val (.int ((0 : Int32) + (1 : Int32)))]) rfl ?_
    show Steps p.tables e below (T108.setTop (mkF m 29 #[.val (.ref ra0), .val (.int (1 : Int32)), .val (.int (1 : Int32)), .val (.ref b102101), .val (.int ((0 : Int32) + (1 : Int32)))] [])) _
    rw [show ((0 : Int32) + (1 : Int32)) = (1 : Int32) from by decide]
    show Steps p.tables e below (T108.setTop (mkF m 29 #[.val (.ref ra0), .val (.int (1 : Int32)), .val (.int (1 : Int32)), .val (.ref b102101), .val (.int (1 : Int32))] [])) _
    refine XS.goto X108.here hx rfl (pc0 := 29) (pc' := 8) rfl (hb hby d37_29) (by decide) (by decide) ?_
    refine XS.iload X108.here hx rfl (hb hby d37_8) rfl ?_
    refine XS.iloadN X108.here hx rfl (hb hby d37_10) rfl ?_
    refine XS.icmpYes X108.here hx rfl (pc0 := 11) (pc' := 32) rfl (hb hby d37_11) rfl (flt (by decide : ¬ ((1 : Int32) < (1 : Int32)))).2.1 (by decide) (by decide) ?_
    refine XS.aloadN X108.here hx rfl (hb hby d37_32) rfl rfl ?_
    show Steps p.tables e below (T108.setTop (mkF m 33 #[.val (.ref ra0), .val (.int (1 : Int32)), .val (.int (1 : Int32)), .val (.ref b102101), .val (.int (1 : Int32))] [(.ref b102101)])) _
    jvm_step X108.here [X108.here.top, hx, (hb hby d37_33), X108.method', Bd.returns, Value.isRef, FieldType.isReference]
    first | (intro acts; rw [hr _ acts rfl rfl rfl]) | rw [hr _ _ rfl rfl rfl]
    exact Steps.refl _
  · show Q37x6 Z ra0 ui1 ui2 uk3 h0 n0 _ T108.heap _
    exact ⟨b102101, k102101, rfl, N108, (((Keep.refl h0 []).trans K101 (all0 (P := (fun x => x ∈ [] ∨ h0.size ≤ x)))).trans K108 (allS (P := (fun x => x ∈ [] ∨ h0.size ≤ x)) (Or.inr (Nat.le_trans (Nat.le_refl _) R101_1)) all0)), (Nat.le_trans (Nat.le_refl _) R101_1), f110, R108_1⟩
theorem d40_0 : decode jdk_52_method_5_code 0 = .ok (.getstatic 44, 3) := by decide +kernel
theorem d40_3 : decode jdk_52_method_5_code 3 = .ok (.ifCond .ne 25, 3) := by decide +kernel
theorem d40_28 : decode jdk_52_method_5_code 28 = .ok (.iload_n 1, 1) := by decide +kernel
theorem d40_29 : decode jdk_52_method_5_code 29 = .ok (.iconst 1, 1) := by decide +kernel
theorem d40_30 : decode jdk_52_method_5_code 30 = .ok (.ishl, 1) := by decide +kernel
theorem d40_31 : decode jdk_52_method_5_code 31 = .ok (.istore_n 1, 1) := by decide +kernel
theorem d40_32 : decode jdk_52_method_5_code 32 = .ok (.aload_n 0, 1) := by decide +kernel
theorem d40_33 : decode jdk_52_method_5_code 33 = .ok (.iload_n 1, 1) := by decide +kernel
theorem d40_34 : decode jdk_52_method_5_code 34 = .ok (.iinc 1 1, 3) := by decide +kernel
theorem d40_37 : decode jdk_52_method_5_code 37 = .ok (.baload, 1) := by decide +kernel
theorem d40_38 : decode jdk_52_method_5_code 38 = .ok (.sipush 255, 3) := by decide +kernel
theorem d40_41 : decode jdk_52_method_5_code 41 = .ok (.iand, 1) := by decide +kernel
theorem d40_42 : decode jdk_52_method_5_code 42 = .ok (.getstatic 59, 3) := by decide +kernel
theorem d40_45 : decode jdk_52_method_5_code 45 = .ok (.ishl, 1) := by decide +kernel
theorem d40_46 : decode jdk_52_method_5_code 46 = .ok (.aload_n 0, 1) := by decide +kernel
theorem d40_47 : decode jdk_52_method_5_code 47 = .ok (.iload_n 1, 1) := by decide +kernel
theorem d40_48 : decode jdk_52_method_5_code 48 = .ok (.baload, 1) := by decide +kernel
theorem d40_49 : decode jdk_52_method_5_code 49 = .ok (.sipush 255, 3) := by decide +kernel
theorem d40_52 : decode jdk_52_method_5_code 52 = .ok (.iand, 1) := by decide +kernel
theorem d40_53 : decode jdk_52_method_5_code 53 = .ok (.getstatic 63, 3) := by decide +kernel
theorem d40_56 : decode jdk_52_method_5_code 56 = .ok (.ishl, 1) := by decide +kernel
theorem d40_57 : decode jdk_52_method_5_code 57 = .ok (.ior, 1) := by decide +kernel
theorem d40_58 : decode jdk_52_method_5_code 58 = .ok (.i2c, 1) := by decide +kernel
theorem d40_59 : decode jdk_52_method_5_code 59 = .ok (.ireturn, 1) := by decide +kernel
theorem ef_40x10 (m : MethodId) (ra0 : Addr) : entryFrame m #[(.ref ra0), (.int (0 : Int32))] 2 = mkF m 0 #[.val (.ref ra0), .val (.int (0 : Int32))] [] := by first | (simp [entryFrame, mkF, argsToLocals, Value.category]; done) | rfl
def Q40x10 (Z : State) (ra0 : Addr) (ui1 : Int32) (ui2 : Int32) (uk3 : ClassId) (h0 : Heap) (n0 : Nat) (v : Option Value) (h : Heap) (L : List Loc) : Prop := v = some (.int (nar .char ((((ui1 &&& (255 : Int32)) <<< ((0 : Int32) &&& 31)) ||| ((ui2 &&& (255 : Int32)) <<< ((8 : Int32) &&& 31))).toUInt32.toUInt16.toUInt32.toInt32))) ∧ Fr n0 L ∧ h = h0
set_option maxRecDepth 65536 in
set_option maxHeartbeats 40000000 in
theorem rm40x10 (l : Launch) (Z : State) (a0 : Array Value) (hw : ∀ d ∈ tables_1, d.before a0 Z = true) (ws : List Jvm.Cond) (ra0 : Addr) (ui1 : Int32) (ui2 : Int32) (uk3 : ClassId) (h0 : Heap) (n0 : Nat) (Z0 : n0 ≤ h0.size) (H0 : Sta Z h0 "java/lang/StringUTF16" "$assertionsDisabled" "Z" (.int (1 : Int32))) (H1 : Arv Z h0 ra0 uk3 .byte (2 : Int32) [(.int ui1), (.int ui2)] (.int (0 : Int32))) (H2 : Sta Z h0 "java/lang/StringUTF16" "HI_BYTE_SHIFT" "I" (.int (0 : Int32))) (H3 : Sta Z h0 "java/lang/StringUTF16" "LO_BYTE_SHIFT" "I" (.int (8 : Int32))) :
    own_MF l (⟨"java/lang/StringUTF16", "getChar", "([BI)C"⟩ : MethodName) (Jvm.Cond.code (⟨"java/lang/StringUTF16", "getChar", "([BI)C"⟩ : MethodName) jdk_52_method_5_code 2 (some .char) :: ws) ({ frames := 0, cells := 0, slots := 0, locals := 0 } : Room) #[(.ref ra0), (.int (0 : Int32))] Z h0 (Q40x10 Z ra0 ui1 ui2 uk3 h0 n0) := by
  refine MetFree.of_bodySF (plainFor_of_name pn_java_lang_StringUTF16) hisR ?_
  intro p e s m args below meth c s₁ Bd hml0 hP hK
  obtain ⟨rfl, hZ, hh⟩ := hP
  have hx := Bd.exec
  have hby := Bd.bytes
  have hml : c.maxLocals = 2 := hml0
  have hown : s.vm.findClass "java/lang/StringUTF16" = some m.cls := findClass_of_methodNamed Bd.named
  have hnm := (name_of_methodNamed Bd.named Bd.method).1
  have X0 : Stand p l e ({ frames := 0, cells := 0, slots := 0, locals := 0 } : Room) s m #[(.ref ra0), (.int (0 : Int32))] below meth c s₁ [] 0 0 := Stand.of_body Bd
  have e0 : s₁.heap = h0 := by rw [← hh, Bd.state]; rfl
  have N0 := Fr.nil n0
  have pre0 : ∀ t, Steps p.tables e below (s₁.setTop (mkF m 0 #[.val (.ref ra0), .val (.int (0 : Int32))] [])) t → Steps p.tables e below (s₁.setTop (entryFrame m #[(.ref ra0), (.int (0 : Int32))] 2)) t := fun t k => castTop (ef_40x10 m ra0) k
  obtain ⟨T101, X101, e101, st101⟩ := getS2 X0 hx hZ hown (host := "") (Or.inl (own_w hw 215 rfl)) Via.refl e0 H0 (g := (mkF m 0 #[.val (.ref ra0), .val (.int (0 : Int32))] [])) rfl (hb hby d40_0)
  obtain ⟨cl102, Ar102, qc102, S102, M102, Hh102, G102⟩ := id H1
  have hin102 : ¬ ((0 : Int32) < 0 ∨ cl102.slots.size ≤ ((0 : Int32)).toNatClampNeg) := inb_of S102 ⟨by decide, by decide⟩
  obtain ⟨T103, X103, e103, st103⟩ := getS2 X101 hx hZ hown (host := "") (Or.inl (own_w hw 216 rfl)) Via.refl e101 H2 (g := (mkF m 42 #[.val (.ref ra0), .val (.int (1 : Int32))] [(.int (ui1 &&& (255 : Int32)))])) rfl (hb hby d40_42)
  obtain ⟨cl104, Ar104, qc104, S104, M104, Hh104, G104⟩ := id H1
  have hin104 : ¬ ((1 : Int32) < 0 ∨ cl104.slots.size ≤ ((1 : Int32)).toNatClampNeg) := inb_of S104 ⟨by decide, by decide⟩
  obtain ⟨T105, X105, e105, st105⟩ := getS2 X103 hx hZ hown (host := "") (Or.inl (own_w hw 217 rfl)) Via.refl e103 H3 (g := (mkF m 53 #[.val (.ref ra0), .val (.int (1 : Int32))] [(.int (ui2 &&& (255 : Int32))), (.int ((ui1 &&& (255 : Int32)) <<< ((0 : Int32) &&& 31)))])) rfl (hb hby d40_53)
  obtain ⟨fs, hr, hrun, hended, hW, hsame⟩ := X105.leave (v := some (.int (nar .char ((((ui1 &&& (255 : Int32)) <<< ((0 : Int32) &&& 31)) ||| ((ui2 &&& (255 : Int32)) <<< ((8 : Int32) &&& 31))).toUInt32.toUInt16.toUInt32.toInt32)))) (fun h => by rw [Bd.returns] at h; cases h)
  refine ⟨_, _, pre0 _ ?_, hrun, hended, _, _, rfl, ?_, ⟨_, rfl⟩, hW, hsame.mono (by decide) (by decide)⟩
  · skip
    show Steps p.tables e below (s₁.setTop (mkF m 0 #[.val (.ref ra0), .val (.int (0 : Int32))] [])) _
    refine st101 _ ?_
    refine XS.ifYes X101.here hx rfl (pc0 := 3) (pc' := 28) rfl (hb hby d40_3) rfl ((if0 _ _).trans (feq (by decide : ¬ ((1 : Int32) = (0 : Int32)))).2) (by decide) (by decide) ?_
    refine XS.iloadN X101.here hx rfl (hb hby d40_28) rfl ?_
    refine XS.iconst X101.here hx rfl (hb hby d40_29) ?_
    refine XS.ishl X101.here hx rfl (hb hby d40_30) rfl ?_
    show Steps p.tables e below (T101.setTop (mkF m 31 #[.val (.ref ra0), .val (.int (0 : Int32))] [(.int ((0 : Int32) <<< ((1 : Int32) &&& 31)))])) _
    rw [show ((0 : Int32) <<< ((1 : Int32) &&& 31)) = (0 : Int32) from by decide]
    show Steps p.tables e below (T101.setTop (mkF m 31 #[.val (.ref ra0), .val (.int (0 : Int32))] [(.int (0 : Int32))])) _
    refine XS.istoreN X101.here hx rfl (hb hby d40_31) rfl (l' := #[.val (.ref ra0), .val (.int (0 : Int32))]) rfl ?_
    refine XS.aloadN X101.here hx rfl (hb hby d40_32) rfl rfl ?_
    refine XS.iloadN X101.here hx rfl (hb hby d40_33) rfl ?_
    show Steps p.tables e below (T101.setTop (mkF m 34 #[.val (.ref ra0), .val (.int (0 : Int32))] [(.int (0 : Int32)), (.ref ra0)])) _
    refine XS.iinc X101.here hx rfl (hb hby d40_34) rfl (l' := #[.val (.ref ra0), .val (.int ((0 : Int32) + (1 : Int32)))]) rfl ?_
    show Steps p.tables e below (T101.setTop (mkF m 37 #[.val (.ref ra0), .val (.int ((0 : Int32) + (1 : Int32)))] [(.int (0 : Int32)), (.ref ra0)])) _
    rw [show ((0 : Int32) + (1 : Int32)) = (1 : Int32) from by decide]
    show Steps p.tables e below (T101.setTop (mkF m 37 #[.val (.ref ra0), .val (.int (1 : Int32))] [(.int (0 : Int32)), (.ref ra0)])) _
    refine X101.baloadBytes hx (j := (0 : Int32)) (v := (.int ui1)) (by rw [e101]; exact Ar102.1) (State.isArrayOf_alike hZ.alike Ar102.2.1) Ar102.2.2 hin102 (Hh102.at hin102 (rfl)) (g := (mkF m 37 #[.val (.ref ra0), .val (.int (1 : Int32))] [(.int (0 : Int32)), (.ref ra0)])) rfl rfl (hb hby d40_37) _ ?_
    show Steps p.tables e below (T101.setTop (mkF m 38 #[.val (.ref ra0), .val (.int (1 : Int32))] [(.int ui1)])) _
    refine XS.sipush X101.here hx rfl (hb hby d40_38) ?_
    refine XS.iand X101.here hx rfl (hb hby d40_41) rfl ?_
    refine st103 _ ?_
    refine XS.ishl X103.here hx rfl (hb hby d40_45) rfl ?_
    refine XS.aloadN X103.here hx rfl (hb hby d40_46) rfl rfl ?_
    refine XS.iloadN X103.here hx rfl (hb hby d40_47) rfl ?_
    show Steps p.tables e below (T103.setTop (mkF m 48 #[.val (.ref ra0), .val (.int (1 : Int32))] [(.int (1 : Int32)), (.ref ra0), (.int ((ui1 &&& (255 : Int32)) <<< ((0 : Int32) &&& 31)))])) _
    refine X103.baloadBytes hx (j := (1 : Int32)) (v := (.int ui2)) (by rw [e103]; exact Ar104.1) (State.isArrayOf_alike hZ.alike Ar104.2.1) Ar104.2.2 hin104 (Hh104.at hin104 (rfl)) (g := (mkF m 48 #[.val (.ref ra0), .val (.int (1 : Int32))] [(.int (1 : Int32)), (.ref ra0), (.int ((ui1 &&& (255 : Int32)) <<< ((0 : Int32) &&& 31)))])) rfl rfl (hb hby d40_48) _ ?_
    show Steps p.tables e below (T103.setTop (mkF m 49 #[.val (.ref ra0), .val (.int (1 : Int32))] [(.int ui2), (.int ((ui1 &&& (255 : Int32)) <<< ((0 : Int32) &&& 31)))])) _
    refine XS.sipush X103.here hx rfl (hb hby d40_49) ?_
    refine XS.iand X103.here hx rfl (hb hby d40_52) rfl ?_
    refine st105 _ ?_
    refine XS.ishl X105.here hx rfl (hb hby d40_56) rfl ?_
    refine XS.ior X105.here hx rfl (hb hby d40_57) rfl ?_
    refine XS.i2c X105.here hx rfl (hb hby d40_58) rfl ?_
    show Steps p.tables e below (T105.setTop (mkF m 59 #[.val (.ref ra0), .val (.int (1 : Int32))] [(.int ((((ui1 &&& (255 : Int32)) <<< ((0 : Int32) &&& 31)) ||| ((ui2 &&& (255 : Int32)) <<< ((8 : Int32) &&& 31))).toUInt32.toUInt16.toUInt32.toInt32))])) _
    exact retN X105 hx (t := .char) Bd.returns (by simp) (hb hby d40_59) hr
  · show Q40x10 Z ra0 ui1 ui2 uk3 h0 n0 _ T105.heap _
    rw [e105]
    exact ⟨rfl, N0, rfl⟩
theorem d32_0 : decode jdk_52_method_16_code 0 = .ok (.iload_n 2, 1) := by decide +kernel
theorem d32_1 : decode jdk_52_method_16_code 1 = .ok (.newarray .byte, 2) := by decide +kernel
theorem d32_3 : decode jdk_52_method_16_code 3 = .ok (.astore_n 3, 1) := by decide +kernel
theorem d32_4 : decode jdk_52_method_16_code 4 = .ok (.aload_n 0, 1) := by decide +kernel
theorem d32_5 : decode jdk_52_method_16_code 5 = .ok (.iload_n 1, 1) := by decide +kernel
theorem d32_6 : decode jdk_52_method_16_code 6 = .ok (.aload_n 3, 1) := by decide +kernel
theorem d32_7 : decode jdk_52_method_16_code 7 = .ok (.iconst 0, 1) := by decide +kernel
theorem d32_8 : decode jdk_52_method_16_code 8 = .ok (.iload_n 2, 1) := by decide +kernel
theorem d32_9 : decode jdk_52_method_16_code 9 = .ok (.invokestatic 115, 3) := by decide +kernel
theorem d32_12 : decode jdk_52_method_16_code 12 = .ok (.istore 4, 2) := by decide +kernel
theorem d32_14 : decode jdk_52_method_16_code 14 = .ok (.iload 4, 2) := by decide +kernel
theorem d32_16 : decode jdk_52_method_16_code 16 = .ok (.iload_n 2, 1) := by decide +kernel
theorem d32_17 : decode jdk_52_method_16_code 17 = .ok (.if_icmp .eq 40, 3) := by decide +kernel
theorem d32_57 : decode jdk_52_method_16_code 57 = .ok (.aload_n 3, 1) := by decide +kernel
theorem d32_58 : decode jdk_52_method_16_code 58 = .ok (.areturn, 1) := by decide +kernel
theorem d32_20 : decode jdk_52_method_16_code 20 = .ok (.aload_n 0, 1) := by decide +kernel
theorem d32_21 : decode jdk_52_method_16_code 21 = .ok (.iload_n 1, 1) := by decide +kernel
theorem d32_22 : decode jdk_52_method_16_code 22 = .ok (.iload_n 2, 1) := by decide +kernel
theorem d32_23 : decode jdk_52_method_16_code 23 = .ok (.invokestatic 119, 3) := by decide +kernel
theorem d32_26 : decode jdk_52_method_16_code 26 = .ok (.astore 5, 2) := by decide +kernel
theorem d32_28 : decode jdk_52_method_16_code 28 = .ok (.aload 5, 2) := by decide +kernel
theorem d32_30 : decode jdk_52_method_16_code 30 = .ok (.iload 4, 2) := by decide +kernel
theorem d32_32 : decode jdk_52_method_16_code 32 = .ok (.invokestatic 71, 3) := by decide +kernel
theorem d32_35 : decode jdk_52_method_16_code 35 = .ok (.sipush 255, 3) := by decide +kernel
theorem d32_38 : decode jdk_52_method_16_code 38 = .ok (.if_icmp .gt 16, 3) := by decide +kernel
theorem d32_54 : decode jdk_52_method_16_code 54 = .ok (.aload 5, 2) := by decide +kernel
theorem d32_56 : decode jdk_52_method_16_code 56 = .ok (.areturn, 1) := by decide +kernel
theorem ef_32s0 (m : MethodId) (cb : Addr) : entryFrame m #[(.ref cb), (.int (0 : Int32)), (.int (1 : Int32))] 6 = mkF m 0 #[.val (.ref cb), .val (.int (0 : Int32)), .val (.int (1 : Int32)), .unset, .unset, .unset] [] := by first | (simp [entryFrame, mkF, argsToLocals, Value.category]; done) | rfl
def Q32s0 (Z : State) (cb : Addr) (ck : ClassId) (x0 : Int32) (x1 : Int32) (h0 : Heap) (n0 : Nat) (v : Option Value) (h : Heap) (L : List Loc) : Prop := ∃ (b : Addr) (k : ClassId), v = some (.ref b) ∧ Fr n0 L ∧ Keep h0 h [] ∧ Arv Z h b k .byte (own_bn (1 : Int32) x0) (own_bs (1 : Int32) x0) (.int (0 : Int32)) ∧ h0.size ≤ b
set_option maxRecDepth 65536 in
set_option maxHeartbeats 40000000 in
theorem rm32s0 (l : Launch) (Z : State) (a0 : Array Value) (hw : ∀ d ∈ tables_1, d.before a0 Z = true) (ws : List Jvm.Cond) (cb : Addr) (ck : ClassId) (x0 : Int32) (x1 : Int32) (h0 : Heap) (n0 : Nat) (Z0 : n0 ≤ h0.size) (H0 : Sta Z h0 "java/lang/StringUTF16" "$assertionsDisabled" "Z" (.int (1 : Int32))) (H1 : Sta Z h0 "java/lang/StringUTF16" "HI_BYTE_SHIFT" "I" (.int (0 : Int32))) (H2 : Sta Z h0 "java/lang/StringUTF16" "LO_BYTE_SHIFT" "I" (.int (8 : Int32))) (H3 : Arv Z h0 cb ck .char (16 : Int32) (own_zl (.int x0) (.int x1)) (.int (0 : Int32))) (H4 : own_chr x0) (H5 : own_chr x1) :
    own_MF l (⟨"java/lang/StringUTF16", "compress", "([CII)[B"⟩ : MethodName) (Jvm.Cond.code (⟨"java/lang/StringUTF16", "compress", "([CII)[B"⟩ : MethodName) jdk_52_method_16_code 6 (some (.array .byte)) :: ws) ({ frames := 3, cells := 2, slots := 3, locals := 40 } : Room) #[(.ref cb), (.int (0 : Int32)), (.int (1 : Int32))] Z h0 (Q32s0 Z cb ck x0 x1 h0 n0) := by
  refine MetFree.of_bodySF (plainFor_of_name pn_java_lang_StringUTF16) hisR ?_
  intro p e s m args below meth c s₁ Bd hml0 hP hK
  obtain ⟨rfl, hZ, hh⟩ := hP
  have hx := Bd.exec
  have hby := Bd.bytes
  have hml : c.maxLocals = 6 := hml0
  have hown : s.vm.findClass "java/lang/StringUTF16" = some m.cls := findClass_of_methodNamed Bd.named
  have hnm := (name_of_methodNamed Bd.named Bd.method).1
  have X0 : Stand p l e ({ frames := 3, cells := 2, slots := 3, locals := 40 } : Room) s m #[(.ref cb), (.int (0 : Int32)), (.int (1 : Int32))] below meth c s₁ [] 0 0 := Stand.of_body Bd
  have e0 : s₁.heap = h0 := by rw [← hh, Bd.state]; rfl
  have N0 := Fr.nil n0
  have pre0 : ∀ t, Steps p.tables e below (s₁.setTop (mkF m 0 #[.val (.ref cb), .val (.int (0 : Int32)), .val (.int (1 : Int32)), .unset, .unset, .unset] [])) t → Steps p.tables e below (s₁.setTop (entryFrame m #[(.ref cb), (.int (0 : Int32)), (.int (1 : Int32))] 6)) t := fun t k => castTop (ef_32s0 m cb) k
  obtain ⟨T101, h101, k101, X101, e101, E101, A101, Qe101, st101⟩ := newPE X0 hx hZ (own_w hw 4 rfl) e0 (g := (mkF m 1 #[.val (.ref cb), .val (.int (0 : Int32)), .val (.int (1 : Int32)), .unset, .unset, .unset] [(.int (1 : Int32))])) rfl (hb hby d32_1) rfl (by decide) (cap := 1) (by decide) (by decide) (by decide) (by decide) (ad := "[B") (by decide)
  obtain ⟨b101, g101⟩ : ∃ z, z = h0.size := ⟨_, rfl⟩
  rw [← g101] at A101 Qe101 st101
  have V101 : Arv Z h101 b101 k101 .byte (1 : Int32) [(.int (0 : Int32))] (.int (0 : Int32)) := (Arv.new A101 (by decide)).pad (pad_rep [] (.int (0 : Int32)) 1)
  have f102 := (H3.ext E101)
  have g103 : n0 ≤ b101 := Nat.le_trans Z0 (Nat.le_of_eq g101.symm)
  have ne104 : cb ≠ b101 := (Nat.ne_of_lt (Nat.lt_of_lt_of_le H3.lt (Nat.le_of_eq g101.symm)))
  have z106 : n0 ≤ h101.size := (Nat.le_trans Z0 E101.1)
  obtain ⟨_, _, ⟨T105, L105, k105, n105⟩, -, X105, ⟨Lc105, hQ105, l105, y105, z105⟩, st105⟩ := Jvm.LawKit.callS X101 hx (y := (⟨"java/lang/StringUTF16", "compress", "([CI[BII)I"⟩ : MethodName)) hown (mvT hZ (own_w hw 203 rfl)) (mvT hZ (own_w hw 204 rfl)) (mvT hZ (own_w hw 201 rfl)) (mvT hZ (own_w hw 205 rfl)) (by decide) (backOf (W := 0) (rm33s0 l Z a0 hw [] cb b101 ck x0 x1 k101 h101 n0 z106 f102 V101 g103 ne104) hZ (own_w hw 205 rfl) (own_w hw 201 rfl) (by decide) (by decide)) (g := (mkF m 9 #[.val (.ref cb), .val (.int (0 : Int32)), .val (.int (1 : Int32)), .val (.ref b101), .unset, .unset] [(.int (1 : Int32)), (.int (0 : Int32)), (.ref b101), (.int (0 : Int32)), (.ref cb)])) rfl (by rw [hml]; rfl) (argsL := [(.ref cb), (.int (0 : Int32)), (.ref b101), (.int (0 : Int32)), (.int (1 : Int32))]) (rest := []) (lenOf pd_5 rfl) rfl (by show 2 * 0 + _ ≤ _; exact Nat.le_of_eq rfl) (hb hby d32_9) (fun _ _ => ⟨rfl, e101, (by decide : 1 + 0 ≤ _), (by decide : 1 + 0 ≤ _)⟩)
  dsimp only [Pt.U, Pt.locs, Pt.cells, Pt.slots] at X105 l105 y105 z105 st105 hQ105
  subst l105 y105 z105
  obtain ⟨rfl, Nq105, K105, R105_1⟩ := hQ105
  have N105 := Fr.app N0 Nq105
  have pre107 : ∀ t, Steps p.tables e below (T105.setTop (mkF m 17 #[.val (.ref cb), .val (.int (0 : Int32)), .val (.int (1 : Int32)), .val (.ref b101), .val (.int (own_cmp x0)), .unset] [(.int (1 : Int32)), (.int (own_cmp x0))])) t → Steps p.tables e below (s₁.setTop (entryFrame m #[(.ref cb), (.int (0 : Int32)), (.int (1 : Int32))] 6)) t := fun t kt => by
    refine pre0 t ?_
    show Steps p.tables e below (s₁.setTop (mkF m 0 #[.val (.ref cb), .val (.int (0 : Int32)), .val (.int (1 : Int32)), .unset, .unset, .unset] [])) _
    refine XS.iloadN X0.here hx rfl (hb hby d32_0) rfl ?_
    refine st101 _ ?_
    refine XS.astoreN X101.here hx rfl (hb hby d32_3) rfl rfl (l' := #[.val (.ref cb), .val (.int (0 : Int32)), .val (.int (1 : Int32)), .val (.ref b101), .unset, .unset]) rfl ?_
    refine XS.aloadN X101.here hx rfl (hb hby d32_4) rfl rfl ?_
    refine XS.iloadN X101.here hx rfl (hb hby d32_5) rfl ?_
    refine XS.aloadN X101.here hx rfl (hb hby d32_6) rfl rfl ?_
    refine XS.iconst X101.here hx rfl (hb hby d32_7) ?_
    refine XS.iloadN X101.here hx rfl (hb hby d32_8) rfl ?_
    refine st105 _ ?_
    refine XS.istore X105.here hx rfl (hb hby d32_12) rfl (l' := #[.val (.ref cb), .val (.int (0 : Int32)), .val (.int (1 : Int32)), .val (.ref b101), .val (.int (own_cmp x0)), .unset]) rfl ?_
    refine XS.iload X105.here hx rfl (hb hby d32_14) rfl ?_
    refine XS.iloadN X105.here hx rfl (hb hby d32_16) rfl ?_
    show Steps p.tables e below (T105.setTop (mkF m 17 #[.val (.ref cb), .val (.int (0 : Int32)), .val (.int (1 : Int32)), .val (.ref b101), .val (.int (own_cmp x0)), .unset] [(.int (1 : Int32)), (.int (own_cmp x0))])) _
    exact kt
  by_cases hc17_108 : (own_cmp x0) = (1 : Int32)
  · skip
    have h255 := own_cmpt hc17_108
    obtain ⟨fs, hr, hrun, hended, hW, hsame⟩ := X105.leave (v := some (.ref b101)) (fun h => by rw [Bd.returns] at h; cases h)
    refine ⟨_, _, pre107 _ ?_, hrun, hended, _, _, rfl, ?_, ⟨_, rfl⟩, hW, hsame.mono (by decide) (by decide)⟩
    · skip
      show Steps p.tables e below (T105.setTop (mkF m 17 #[.val (.ref cb), .val (.int (0 : Int32)), .val (.int (1 : Int32)), .val (.ref b101), .val (.int (own_cmp x0)), .unset] [(.int (1 : Int32)), (.int (own_cmp x0))])) _
      refine XS.icmpYes X105.here hx rfl (pc0 := 17) (pc' := 57) rfl (hb hby d32_17) rfl (teq (hc17_108 : (own_cmp x0) = (1 : Int32))).1 (by decide) (by decide) ?_
      refine XS.aloadN X105.here hx rfl (hb hby d32_57) rfl rfl ?_
      show Steps p.tables e below (T105.setTop (mkF m 58 #[.val (.ref cb), .val (.int (0 : Int32)), .val (.int (1 : Int32)), .val (.ref b101), .val (.int (own_cmp x0)), .unset] [(.ref b101)])) _
      jvm_step X105.here [X105.here.top, hx, (hb hby d32_58), X105.method', Bd.returns, Value.isRef, FieldType.isReference]
      first | (intro acts; rw [hr _ acts rfl rfl rfl]) | rw [hr _ _ rfl rfl rfl]
      exact Steps.refl _
    · show Q32s0 Z cb ck x0 x1 h0 n0 _ T105.heap _
      exact ⟨b101, k101, rfl, N105, (((Keep.refl h0 []).ext E101).trans K105 (allS (P := (fun x => x ∈ [] ∨ h0.size ≤ x)) (Or.inr (Nat.le_trans (Nat.le_refl _) (Nat.le_of_eq g101.symm))) all0)), (by simpa only [own_bn, own_bs, own_c1, if_neg own_10, eq_false h255, if_true, if_false] using R105_1), (Nat.le_trans (Nat.le_refl _) (Nat.le_of_eq g101.symm))⟩
  · skip
    have pre109 : ∀ t, Steps p.tables e below (T105.setTop (mkF m 20 #[.val (.ref cb), .val (.int (0 : Int32)), .val (.int (1 : Int32)), .val (.ref b101), .val (.int (own_cmp x0)), .unset] [])) t → Steps p.tables e below (s₁.setTop (entryFrame m #[(.ref cb), (.int (0 : Int32)), (.int (1 : Int32))] 6)) t := fun t kt => by
      refine pre107 t ?_
      show Steps p.tables e below (T105.setTop (mkF m 17 #[.val (.ref cb), .val (.int (0 : Int32)), .val (.int (1 : Int32)), .val (.ref b101), .val (.int (own_cmp x0)), .unset] [(.int (1 : Int32)), (.int (own_cmp x0))])) _
      refine XS.icmpNo X105.here hx rfl (hb hby d32_17) rfl (feq (hc17_108 : ¬ ((own_cmp x0) = (1 : Int32)))).1 ?_
      show Steps p.tables e below (T105.setTop (mkF m 20 #[.val (.ref cb), .val (.int (0 : Int32)), .val (.int (1 : Int32)), .val (.ref b101), .val (.int (own_cmp x0)), .unset] [])) _
      exact kt
    have hw110 : (own_cmp x0) = (0 : Int32) := if_pos (own_cmpf hc17_108)
    have pre110 : ∀ t, Steps p.tables e below (T105.setTop (mkF m 20 #[.val (.ref cb), .val (.int (0 : Int32)), .val (.int (1 : Int32)), .val (.ref b101), .val (.int (0 : Int32)), .unset] [])) t → Steps p.tables e below (s₁.setTop (entryFrame m #[(.ref cb), (.int (0 : Int32)), (.int (1 : Int32))] 6)) t := fun t kt => pre109 t (by rw [hw110]; exact kt)
    have f111 := (f102.keep K105 (ninS ne104 nin0))
    have f112 := (own_sta_keep (H0.ext E101) K105 (own_plS (own_pl_exa Qe101) own_pl0))
    have f113 := (own_sta_keep (H1.ext E101) K105 (own_plS (own_pl_exa Qe101) own_pl0))
    have f114 := (own_sta_keep (H2.ext E101) K105 (own_plS (own_pl_exa Qe101) own_pl0))
    have z116 : n0 ≤ T105.heap.size := (Nat.le_trans z106 K105.1)
    obtain ⟨_, _, ⟨T115, L115, k115, n115⟩, -, X115, ⟨Lc115, hQ115, l115, y115, z115⟩, st115⟩ := Jvm.LawKit.callS X105 hx (y := (⟨"java/lang/StringUTF16", "toBytes", "([CII)[B"⟩ : MethodName)) hown (mvT hZ (own_w hw 218 rfl)) (mvT hZ (own_w hw 219 rfl)) (mvT hZ (own_w hw 201 rfl)) (mvT hZ (own_w hw 220 rfl)) (by decide) (backOf (W := 0) (rm37x6 l Z a0 hw [] cb x0 x1 ck T105.heap n0 z116 f111 f112 f113 f114) hZ (own_w hw 220 rfl) (own_w hw 201 rfl) (by decide) (by decide)) (g := (mkF m 23 #[.val (.ref cb), .val (.int (0 : Int32)), .val (.int (1 : Int32)), .val (.ref b101), .val (.int (0 : Int32)), .unset] [(.int (1 : Int32)), (.int (0 : Int32)), (.ref cb)])) rfl (by rw [hml]; rfl) (argsL := [(.ref cb), (.int (0 : Int32)), (.int (1 : Int32))]) (rest := []) (lenOf pd_7 rfl) rfl (by show 2 * 0 + _ ≤ _; exact Nat.le_of_eq rfl) (hb hby d32_23) (fun _ _ => ⟨rfl, rfl, (by decide : 1 + 1 ≤ _), (by decide : 1 + 2 ≤ _)⟩)
    dsimp only [Pt.U, Pt.locs, Pt.cells, Pt.slots] at X115 l115 y115 z115 st115 hQ115
    subst l115 y115 z115
    obtain ⟨b102101115, k102101115, rfl, Nq115, K115, R115_1, R115_2, R115_3⟩ := hQ115
    have N115 := Fr.app N105 Nq115
    have f117 := (own_sta_keep f112 K115 own_pl0)
    have f118 := (own_sta_keep f113 K115 own_pl0)
    have f119 := (own_sta_keep f114 K115 own_pl0)
    have z121 : n0 ≤ T115.heap.size := (Nat.le_trans z116 K115.1)
    obtain ⟨_, _, ⟨T120, L120, k120, n120⟩, -, X120, ⟨Lc120, hQ120, l120, y120, z120⟩, st120⟩ := Jvm.LawKit.callS X115 hx (y := (⟨"java/lang/StringUTF16", "getChar", "([BI)C"⟩ : MethodName)) hown (mvT hZ (own_w hw 228 rfl)) (mvT hZ (own_w hw 229 rfl)) (mvT hZ (own_w hw 201 rfl)) (mvT hZ (own_w hw 230 rfl)) (by decide) (backOf (W := 0) (rm40x10 l Z a0 hw [] b102101115 (nar .byte ((x0 >>> ((0 : Int32) &&& 31)).toInt8.toInt32)) (nar .byte ((x0 >>> ((8 : Int32) &&& 31)).toInt8.toInt32)) k102101115 T115.heap n0 z121 f117 R115_3 f118 f119) hZ (own_w hw 230 rfl) (own_w hw 201 rfl) (by decide) (by decide)) (g := (mkF m 32 #[.val (.ref cb), .val (.int (0 : Int32)), .val (.int (1 : Int32)), .val (.ref b101), .val (.int (0 : Int32)), .val (.ref b102101115)] [(.int (0 : Int32)), (.ref b102101115)])) rfl (by rw [hml]; rfl) (argsL := [(.ref b102101115), (.int (0 : Int32))]) (rest := []) (lenOf pd_8 rfl) rfl (by show 2 * 0 + _ ≤ _; exact Nat.le_of_eq rfl) (hb hby d32_32) (fun _ _ => ⟨rfl, rfl, (by decide : 2 + 0 ≤ _), (by decide : 3 + 0 ≤ _)⟩)
    dsimp only [Pt.U, Pt.locs, Pt.cells, Pt.slots] at X120 l120 y120 z120 st120 hQ120
    subst l120 y120 z120
    obtain ⟨rfl, Nq120, Heq120⟩ := hQ120
    have N120 := Fr.app N115 Nq120
    have h255 := own_cmpf hc17_108
    obtain ⟨fs, hr, hrun, hended, hW, hsame⟩ := X120.leave (v := some (.ref b102101115)) (fun h => by rw [Bd.returns] at h; cases h)
    refine ⟨_, _, pre110 _ ?_, hrun, hended, _, _, rfl, ?_, ⟨_, rfl⟩, hW, hsame.mono (by decide) (by decide)⟩
    · skip
      show Steps p.tables e below (T105.setTop (mkF m 20 #[.val (.ref cb), .val (.int (0 : Int32)), .val (.int (1 : Int32)), .val (.ref b101), .val (.int (0 : Int32)), .unset] [])) _
      refine XS.aloadN X105.here hx rfl (hb hby d32_20) rfl rfl ?_
      refine XS.iloadN X105.here hx rfl (hb hby d32_21) rfl ?_
      refine XS.iloadN X105.here hx rfl (hb hby d32_22) rfl ?_
      refine st115 _ ?_
      refine XS.astore X115.here hx rfl (hb hby d32_26) rfl rfl (l' := #[.val (.ref cb), .val (.int (0 : Int32)), .val (.int (1 : Int32)), .val (.ref b101), .val (.int (0 : Int32)), .val (.ref b102101115)]) rfl ?_
      refine XS.aload X115.here hx rfl (hb hby d32_28) rfl rfl ?_
      refine XS.iload X115.here hx rfl (hb hby d32_30) rfl ?_
      refine st120 _ ?_
      refine XS.sipush X120.here hx rfl (hb hby d32_35) ?_
      refine XS.icmpYes X120.here hx rfl (pc0 := 38) (pc' := 54) rfl (hb hby d32_38) rfl (tlt (own_gcl H4 (own_cmpf hc17_108) : (255 : Int32) < (nar .char (((((nar .byte ((x0 >>> ((0 : Int32) &&& 31)).toInt8.toInt32)) &&& (255 : Int32)) <<< ((0 : Int32) &&& 31)) ||| (((nar .byte ((x0 >>> ((8 : Int32) &&& 31)).toInt8.toInt32)) &&& (255 : Int32)) <<< ((8 : Int32) &&& 31))).toUInt32.toUInt16.toUInt32.toInt32)))).2.2.1 (by decide) (by decide) ?_
      refine XS.aload X120.here hx rfl (hb hby d32_54) rfl rfl ?_
      show Steps p.tables e below (T120.setTop (mkF m 56 #[.val (.ref cb), .val (.int (0 : Int32)), .val (.int (1 : Int32)), .val (.ref b101), .val (.int (0 : Int32)), .val (.ref b102101115)] [(.ref b102101115)])) _
      jvm_step X120.here [X120.here.top, hx, (hb hby d32_56), X120.method', Bd.returns, Value.isRef, FieldType.isReference]
      first | (intro acts; rw [hr _ acts rfl rfl rfl]) | rw [hr _ _ rfl rfl rfl]
      exact Steps.refl _
    · show Q32s0 Z cb ck x0 x1 h0 n0 _ T120.heap _
      rw [Heq120]
      exact ⟨b102101115, k102101115, rfl, N120, ((((Keep.refl h0 []).ext E101).trans K105 (allS (P := (fun x => x ∈ [] ∨ h0.size ≤ x)) (Or.inr (Nat.le_trans (Nat.le_refl _) (Nat.le_of_eq g101.symm))) all0)).trans K115 (all0 (P := (fun x => x ∈ [] ∨ h0.size ≤ x)))), (by simpa only [own_bn, own_bs, own_c1, if_neg own_10, eq_true h255, if_true, if_false] using R115_3), (Nat.le_trans (Nat.le_trans (Nat.le_trans (Nat.le_refl _) E101.1) K105.1) R115_1)⟩
theorem ef_33s1 (m : MethodId) (cb : Addr) (b : Addr) : entryFrame m #[(.ref cb), (.int (1 : Int32)), (.ref b), (.int (0 : Int32)), (.int (1 : Int32))] 7 = mkF m 0 #[.val (.ref cb), .val (.int (1 : Int32)), .val (.ref b), .val (.int (0 : Int32)), .val (.int (1 : Int32)), .unset, .unset] [] := by first | (simp [entryFrame, mkF, argsToLocals, Value.category]; done) | rfl
def Q33s1 (Z : State) (cb : Addr) (b : Addr) (ck : ClassId) (x0 : Int32) (x1 : Int32) (k : ClassId) (h0 : Heap) (n0 : Nat) (v : Option Value) (h : Heap) (L : List Loc) : Prop := v = some (.int (own_cmp x1)) ∧ Fr n0 L ∧ Keep h0 h [b] ∧ Arv Z h b k .byte (1 : Int32) (own_c1 x1) (.int (0 : Int32))
set_option maxRecDepth 65536 in
set_option maxHeartbeats 40000000 in
theorem rm33s1 (l : Launch) (Z : State) (a0 : Array Value) (hw : ∀ d ∈ tables_1, d.before a0 Z = true) (ws : List Jvm.Cond) (cb : Addr) (b : Addr) (ck : ClassId) (x0 : Int32) (x1 : Int32) (k : ClassId) (h0 : Heap) (n0 : Nat) (Z0 : n0 ≤ h0.size) (H0 : Arv Z h0 cb ck .char (16 : Int32) (own_zl (.int x0) (.int x1)) (.int (0 : Int32))) (H1 : Arv Z h0 b k .byte (1 : Int32) [(.int (0 : Int32))] (.int (0 : Int32))) (H2 : n0 ≤ b) (H3 : cb ≠ b) :
    own_MF l (⟨"java/lang/StringUTF16", "compress", "([CI[BII)I"⟩ : MethodName) (Jvm.Cond.code (⟨"java/lang/StringUTF16", "compress", "([CI[BII)I"⟩ : MethodName) jdk_52_method_21_code 7 (some .int) :: ws) ({ frames := 0, cells := 0, slots := 0, locals := 0 } : Room) #[(.ref cb), (.int (1 : Int32)), (.ref b), (.int (0 : Int32)), (.int (1 : Int32))] Z h0 (Q33s1 Z cb b ck x0 x1 k h0 n0) := by
  refine MetFree.of_bodySF (plainFor_of_name pn_java_lang_StringUTF16) hisR ?_
  intro p e s m args below meth c s₁ Bd hml0 hP hK
  obtain ⟨rfl, hZ, hh⟩ := hP
  have hx := Bd.exec
  have hby := Bd.bytes
  have hml : c.maxLocals = 7 := hml0
  have hown : s.vm.findClass "java/lang/StringUTF16" = some m.cls := findClass_of_methodNamed Bd.named
  have hnm := (name_of_methodNamed Bd.named Bd.method).1
  have X0 : Stand p l e ({ frames := 0, cells := 0, slots := 0, locals := 0 } : Room) s m #[(.ref cb), (.int (1 : Int32)), (.ref b), (.int (0 : Int32)), (.int (1 : Int32))] below meth c s₁ [] 0 0 := Stand.of_body Bd
  have e0 : s₁.heap = h0 := by rw [← hh, Bd.state]; rfl
  have N0 := Fr.nil n0
  have pre0 : ∀ t, Steps p.tables e below (s₁.setTop (mkF m 0 #[.val (.ref cb), .val (.int (1 : Int32)), .val (.ref b), .val (.int (0 : Int32)), .val (.int (1 : Int32)), .unset, .unset] [])) t → Steps p.tables e below (s₁.setTop (entryFrame m #[(.ref cb), (.int (1 : Int32)), (.ref b), (.int (0 : Int32)), (.int (1 : Int32))] 7)) t := fun t k => castTop (ef_33s1 m cb b) k
  obtain ⟨cl101, Ar101, qc101, S101, M101, Hh101, G101⟩ := id H0
  have hin101 : ¬ ((1 : Int32) < 0 ∨ cl101.slots.size ≤ ((1 : Int32)).toNatClampNeg) := inb_of S101 ⟨by decide, by decide⟩
  have pre102 : ∀ t, Steps p.tables e below (s₁.setTop (mkF m 20 #[.val (.ref cb), .val (.int (1 : Int32)), .val (.ref b), .val (.int (0 : Int32)), .val (.int (1 : Int32)), .val (.int (0 : Int32)), .val (.int x1)] [(.int (255 : Int32)), (.int x1)])) t → Steps p.tables e below (s₁.setTop (entryFrame m #[(.ref cb), (.int (1 : Int32)), (.ref b), (.int (0 : Int32)), (.int (1 : Int32))] 7)) t := fun t kt => by
    refine pre0 t ?_
    show Steps p.tables e below (s₁.setTop (mkF m 0 #[.val (.ref cb), .val (.int (1 : Int32)), .val (.ref b), .val (.int (0 : Int32)), .val (.int (1 : Int32)), .unset, .unset] [])) _
    refine XS.iconst X0.here hx rfl (hb hby d33_0) ?_
    refine XS.istore X0.here hx rfl (hb hby d33_1) rfl (l' := #[.val (.ref cb), .val (.int (1 : Int32)), .val (.ref b), .val (.int (0 : Int32)), .val (.int (1 : Int32)), .val (.int (0 : Int32)), .unset]) rfl ?_
    refine XS.iload X0.here hx rfl (hb hby d33_3) rfl ?_
    refine XS.iload X0.here hx rfl (hb hby d33_5) rfl ?_
    refine XS.icmpNo X0.here hx rfl (hb hby d33_7) rfl (tlt (by decide : (0 : Int32) < (1 : Int32))).2.1 ?_
    refine XS.aloadN X0.here hx rfl (hb hby d33_10) rfl rfl ?_
    refine XS.iloadN X0.here hx rfl (hb hby d33_11) rfl ?_
    show Steps p.tables e below (s₁.setTop (mkF m 12 #[.val (.ref cb), .val (.int (1 : Int32)), .val (.ref b), .val (.int (0 : Int32)), .val (.int (1 : Int32)), .val (.int (0 : Int32)), .unset] [(.int (1 : Int32)), (.ref cb)])) _
    refine X0.caload hx (j := (1 : Int32)) (v := (.int x1)) (by rw [e0]; exact Ar101.1) (State.isArrayOf_alike hZ.alike Ar101.2.1) Ar101.2.2 hin101 (Hh101.at hin101 (rfl)) (g := (mkF m 12 #[.val (.ref cb), .val (.int (1 : Int32)), .val (.ref b), .val (.int (0 : Int32)), .val (.int (1 : Int32)), .val (.int (0 : Int32)), .unset] [(.int (1 : Int32)), (.ref cb)])) rfl rfl (hb hby d33_12) _ ?_
    show Steps p.tables e below (s₁.setTop (mkF m 13 #[.val (.ref cb), .val (.int (1 : Int32)), .val (.ref b), .val (.int (0 : Int32)), .val (.int (1 : Int32)), .val (.int (0 : Int32)), .unset] [(.int x1)])) _
    refine XS.istore X0.here hx rfl (hb hby d33_13) rfl (l' := #[.val (.ref cb), .val (.int (1 : Int32)), .val (.ref b), .val (.int (0 : Int32)), .val (.int (1 : Int32)), .val (.int (0 : Int32)), .val (.int x1)]) rfl ?_
    refine XS.iload X0.here hx rfl (hb hby d33_15) rfl ?_
    refine XS.sipush X0.here hx rfl (hb hby d33_17) ?_
    show Steps p.tables e below (s₁.setTop (mkF m 20 #[.val (.ref cb), .val (.int (1 : Int32)), .val (.ref b), .val (.int (0 : Int32)), .val (.int (1 : Int32)), .val (.int (0 : Int32)), .val (.int x1)] [(.int (255 : Int32)), (.int x1)])) _
    exact kt
  by_cases hc20_103 : (255 : Int32) < x1
  · skip
    obtain ⟨fs, hr, hrun, hended, hW, hsame⟩ := X0.leave (v := some (.int (0 : Int32))) (fun h => by rw [Bd.returns] at h; cases h)
    refine ⟨_, _, pre102 _ ?_, hrun, hended, _, _, rfl, ?_, ⟨_, rfl⟩, hW, hsame.mono (by decide) (by decide)⟩
    · skip
      show Steps p.tables e below (s₁.setTop (mkF m 20 #[.val (.ref cb), .val (.int (1 : Int32)), .val (.ref b), .val (.int (0 : Int32)), .val (.int (1 : Int32)), .val (.int (0 : Int32)), .val (.int x1)] [(.int (255 : Int32)), (.int x1)])) _
      refine XS.icmpNo X0.here hx rfl (hb hby d33_20) rfl (tlt (hc20_103 : (255 : Int32) < x1)).2.2.2 ?_
      refine XS.iload X0.here hx rfl (hb hby d33_23) rfl ?_
      show Steps p.tables e below (s₁.setTop (mkF m 25 #[.val (.ref cb), .val (.int (1 : Int32)), .val (.ref b), .val (.int (0 : Int32)), .val (.int (1 : Int32)), .val (.int (0 : Int32)), .val (.int x1)] [(.int (0 : Int32))])) _
      exact retI X0 hx Bd.returns (hb hby d33_25) hr
    · show Q33s1 Z cb b ck x0 x1 k h0 n0 _ s₁.heap _
      rw [e0]
      exact ⟨(by simp only [own_cmp, eq_true hc20_103, if_true, if_false]), N0, (Keep.refl h0 [b]), (by simpa only [own_c1, eq_true hc20_103, if_true, if_false] using H1)⟩
  · skip
    obtain ⟨cl104, Ar104, qc104, S104, M104, Hh104, G104⟩ := id H1
    have hin104 : ¬ ((0 : Int32) < 0 ∨ cl104.slots.size ≤ ((0 : Int32)).toNatClampNeg) := inb_of S104 ⟨by decide, by decide⟩
    obtain ⟨T104, h104, X104, e104, W104, st104⟩ := stB X0 hx hZ e0 Ar104 (j := (0 : Int32)) hin104 (g := (mkF m 31 #[.val (.ref cb), .val (.int (1 : Int32)), .val (.ref b), .val (.int (0 : Int32)), .val (.int (1 : Int32)), .val (.int (0 : Int32)), .val (.int x1)] [(.int (x1.toInt8.toInt32)), (.int (0 : Int32)), (.ref b)])) rfl rfl (hb hby d33_31)
    have V104 : Arv Z h104 b k .byte (1 : Int32) [(.int (nar .byte (x1.toInt8.toInt32)))] (.int (0 : Int32)) := Arv.set Ar104 qc104 S104 M104 Hh104 G104 (fits_nar_byte _) W104 0 rfl (by first | decide | (simp; done))
    have N104 := Fr.snoc X104 N0 H2
    obtain ⟨fs, hr, hrun, hended, hW, hsame⟩ := X104.leave (v := some (.int (1 : Int32))) (fun h => by rw [Bd.returns] at h; cases h)
    refine ⟨_, _, pre102 _ ?_, hrun, hended, _, _, rfl, ?_, ⟨_, rfl⟩, hW, hsame.mono (by decide) (by decide)⟩
    · skip
      show Steps p.tables e below (s₁.setTop (mkF m 20 #[.val (.ref cb), .val (.int (1 : Int32)), .val (.ref b), .val (.int (0 : Int32)), .val (.int (1 : Int32)), .val (.int (0 : Int32)), .val (.int x1)] [(.int (255 : Int32)), (.int x1)])) _
      refine XS.icmpYes X0.here hx rfl (pc0 := 20) (pc' := 26) rfl (hb hby d33_20) rfl (flt (hc20_103 : ¬ ((255 : Int32) < x1))).2.2.2 (by decide) (by decide) ?_
      refine XS.aloadN X0.here hx rfl (hb hby d33_26) rfl rfl ?_
      refine XS.iloadN X0.here hx rfl (hb hby d33_27) rfl ?_
      refine XS.iload X0.here hx rfl (hb hby d33_28) rfl ?_
      refine XS.i2b X0.here hx rfl (hb hby d33_30) rfl ?_
      refine st104 _ ?_
      show Steps p.tables e below (T104.setTop (mkF m 32 #[.val (.ref cb), .val (.int (1 : Int32)), .val (.ref b), .val (.int (0 : Int32)), .val (.int (1 : Int32)), .val (.int (0 : Int32)), .val (.int x1)] [])) _
      refine XS.iinc X104.here hx rfl (hb hby d33_32) rfl (l' := #[.val (.ref cb), .val (.int ((1 : Int32) + (1 : Int32))), .val (.ref b), .val (.int (0 : Int32)), .val (.int (1 : Int32)), .val (.int (0 : Int32)), .val (.int x1)]) rfl ?_
      show Steps p.tables e below (T104.setTop (mkF m 35 #[.val (.ref cb), .val (.int ((1 : Int32) + (1 : Int32))), .val (.ref b), .val (.int (0 : Int32)), .val (.int (1 : Int32)), .val (.int (0 : Int32)), .val (.int x1)] [])) _
      rw [show ((1 : Int32) + (1 : Int32)) = (2 : Int32) from by decide]
      show Steps p.tables e below (T104.setTop (mkF m 35 #[.val (.ref cb), .val (.int (2 : Int32)), .val (.ref b), .val (.int (0 : Int32)), .val (.int (1 : Int32)), .val (.int (0 : Int32)), .val (.int x1)] [])) _
      refine XS.iinc X104.here hx rfl (hb hby d33_35) rfl (l' := #[.val (.ref cb), .val (.int (2 : Int32)), .val (.ref b), .val (.int ((0 : Int32) + (1 : Int32))), .val (.int (1 : Int32)), .val (.int (0 : Int32)), .val (.int x1)]) rfl ?_
      show Steps p.tables e below (T104.setTop (mkF m 38 #[.val (.ref cb), .val (.int (2 : Int32)), .val (.ref b), .val (.int ((0 : Int32) + (1 : Int32))), .val (.int (1 : Int32)), .val (.int (0 : Int32)), .val (.int x1)] [])) _
      rw [show ((0 : Int32) + (1 : Int32)) = (1 : Int32) from by decide]
      show Steps p.tables e below (T104.setTop (mkF m 38 #[.val (.ref cb), .val (.int (2 : Int32)), .val (.ref b), .val (.int (1 : Int32)), .val (.int (1 : Int32)), .val (.int (0 : Int32)), .val (.int x1)] [])) _
      refine XS.iinc X104.here hx rfl (hb hby d33_38) rfl (l' := #[.val (.ref cb), .val (.int (2 : Int32)), .val (.ref b), .val (.int (1 : Int32)), .val (.int (1 : Int32)), .val (.int ((0 : Int32) + (1 : Int32))), .val (.int x1)]) rfl ?_
      show Steps p.tables e below (T104.setTop (mkF m 41 #[.val (.ref cb), .val (.int (2 : Int32)), .val (.ref b), .val (.int (1 : Int32)), .val (.int (1 : Int32)), .val (.int ((0 : Int32) + (1 : Int32))), .val (.int x1)] [])) _
      rw [show ((0 : Int32) + (1 : Int32)) = (1 : Int32) from by decide]
      show Steps p.tables e below (T104.setTop (mkF m 41 #[.val (.ref cb), .val (.int (2 : Int32)), .val (.ref b), .val (.int (1 : Int32)), .val (.int (1 : Int32)), .val (.int (1 : Int32)), .val (.int x1)] [])) _
      refine XS.goto X104.here hx rfl (pc0 := 41) (pc' := 3) rfl (hb hby d33_41) (by decide) (by decide) ?_
      refine XS.iload X104.here hx rfl (hb hby d33_3) rfl ?_
      refine XS.iload X104.here hx rfl (hb hby d33_5) rfl ?_
      refine XS.icmpYes X104.here hx rfl (pc0 := 7) (pc' := 44) rfl (hb hby d33_7) rfl (flt (by decide : ¬ ((1 : Int32) < (1 : Int32)))).2.1 (by decide) (by decide) ?_
      refine XS.iload X104.here hx rfl (hb hby d33_44) rfl ?_
      show Steps p.tables e below (T104.setTop (mkF m 46 #[.val (.ref cb), .val (.int (2 : Int32)), .val (.ref b), .val (.int (1 : Int32)), .val (.int (1 : Int32)), .val (.int (1 : Int32)), .val (.int x1)] [(.int (1 : Int32))])) _
      exact retI X104 hx Bd.returns (hb hby d33_46) hr
    · show Q33s1 Z cb b ck x0 x1 k h0 n0 _ T104.heap _
      rw [e104]
      exact ⟨(by simp only [own_cmp, eq_false hc20_103, if_true, if_false]), N104, ((Keep.refl h0 [b]).wr W104 (Or.inl (List.mem_of_getElem? (i := 0) rfl))), (by simpa only [own_c1, eq_false hc20_103, if_true, if_false] using V104)⟩
theorem ef_37x11 (m : MethodId) (ra0 : Addr) : entryFrame m #[(.ref ra0), (.int (1 : Int32)), (.int (1 : Int32))] 5 = mkF m 0 #[.val (.ref ra0), .val (.int (1 : Int32)), .val (.int (1 : Int32)), .unset, .unset] [] := by first | (simp [entryFrame, mkF, argsToLocals, Value.category]; done) | rfl
def Q37x11 (Z : State) (ra0 : Addr) (ui1 : Int32) (ui2 : Int32) (uk3 : ClassId) (h0 : Heap) (n0 : Nat) (v : Option Value) (h : Heap) (L : List Loc) : Prop := ∃ (b102101 : Addr) (k102101 : ClassId), v = some (.ref b102101) ∧ Fr n0 L ∧ Keep h0 h [] ∧ h0.size ≤ b102101 ∧ Exa Z h b102101 "[B" ∧ Arv Z h b102101 k102101 .byte (2 : Int32) [(.int (nar .byte ((ui2 >>> ((0 : Int32) &&& 31)).toInt8.toInt32))), (.int (nar .byte ((ui2 >>> ((8 : Int32) &&& 31)).toInt8.toInt32)))] (.int (0 : Int32))
set_option maxRecDepth 65536 in
set_option maxHeartbeats 40000000 in
theorem rm37x11 (l : Launch) (Z : State) (a0 : Array Value) (hw : ∀ d ∈ tables_1, d.before a0 Z = true) (ws : List Jvm.Cond) (ra0 : Addr) (ui1 : Int32) (ui2 : Int32) (uk3 : ClassId) (h0 : Heap) (n0 : Nat) (Z0 : n0 ≤ h0.size) (H0 : Arv Z h0 ra0 uk3 .char (16 : Int32) (own_zl (.int ui1) (.int ui2)) (.int (0 : Int32))) (H1 : Sta Z h0 "java/lang/StringUTF16" "$assertionsDisabled" "Z" (.int (1 : Int32))) (H2 : Sta Z h0 "java/lang/StringUTF16" "HI_BYTE_SHIFT" "I" (.int (0 : Int32))) (H3 : Sta Z h0 "java/lang/StringUTF16" "LO_BYTE_SHIFT" "I" (.int (8 : Int32))) :
    own_MF l (⟨"java/lang/StringUTF16", "toBytes", "([CII)[B"⟩ : MethodName) (Jvm.Cond.code (⟨"java/lang/StringUTF16", "toBytes", "([CII)[B"⟩ : MethodName) jdk_52_method_14_code 5 (some (.array .byte)) :: ws) ({ frames := 2, cells := 1, slots := 2, locals := 24 } : Room) #[(.ref ra0), (.int (1 : Int32)), (.int (1 : Int32))] Z h0 (Q37x11 Z ra0 ui1 ui2 uk3 h0 n0) := by
  refine MetFree.of_bodySF (plainFor_of_name pn_java_lang_StringUTF16) hisR ?_
  intro p e s m args below meth c s₁ Bd hml0 hP hK
  obtain ⟨rfl, hZ, hh⟩ := hP
  have hx := Bd.exec
  have hby := Bd.bytes
  have hml : c.maxLocals = 5 := hml0
  have hown : s.vm.findClass "java/lang/StringUTF16" = some m.cls := findClass_of_methodNamed Bd.named
  have hnm := (name_of_methodNamed Bd.named Bd.method).1
  have X0 : Stand p l e ({ frames := 2, cells := 1, slots := 2, locals := 24 } : Room) s m #[(.ref ra0), (.int (1 : Int32)), (.int (1 : Int32))] below meth c s₁ [] 0 0 := Stand.of_body Bd
  have e0 : s₁.heap = h0 := by rw [← hh, Bd.state]; rfl
  have N0 := Fr.nil n0
  have pre0 : ∀ t, Steps p.tables e below (s₁.setTop (mkF m 0 #[.val (.ref ra0), .val (.int (1 : Int32)), .val (.int (1 : Int32)), .unset, .unset] [])) t → Steps p.tables e below (s₁.setTop (entryFrame m #[(.ref ra0), (.int (1 : Int32)), (.int (1 : Int32))] 5)) t := fun t k => castTop (ef_37x11 m ra0) k
  obtain ⟨_, _, ⟨T101, L101, k101, n101⟩, -, X101, ⟨Lc101, hQ101, l101, y101, z101⟩, st101⟩ := Jvm.LawKit.callS X0 hx (y := (⟨"java/lang/StringUTF16", "newBytesFor", "(I)[B"⟩ : MethodName)) hown (mvT hZ (own_w hw 221 rfl)) (mvT hZ (own_w hw 222 rfl)) (mvT hZ (own_w hw 201 rfl)) (mvT hZ (own_w hw 223 rfl)) (by decide) (backOf (W := 0) (rm38x7 l Z a0 hw []  h0 n0 Z0) hZ (own_w hw 223 rfl) (own_w hw 201 rfl) (by decide) (by decide)) (g := (mkF m 1 #[.val (.ref ra0), .val (.int (1 : Int32)), .val (.int (1 : Int32)), .unset, .unset] [(.int (1 : Int32))])) rfl (by rw [hml]; rfl) (argsL := [(.int (1 : Int32))]) (rest := []) (lenOf pd_6 rfl) rfl (by show 2 * 0 + _ ≤ _; exact Nat.le_of_eq rfl) (hb hby d37_1) (fun _ _ => ⟨rfl, e0, (by decide : 0 + 1 ≤ _), (by decide : 0 + 2 ≤ _)⟩)
  dsimp only [Pt.U, Pt.locs, Pt.cells, Pt.slots] at X101 l101 y101 z101 st101 hQ101
  subst l101 y101 z101
  obtain ⟨b102101, k102101, rfl, Nq101, K101, R101_1, R101_2, R101_3⟩ := hQ101
  have N101 := Fr.app N0 Nq101
  have f102 := (H0.keep K101 nin0)
  obtain ⟨cl103, Ar103, qc103, S103, M103, Hh103, G103⟩ := id f102
  have hin103 : ¬ ((1 : Int32) < 0 ∨ cl103.slots.size ≤ ((1 : Int32)).toNatClampNeg) := inb_of S103 ⟨by decide, by decide⟩
  have g104 : n0 ≤ b102101 := Nat.le_trans Z0 R101_1
  have f105 := (own_sta_keep H1 K101 own_pl0)
  have f106 := (own_sta_keep H2 K101 own_pl0)
  have f107 := (own_sta_keep H3 K101 own_pl0)
  have z109 : n0 ≤ T101.heap.size := (Nat.le_trans Z0 K101.1)
  obtain ⟨_, _, ⟨T108, L108, k108, n108⟩, -, X108, ⟨Lc108, hQ108, l108, y108, z108⟩, st108⟩ := Jvm.LawKit.callS X101 hx (y := (⟨"java/lang/StringUTF16", "putChar", "([BII)V"⟩ : MethodName)) hown (mvT hZ (own_w hw 212 rfl)) (mvT hZ (own_w hw 213 rfl)) (mvT hZ (own_w hw 201 rfl)) (mvT hZ (own_w hw 214 rfl)) (by decide) (backOf (W := 0) (rm36x2 l Z a0 hw [] b102101 ui2 k102101 T101.heap n0 z109 f105 f106 R101_3 g104 f107 R101_2) hZ (own_w hw 214 rfl) (own_w hw 201 rfl) (by decide) (by decide)) (g := (mkF m 20 #[.val (.ref ra0), .val (.int (1 : Int32)), .val (.int (1 : Int32)), .val (.ref b102101), .val (.int (0 : Int32))] [(.int ui2), (.int (0 : Int32)), (.ref b102101)])) rfl (by rw [hml]; rfl) (argsL := [(.ref b102101), (.int (0 : Int32)), (.int ui2)]) (rest := []) (lenOf pd_1 rfl) rfl (by show 2 * 0 + _ ≤ _; exact Nat.le_of_eq rfl) (hb hby d37_20) (fun _ _ => ⟨rfl, rfl, (by decide : 1 + 0 ≤ _), (by decide : 2 + 0 ≤ _)⟩)
  dsimp only [Pt.U, Pt.locs, Pt.cells, Pt.slots] at X108 l108 y108 z108 st108 hQ108
  subst l108 y108 z108
  obtain ⟨rfl, Nq108, K108, R108_1⟩ := hQ108
  have N108 := Fr.app N101 Nq108
  have f110 := (R101_2.keep K108)
  obtain ⟨fs, hr, hrun, hended, hW, hsame⟩ := X108.leave (v := some (.ref b102101)) (fun h => by rw [Bd.returns] at h; cases h)
  refine ⟨_, _, pre0 _ ?_, hrun, hended, _, _, rfl, ?_, ⟨_, rfl⟩, hW, hsame.mono (by decide) (by decide)⟩
  · skip
    show Steps p.tables e below (s₁.setTop (mkF m 0 #[.val (.ref ra0), .val (.int (1 : Int32)), .val (.int (1 : Int32)), .unset, .unset] [])) _
    refine XS.iloadN X0.here hx rfl (hb hby d37_0) rfl ?_
    refine st101 _ ?_
    refine XS.astoreN X101.here hx rfl (hb hby d37_4) rfl rfl (l' := #[.val (.ref ra0), .val (.int (1 : Int32)), .val (.int (1 : Int32)), .val (.ref b102101), .unset]) rfl ?_
    refine XS.iconst X101.here hx rfl (hb hby d37_5) ?_
    refine XS.istore X101.here hx rfl (hb hby d37_6) rfl (l' := #[.val (.ref ra0), .val (.int (1 : Int32)), .val (.int (1 : Int32)), .val (.ref b102101), .val (.int (0 : Int32))]) rfl ?_
    refine XS.iload X101.here hx rfl (hb hby d37_8) rfl ?_
    refine XS.iloadN X101.here hx rfl (hb hby d37_10) rfl ?_
    refine XS.icmpNo X101.here hx rfl (hb hby d37_11) rfl (tlt (by decide : (0 : Int32) < (1 : Int32))).2.1 ?_
    refine XS.aloadN X101.here hx rfl (hb hby d37_14) rfl rfl ?_
    refine XS.iload X101.here hx rfl (hb hby d37_15) rfl ?_
    refine XS.aloadN X101.here hx rfl (hb hby d37_17) rfl rfl ?_
    refine XS.iloadN X101.here hx rfl (hb hby d37_18) rfl ?_
    show Steps p.tables e below (T101.setTop (mkF m 19 #[.val (.ref ra0), .val (.int (1 : Int32)), .val (.int (1 : Int32)), .val (.ref b102101), .val (.int (0 : Int32))] [(.int (1 : Int32)), (.ref ra0), (.int (0 : Int32)), (.ref b102101)])) _
    refine X101.caload hx (j := (1 : Int32)) (v := (.int ui2)) Ar103.1 (State.isArrayOf_alike hZ.alike Ar103.2.1) Ar103.2.2 hin103 (Hh103.at hin103 (rfl)) (g := (mkF m 19 #[.val (.ref ra0), .val (.int (1 : Int32)), .val (.int (1 : Int32)), .val (.ref b102101), .val (.int (0 : Int32))] [(.int (1 : Int32)), (.ref ra0), (.int (0 : Int32)), (.ref b102101)])) rfl rfl (hb hby d37_19) _ ?_
    show Steps p.tables e below (T101.setTop (mkF m 20 #[.val (.ref ra0), .val (.int (1 : Int32)), .val (.int (1 : Int32)), .val (.ref b102101), .val (.int (0 : Int32))] [(.int ui2), (.int (0 : Int32)), (.ref b102101)])) _
    refine st108 _ ?_
    show Steps p.tables e below (T108.setTop (mkF m 23 #[.val (.ref ra0), .val (.int (1 : Int32)), .val (.int (1 : Int32)), .val (.ref b102101), .val (.int (0 : Int32))] [])) _
    refine XS.iinc X108.here hx rfl (hb hby d37_23) rfl (l' := #[.val (.ref ra0), .val (.int ((1 : Int32) + (1 : Int32))), .val (.int (1 : Int32)), .val (.ref b102101), .val (.int (0 : Int32))]) rfl ?_
    show Steps p.tables e below (T108.setTop (mkF m 26 #[.val (.ref ra0), .val (.int ((1 : Int32) + (1 : Int32))), .val (.int (1 : Int32)), .val (.ref b102101), .val (.int (0 : Int32))] [])) _
    rw [show ((1 : Int32) + (1 : Int32)) = (2 : Int32) from by decide]
    show Steps p.tables e below (T108.setTop (mkF m 26 #[.val (.ref ra0), .val (.int (2 : Int32)), .val (.int (1 : Int32)), .val (.ref b102101), .val (.int (0 : Int32))] [])) _
    refine XS.iinc X108.here hx rfl (hb hby d37_26) rfl (l' := #[.val (.ref ra0), .val (.int (2 : Int32)), .val (.int (1 : Int32)), .val (.ref b102101), .val (.int ((0 : Int32) + (1 : Int32)))]) rfl ?_
    show Steps p.tables e below (T108.setTop (mkF m 29 #[.val (.ref ra0), .val (.int (2 : Int32)), .val (.int (1 : Int32)), .val (.ref b102101), .val (.int ((0 : Int32) + (1 : Int32)))] [])) _
    rw [show ((0 : Int32) + (1 : Int32)) = (1 : Int32) from by decide]
    show Steps p.tables e below (T108.setTop (mkF m 29 #[.val (.ref ra0), .val (.int (2 : Int32)), .val (.int (1 : Int32)), .val (.ref b102101), .val (.int (1 : Int32))] [])) _
    refine XS.goto X108.here hx rfl (pc0 := 29) (pc' := 8) rfl (hb hby d37_29) (by decide) (by decide) ?_
    refine XS.iload X108.here hx rfl (hb hby d37_8) rfl ?_
    refine XS.iloadN X108.here hx rfl (hb hby d37_10) rfl ?_
    refine XS.icmpYes X108.here hx rfl (pc0 := 11) (pc' := 32) rfl (hb hby d37_11) rfl (flt (by decide : ¬ ((1 : Int32) < (1 : Int32)))).2.1 (by decide) (by decide) ?_
    refine XS.aloadN X108.here hx rfl (hb hby d37_32) rfl rfl ?_
    show Steps p.tables e below (T108.setTop (mkF m 33 #[.val (.ref ra0), .val (.int (2 : Int32)), .val (.int (1 : Int32)), .val (.ref b102101), .val (.int (1 : Int32))] [(.ref b102101)])) _
    jvm_step X108.here [X108.here.top, hx, (hb hby d37_33), X108.method', Bd.returns, Value.isRef, FieldType.isReference]
    first | (intro acts; rw [hr _ acts rfl rfl rfl]) | rw [hr _ _ rfl rfl rfl]
    exact Steps.refl _
  · show Q37x11 Z ra0 ui1 ui2 uk3 h0 n0 _ T108.heap _
    exact ⟨b102101, k102101, rfl, N108, (((Keep.refl h0 []).trans K101 (all0 (P := (fun x => x ∈ [] ∨ h0.size ≤ x)))).trans K108 (allS (P := (fun x => x ∈ [] ∨ h0.size ≤ x)) (Or.inr (Nat.le_trans (Nat.le_refl _) R101_1)) all0)), (Nat.le_trans (Nat.le_refl _) R101_1), f110, R108_1⟩
theorem ef_32s1 (m : MethodId) (cb : Addr) : entryFrame m #[(.ref cb), (.int (1 : Int32)), (.int (1 : Int32))] 6 = mkF m 0 #[.val (.ref cb), .val (.int (1 : Int32)), .val (.int (1 : Int32)), .unset, .unset, .unset] [] := by first | (simp [entryFrame, mkF, argsToLocals, Value.category]; done) | rfl
def Q32s1 (Z : State) (cb : Addr) (ck : ClassId) (x0 : Int32) (x1 : Int32) (h0 : Heap) (n0 : Nat) (v : Option Value) (h : Heap) (L : List Loc) : Prop := ∃ (b : Addr) (k : ClassId), v = some (.ref b) ∧ Fr n0 L ∧ Keep h0 h [] ∧ Arv Z h b k .byte (own_bn (1 : Int32) x1) (own_bs (1 : Int32) x1) (.int (0 : Int32)) ∧ h0.size ≤ b
set_option maxRecDepth 65536 in
set_option maxHeartbeats 40000000 in
theorem rm32s1 (l : Launch) (Z : State) (a0 : Array Value) (hw : ∀ d ∈ tables_1, d.before a0 Z = true) (ws : List Jvm.Cond) (cb : Addr) (ck : ClassId) (x0 : Int32) (x1 : Int32) (h0 : Heap) (n0 : Nat) (Z0 : n0 ≤ h0.size) (H0 : Sta Z h0 "java/lang/StringUTF16" "$assertionsDisabled" "Z" (.int (1 : Int32))) (H1 : Sta Z h0 "java/lang/StringUTF16" "HI_BYTE_SHIFT" "I" (.int (0 : Int32))) (H2 : Sta Z h0 "java/lang/StringUTF16" "LO_BYTE_SHIFT" "I" (.int (8 : Int32))) (H3 : Arv Z h0 cb ck .char (16 : Int32) (own_zl (.int x0) (.int x1)) (.int (0 : Int32))) (H4 : own_chr x0) (H5 : own_chr x1) :
    own_MF l (⟨"java/lang/StringUTF16", "compress", "([CII)[B"⟩ : MethodName) (Jvm.Cond.code (⟨"java/lang/StringUTF16", "compress", "([CII)[B"⟩ : MethodName) jdk_52_method_16_code 6 (some (.array .byte)) :: ws) ({ frames := 3, cells := 2, slots := 3, locals := 40 } : Room) #[(.ref cb), (.int (1 : Int32)), (.int (1 : Int32))] Z h0 (Q32s1 Z cb ck x0 x1 h0 n0) := by
  refine MetFree.of_bodySF (plainFor_of_name pn_java_lang_StringUTF16) hisR ?_
  intro p e s m args below meth c s₁ Bd hml0 hP hK
  obtain ⟨rfl, hZ, hh⟩ := hP
  have hx := Bd.exec
  have hby := Bd.bytes
  have hml : c.maxLocals = 6 := hml0
  have hown : s.vm.findClass "java/lang/StringUTF16" = some m.cls := findClass_of_methodNamed Bd.named
  have hnm := (name_of_methodNamed Bd.named Bd.method).1
  have X0 : Stand p l e ({ frames := 3, cells := 2, slots := 3, locals := 40 } : Room) s m #[(.ref cb), (.int (1 : Int32)), (.int (1 : Int32))] below meth c s₁ [] 0 0 := Stand.of_body Bd
  have e0 : s₁.heap = h0 := by rw [← hh, Bd.state]; rfl
  have N0 := Fr.nil n0
  have pre0 : ∀ t, Steps p.tables e below (s₁.setTop (mkF m 0 #[.val (.ref cb), .val (.int (1 : Int32)), .val (.int (1 : Int32)), .unset, .unset, .unset] [])) t → Steps p.tables e below (s₁.setTop (entryFrame m #[(.ref cb), (.int (1 : Int32)), (.int (1 : Int32))] 6)) t := fun t k => castTop (ef_32s1 m cb) k
  obtain ⟨T101, h101, k101, X101, e101, E101, A101, Qe101, st101⟩ := newPE X0 hx hZ (own_w hw 4 rfl) e0 (g := (mkF m 1 #[.val (.ref cb), .val (.int (1 : Int32)), .val (.int (1 : Int32)), .unset, .unset, .unset] [(.int (1 : Int32))])) rfl (hb hby d32_1) rfl (by decide) (cap := 1) (by decide) (by decide) (by decide) (by decide) (ad := "[B") (by decide)
  obtain ⟨b101, g101⟩ : ∃ z, z = h0.size := ⟨_, rfl⟩
  rw [← g101] at A101 Qe101 st101
  have V101 : Arv Z h101 b101 k101 .byte (1 : Int32) [(.int (0 : Int32))] (.int (0 : Int32)) := (Arv.new A101 (by decide)).pad (pad_rep [] (.int (0 : Int32)) 1)
  have f102 := (H3.ext E101)
  have g103 : n0 ≤ b101 := Nat.le_trans Z0 (Nat.le_of_eq g101.symm)
  have ne104 : cb ≠ b101 := (Nat.ne_of_lt (Nat.lt_of_lt_of_le H3.lt (Nat.le_of_eq g101.symm)))
  have z106 : n0 ≤ h101.size := (Nat.le_trans Z0 E101.1)
  obtain ⟨_, _, ⟨T105, L105, k105, n105⟩, -, X105, ⟨Lc105, hQ105, l105, y105, z105⟩, st105⟩ := Jvm.LawKit.callS X101 hx (y := (⟨"java/lang/StringUTF16", "compress", "([CI[BII)I"⟩ : MethodName)) hown (mvT hZ (own_w hw 203 rfl)) (mvT hZ (own_w hw 204 rfl)) (mvT hZ (own_w hw 201 rfl)) (mvT hZ (own_w hw 205 rfl)) (by decide) (backOf (W := 0) (rm33s1 l Z a0 hw [] cb b101 ck x0 x1 k101 h101 n0 z106 f102 V101 g103 ne104) hZ (own_w hw 205 rfl) (own_w hw 201 rfl) (by decide) (by decide)) (g := (mkF m 9 #[.val (.ref cb), .val (.int (1 : Int32)), .val (.int (1 : Int32)), .val (.ref b101), .unset, .unset] [(.int (1 : Int32)), (.int (0 : Int32)), (.ref b101), (.int (1 : Int32)), (.ref cb)])) rfl (by rw [hml]; rfl) (argsL := [(.ref cb), (.int (1 : Int32)), (.ref b101), (.int (0 : Int32)), (.int (1 : Int32))]) (rest := []) (lenOf pd_5 rfl) rfl (by show 2 * 0 + _ ≤ _; exact Nat.le_of_eq rfl) (hb hby d32_9) (fun _ _ => ⟨rfl, e101, (by decide : 1 + 0 ≤ _), (by decide : 1 + 0 ≤ _)⟩)
  dsimp only [Pt.U, Pt.locs, Pt.cells, Pt.slots] at X105 l105 y105 z105 st105 hQ105
  subst l105 y105 z105
  obtain ⟨rfl, Nq105, K105, R105_1⟩ := hQ105
  have N105 := Fr.app N0 Nq105
  have pre107 : ∀ t, Steps p.tables e below (T105.setTop (mkF m 17 #[.val (.ref cb), .val (.int (1 : Int32)), .val (.int (1 : Int32)), .val (.ref b101), .val (.int (own_cmp x1)), .unset] [(.int (1 : Int32)), (.int (own_cmp x1))])) t → Steps p.tables e below (s₁.setTop (entryFrame m #[(.ref cb), (.int (1 : Int32)), (.int (1 : Int32))] 6)) t := fun t kt => by
    refine pre0 t ?_
    show Steps p.tables e below (s₁.setTop (mkF m 0 #[.val (.ref cb), .val (.int (1 : Int32)), .val (.int (1 : Int32)), .unset, .unset, .unset] [])) _
    refine XS.iloadN X0.here hx rfl (hb hby d32_0) rfl ?_
    refine st101 _ ?_
    refine XS.astoreN X101.here hx rfl (hb hby d32_3) rfl rfl (l' := #[.val (.ref cb), .val (.int (1 : Int32)), .val (.int (1 : Int32)), .val (.ref b101), .unset, .unset]) rfl ?_
    refine XS.aloadN X101.here hx rfl (hb hby d32_4) rfl rfl ?_
    refine XS.iloadN X101.here hx rfl (hb hby d32_5) rfl ?_
    refine XS.aloadN X101.here hx rfl (hb hby d32_6) rfl rfl ?_
    refine XS.iconst X101.here hx rfl (hb hby d32_7) ?_
    refine XS.iloadN X101.here hx rfl (hb hby d32_8) rfl ?_
    refine st105 _ ?_
    refine XS.istore X105.here hx rfl (hb hby d32_12) rfl (l' := #[.val (.ref cb), .val (.int (1 : Int32)), .val (.int (1 : Int32)), .val (.ref b101), .val (.int (own_cmp x1)), .unset]) rfl ?_
    refine XS.iload X105.here hx rfl (hb hby d32_14) rfl ?_
    refine XS.iloadN X105.here hx rfl (hb hby d32_16) rfl ?_
    show Steps p.tables e below (T105.setTop (mkF m 17 #[.val (.ref cb), .val (.int (1 : Int32)), .val (.int (1 : Int32)), .val (.ref b101), .val (.int (own_cmp x1)), .unset] [(.int (1 : Int32)), (.int (own_cmp x1))])) _
    exact kt
  by_cases hc17_108 : (own_cmp x1) = (1 : Int32)
  · skip
    have h255 := own_cmpt hc17_108
    obtain ⟨fs, hr, hrun, hended, hW, hsame⟩ := X105.leave (v := some (.ref b101)) (fun h => by rw [Bd.returns] at h; cases h)
    refine ⟨_, _, pre107 _ ?_, hrun, hended, _, _, rfl, ?_, ⟨_, rfl⟩, hW, hsame.mono (by decide) (by decide)⟩
    · skip
      show Steps p.tables e below (T105.setTop (mkF m 17 #[.val (.ref cb), .val (.int (1 : Int32)), .val (.int (1 : Int32)), .val (.ref b101), .val (.int (own_cmp x1)), .unset] [(.int (1 : Int32)), (.int (own_cmp x1))])) _
      refine XS.icmpYes X105.here hx rfl (pc0 := 17) (pc' := 57) rfl (hb hby d32_17) rfl (teq (hc17_108 : (own_cmp x1) = (1 : Int32))).1 (by decide) (by decide) ?_
      refine XS.aloadN X105.here hx rfl (hb hby d32_57) rfl rfl ?_
      show Steps p.tables e below (T105.setTop (mkF m 58 #[.val (.ref cb), .val (.int (1 : Int32)), .val (.int (1 : Int32)), .val (.ref b101), .val (.int (own_cmp x1)), .unset] [(.ref b101)])) _
      jvm_step X105.here [X105.here.top, hx, (hb hby d32_58), X105.method', Bd.returns, Value.isRef, FieldType.isReference]
      first | (intro acts; rw [hr _ acts rfl rfl rfl]) | rw [hr _ _ rfl rfl rfl]
      exact Steps.refl _
    · show Q32s1 Z cb ck x0 x1 h0 n0 _ T105.heap _
      exact ⟨b101, k101, rfl, N105, (((Keep.refl h0 []).ext E101).trans K105 (allS (P := (fun x => x ∈ [] ∨ h0.size ≤ x)) (Or.inr (Nat.le_trans (Nat.le_refl _) (Nat.le_of_eq g101.symm))) all0)), (by simpa only [own_bn, own_bs, own_c1, if_neg own_10, eq_false h255, if_true, if_false] using R105_1), (Nat.le_trans (Nat.le_refl _) (Nat.le_of_eq g101.symm))⟩
  · skip
    have pre109 : ∀ t, Steps p.tables e below (T105.setTop (mkF m 20 #[.val (.ref cb), .val (.int (1 : Int32)), .val (.int (1 : Int32)), .val (.ref b101), .val (.int (own_cmp x1)), .unset] [])) t → Steps p.tables e below (s₁.setTop (entryFrame m #[(.ref cb), (.int (1 : Int32)), (.int (1 : Int32))] 6)) t := fun t kt => by
      refine pre107 t ?_
      show Steps p.tables e below (T105.setTop (mkF m 17 #[.val (.ref cb), .val (.int (1 : Int32)), .val (.int (1 : Int32)), .val (.ref b101), .val (.int (own_cmp x1)), .unset] [(.int (1 : Int32)), (.int (own_cmp x1))])) _
      refine XS.icmpNo X105.here hx rfl (hb hby d32_17) rfl (feq (hc17_108 : ¬ ((own_cmp x1) = (1 : Int32)))).1 ?_
      show Steps p.tables e below (T105.setTop (mkF m 20 #[.val (.ref cb), .val (.int (1 : Int32)), .val (.int (1 : Int32)), .val (.ref b101), .val (.int (own_cmp x1)), .unset] [])) _
      exact kt
    have hw110 : (own_cmp x1) = (0 : Int32) := if_pos (own_cmpf hc17_108)
    have pre110 : ∀ t, Steps p.tables e below (T105.setTop (mkF m 20 #[.val (.ref cb), .val (.int (1 : Int32)), .val (.int (1 : Int32)), .val (.ref b101), .val (.int (0 : Int32)), .unset] [])) t → Steps p.tables e below (s₁.setTop (entryFrame m #[(.ref cb), (.int (1 : Int32)), (.int (1 : Int32))] 6)) t := fun t kt => pre109 t (by rw [hw110]; exact kt)
    have f111 := (f102.keep K105 (ninS ne104 nin0))
    have f112 := (own_sta_keep (H0.ext E101) K105 (own_plS (own_pl_exa Qe101) own_pl0))
    have f113 := (own_sta_keep (H1.ext E101) K105 (own_plS (own_pl_exa Qe101) own_pl0))
    have f114 := (own_sta_keep (H2.ext E101) K105 (own_plS (own_pl_exa Qe101) own_pl0))
    have z116 : n0 ≤ T105.heap.size := (Nat.le_trans z106 K105.1)
    obtain ⟨_, _, ⟨T115, L115, k115, n115⟩, -, X115, ⟨Lc115, hQ115, l115, y115, z115⟩, st115⟩ := Jvm.LawKit.callS X105 hx (y := (⟨"java/lang/StringUTF16", "toBytes", "([CII)[B"⟩ : MethodName)) hown (mvT hZ (own_w hw 218 rfl)) (mvT hZ (own_w hw 219 rfl)) (mvT hZ (own_w hw 201 rfl)) (mvT hZ (own_w hw 220 rfl)) (by decide) (backOf (W := 0) (rm37x11 l Z a0 hw [] cb x0 x1 ck T105.heap n0 z116 f111 f112 f113 f114) hZ (own_w hw 220 rfl) (own_w hw 201 rfl) (by decide) (by decide)) (g := (mkF m 23 #[.val (.ref cb), .val (.int (1 : Int32)), .val (.int (1 : Int32)), .val (.ref b101), .val (.int (0 : Int32)), .unset] [(.int (1 : Int32)), (.int (1 : Int32)), (.ref cb)])) rfl (by rw [hml]; rfl) (argsL := [(.ref cb), (.int (1 : Int32)), (.int (1 : Int32))]) (rest := []) (lenOf pd_7 rfl) rfl (by show 2 * 0 + _ ≤ _; exact Nat.le_of_eq rfl) (hb hby d32_23) (fun _ _ => ⟨rfl, rfl, (by decide : 1 + 1 ≤ _), (by decide : 1 + 2 ≤ _)⟩)
    dsimp only [Pt.U, Pt.locs, Pt.cells, Pt.slots] at X115 l115 y115 z115 st115 hQ115
    subst l115 y115 z115
    obtain ⟨b102101115, k102101115, rfl, Nq115, K115, R115_1, R115_2, R115_3⟩ := hQ115
    have N115 := Fr.app N105 Nq115
    have f117 := (own_sta_keep f112 K115 own_pl0)
    have f118 := (own_sta_keep f113 K115 own_pl0)
    have f119 := (own_sta_keep f114 K115 own_pl0)
    have z121 : n0 ≤ T115.heap.size := (Nat.le_trans z116 K115.1)
    obtain ⟨_, _, ⟨T120, L120, k120, n120⟩, -, X120, ⟨Lc120, hQ120, l120, y120, z120⟩, st120⟩ := Jvm.LawKit.callS X115 hx (y := (⟨"java/lang/StringUTF16", "getChar", "([BI)C"⟩ : MethodName)) hown (mvT hZ (own_w hw 228 rfl)) (mvT hZ (own_w hw 229 rfl)) (mvT hZ (own_w hw 201 rfl)) (mvT hZ (own_w hw 230 rfl)) (by decide) (backOf (W := 0) (rm40x10 l Z a0 hw [] b102101115 (nar .byte ((x1 >>> ((0 : Int32) &&& 31)).toInt8.toInt32)) (nar .byte ((x1 >>> ((8 : Int32) &&& 31)).toInt8.toInt32)) k102101115 T115.heap n0 z121 f117 R115_3 f118 f119) hZ (own_w hw 230 rfl) (own_w hw 201 rfl) (by decide) (by decide)) (g := (mkF m 32 #[.val (.ref cb), .val (.int (1 : Int32)), .val (.int (1 : Int32)), .val (.ref b101), .val (.int (0 : Int32)), .val (.ref b102101115)] [(.int (0 : Int32)), (.ref b102101115)])) rfl (by rw [hml]; rfl) (argsL := [(.ref b102101115), (.int (0 : Int32))]) (rest := []) (lenOf pd_8 rfl) rfl (by show 2 * 0 + _ ≤ _; exact Nat.le_of_eq rfl) (hb hby d32_32) (fun _ _ => ⟨rfl, rfl, (by decide : 2 + 0 ≤ _), (by decide : 3 + 0 ≤ _)⟩)
    dsimp only [Pt.U, Pt.locs, Pt.cells, Pt.slots] at X120 l120 y120 z120 st120 hQ120
    subst l120 y120 z120
    obtain ⟨rfl, Nq120, Heq120⟩ := hQ120
    have N120 := Fr.app N115 Nq120
    have h255 := own_cmpf hc17_108
    obtain ⟨fs, hr, hrun, hended, hW, hsame⟩ := X120.leave (v := some (.ref b102101115)) (fun h => by rw [Bd.returns] at h; cases h)
    refine ⟨_, _, pre110 _ ?_, hrun, hended, _, _, rfl, ?_, ⟨_, rfl⟩, hW, hsame.mono (by decide) (by decide)⟩
    · skip
      show Steps p.tables e below (T105.setTop (mkF m 20 #[.val (.ref cb), .val (.int (1 : Int32)), .val (.int (1 : Int32)), .val (.ref b101), .val (.int (0 : Int32)), .unset] [])) _
      refine XS.aloadN X105.here hx rfl (hb hby d32_20) rfl rfl ?_
      refine XS.iloadN X105.here hx rfl (hb hby d32_21) rfl ?_
      refine XS.iloadN X105.here hx rfl (hb hby d32_22) rfl ?_
      refine st115 _ ?_
      refine XS.astore X115.here hx rfl (hb hby d32_26) rfl rfl (l' := #[.val (.ref cb), .val (.int (1 : Int32)), .val (.int (1 : Int32)), .val (.ref b101), .val (.int (0 : Int32)), .val (.ref b102101115)]) rfl ?_
      refine XS.aload X115.here hx rfl (hb hby d32_28) rfl rfl ?_
      refine XS.iload X115.here hx rfl (hb hby d32_30) rfl ?_
      refine st120 _ ?_
      refine XS.sipush X120.here hx rfl (hb hby d32_35) ?_
      refine XS.icmpYes X120.here hx rfl (pc0 := 38) (pc' := 54) rfl (hb hby d32_38) rfl (tlt (own_gcl H5 (own_cmpf hc17_108) : (255 : Int32) < (nar .char (((((nar .byte ((x1 >>> ((0 : Int32) &&& 31)).toInt8.toInt32)) &&& (255 : Int32)) <<< ((0 : Int32) &&& 31)) ||| (((nar .byte ((x1 >>> ((8 : Int32) &&& 31)).toInt8.toInt32)) &&& (255 : Int32)) <<< ((8 : Int32) &&& 31))).toUInt32.toUInt16.toUInt32.toInt32)))).2.2.1 (by decide) (by decide) ?_
      refine XS.aload X120.here hx rfl (hb hby d32_54) rfl rfl ?_
      show Steps p.tables e below (T120.setTop (mkF m 56 #[.val (.ref cb), .val (.int (1 : Int32)), .val (.int (1 : Int32)), .val (.ref b101), .val (.int (0 : Int32)), .val (.ref b102101115)] [(.ref b102101115)])) _
      jvm_step X120.here [X120.here.top, hx, (hb hby d32_56), X120.method', Bd.returns, Value.isRef, FieldType.isReference]
      first | (intro acts; rw [hr _ acts rfl rfl rfl]) | rw [hr _ _ rfl rfl rfl]
      exact Steps.refl _
    · show Q32s1 Z cb ck x0 x1 h0 n0 _ T120.heap _
      rw [Heq120]
      exact ⟨b102101115, k102101115, rfl, N120, ((((Keep.refl h0 []).ext E101).trans K105 (allS (P := (fun x => x ∈ [] ∨ h0.size ≤ x)) (Or.inr (Nat.le_trans (Nat.le_refl _) (Nat.le_of_eq g101.symm))) all0)).trans K115 (all0 (P := (fun x => x ∈ [] ∨ h0.size ≤ x)))), (by simpa only [own_bn, own_bs, own_c1, if_neg own_10, eq_true h255, if_true, if_false] using R115_3), (Nat.le_trans (Nat.le_trans (Nat.le_trans (Nat.le_refl _) E101.1) K105.1) R115_1)⟩
theorem d34_0 : decode jdk_52_method_15_code 0 = .ok (.iload_n 1, 1) := by decide +kernel
theorem d34_1 : decode jdk_52_method_15_code 1 = .ok (.aload_n 0, 1) := by decide +kernel
theorem d34_2 : decode jdk_52_method_15_code 2 = .ok (.arraylength, 1) := by decide +kernel
theorem d34_3 : decode jdk_52_method_15_code 3 = .ok (.isub, 1) := by decide +kernel
theorem d34_4 : decode jdk_52_method_15_code 4 = .ok (.bipush 31, 2) := by decide +kernel
theorem d34_6 : decode jdk_52_method_15_code 6 = .ok (.iushr, 1) := by decide +kernel
theorem d34_7 : decode jdk_52_method_15_code 7 = .ok (.i2b, 1) := by decide +kernel
theorem d34_8 : decode jdk_52_method_15_code 8 = .ok (.ireturn, 1) := by decide +kernel
theorem ef_34 (m : MethodId) (b : Addr) : entryFrame m #[(.ref b), (.int (1 : Int32))] 2 = mkF m 0 #[.val (.ref b), .val (.int (1 : Int32))] [] := by first | (simp [entryFrame, mkF, argsToLocals, Value.category]; done) | rfl
def Q34 (Z : State) (b : Addr) (k : ClassId) (n : Int32) (vs : List Value) (h0 : Heap) (n0 : Nat) (v : Option Value) (h : Heap) (L : List Loc) : Prop := v = some (.int (own_cfa n)) ∧ Fr n0 L ∧ h = h0
set_option maxRecDepth 65536 in
set_option maxHeartbeats 40000000 in
theorem rm34 (l : Launch) (Z : State) (a0 : Array Value) (hw : ∀ d ∈ tables_1, d.before a0 Z = true) (ws : List Jvm.Cond) (b : Addr) (k : ClassId) (n : Int32) (vs : List Value) (h0 : Heap) (n0 : Nat) (Z0 : n0 ≤ h0.size) (H0 : Arv Z h0 b k .byte n vs (.int (0 : Int32))) :
    own_MF l (⟨"java/lang/StringUTF16", "coderFromArrayLen", "([BI)B"⟩ : MethodName) (Jvm.Cond.code (⟨"java/lang/StringUTF16", "coderFromArrayLen", "([BI)B"⟩ : MethodName) jdk_52_method_15_code 2 (some .byte) :: ws) ({ frames := 0, cells := 0, slots := 0, locals := 0 } : Room) #[(.ref b), (.int (1 : Int32))] Z h0 (Q34 Z b k n vs h0 n0) := by
  refine MetFree.of_bodySF (plainFor_of_name pn_java_lang_StringUTF16) hisR ?_
  intro p e s m args below meth c s₁ Bd hml0 hP hK
  obtain ⟨rfl, hZ, hh⟩ := hP
  have hx := Bd.exec
  have hby := Bd.bytes
  have hml : c.maxLocals = 2 := hml0
  have hown : s.vm.findClass "java/lang/StringUTF16" = some m.cls := findClass_of_methodNamed Bd.named
  have hnm := (name_of_methodNamed Bd.named Bd.method).1
  have X0 : Stand p l e ({ frames := 0, cells := 0, slots := 0, locals := 0 } : Room) s m #[(.ref b), (.int (1 : Int32))] below meth c s₁ [] 0 0 := Stand.of_body Bd
  have e0 : s₁.heap = h0 := by rw [← hh, Bd.state]; rfl
  have N0 := Fr.nil n0
  have pre0 : ∀ t, Steps p.tables e below (s₁.setTop (mkF m 0 #[.val (.ref b), .val (.int (1 : Int32))] [])) t → Steps p.tables e below (s₁.setTop (entryFrame m #[(.ref b), (.int (1 : Int32))] 2)) t := fun t k => castTop (ef_34 m b) k
  obtain ⟨cl101, Ar101, -, S101, M101, -, -⟩ := id H0
  obtain ⟨fs, hr, hrun, hended, hW, hsame⟩ := X0.leave (v := some (.int (nar .byte (((((1 : Int32) - n).toUInt32 >>> ((31 : Int32) &&& 31).toUInt32).toInt32).toInt8.toInt32)))) (fun h => by rw [Bd.returns] at h; cases h)
  refine ⟨_, _, pre0 _ ?_, hrun, hended, _, _, rfl, ?_, ⟨_, rfl⟩, hW, hsame.mono (by decide) (by decide)⟩
  · skip
    show Steps p.tables e below (s₁.setTop (mkF m 0 #[.val (.ref b), .val (.int (1 : Int32))] [])) _
    refine XS.iloadN X0.here hx rfl (hb hby d34_0) rfl ?_
    refine XS.aloadN X0.here hx rfl (hb hby d34_1) rfl rfl ?_
    show Steps p.tables e below (s₁.setTop (mkF m 2 #[.val (.ref b), .val (.int (1 : Int32))] [(.ref b), (.int (1 : Int32))])) _
    refine X0.arraylength hx (by rw [e0]; exact Ar101.1) (State.isArrayOf_alike hZ.alike Ar101.2.1) (g := (mkF m 2 #[.val (.ref b), .val (.int (1 : Int32))] [(.ref b), (.int (1 : Int32))])) rfl rfl (hb hby d34_2) _ ?_
    rw [len_of S101 M101]
    show Steps p.tables e below (s₁.setTop (mkF m 3 #[.val (.ref b), .val (.int (1 : Int32))] [(.int n), (.int (1 : Int32))])) _
    refine XS.isub X0.here hx rfl (hb hby d34_3) rfl ?_
    refine XS.bipush X0.here hx rfl (hb hby d34_4) ?_
    refine XS.iushr X0.here hx rfl (hb hby d34_6) rfl ?_
    refine XS.i2b X0.here hx rfl (hb hby d34_7) rfl ?_
    show Steps p.tables e below (s₁.setTop (mkF m 8 #[.val (.ref b), .val (.int (1 : Int32))] [(.int (((((1 : Int32) - n).toUInt32 >>> ((31 : Int32) &&& 31).toUInt32).toInt32).toInt8.toInt32))])) _
    exact retN X0 hx (t := .byte) Bd.returns (by simp) (hb hby d34_8) hr
  · show Q34 Z b k n vs h0 n0 _ s₁.heap _
    rw [e0]
    exact ⟨rfl, N0, rfl⟩
theorem d23_0 : decode jdk_41_method_13_code 0 = .ok (.iload_n 2, 1) := by decide +kernel
theorem d23_1 : decode jdk_41_method_13_code 1 = .ok (.iload_n 0, 1) := by decide +kernel
theorem d23_2 : decode jdk_41_method_13_code 2 = .ok (.ior, 1) := by decide +kernel
theorem d23_3 : decode jdk_41_method_13_code 3 = .ok (.iload_n 1, 1) := by decide +kernel
theorem d23_4 : decode jdk_41_method_13_code 4 = .ok (.ior, 1) := by decide +kernel
theorem d23_5 : decode jdk_41_method_13_code 5 = .ok (.ifCond .lt 10, 3) := by decide +kernel
theorem d23_8 : decode jdk_41_method_13_code 8 = .ok (.iload_n 1, 1) := by decide +kernel
theorem d23_9 : decode jdk_41_method_13_code 9 = .ok (.iload_n 2, 1) := by decide +kernel
theorem d23_10 : decode jdk_41_method_13_code 10 = .ok (.iload_n 0, 1) := by decide +kernel
theorem d23_11 : decode jdk_41_method_13_code 11 = .ok (.isub, 1) := by decide +kernel
theorem d23_12 : decode jdk_41_method_13_code 12 = .ok (.if_icmp .le 11, 3) := by decide +kernel
theorem d23_23 : decode jdk_41_method_13_code 23 = .ok (.iload_n 0, 1) := by decide +kernel
theorem d23_24 : decode jdk_41_method_13_code 24 = .ok (.ireturn, 1) := by decide +kernel
theorem pn_jdk_internal_util_Preconditions : plainName "jdk/internal/util/Preconditions" = true := by first | (simp [plainName, overriddenIn]; done) | decide +kernel
theorem ef_23 (m : MethodId) (p1 : Int32) (p2 : Int32) (sf : Value) (hc_sf : sf.category = 1) : entryFrame m #[(.int p1), (.int p2), (.int (16 : Int32)), sf] 4 = mkF m 0 #[.val (.int p1), .val (.int p2), .val (.int (16 : Int32)), .val sf] [] := by first | (simp [entryFrame, mkF, argsToLocals, own_catI, own_catJ, own_catR, own_catN, own_catD, hc_sf]; done) | rfl
def Q23 (Z : State) (p1 : Int32) (p2 : Int32) (sf : Value) (h0 : Heap) (n0 : Nat) (v : Option Value) (h : Heap) (L : List Loc) : Prop := v = some (.int p1) ∧ Fr n0 L ∧ h = h0
set_option maxRecDepth 65536 in
set_option maxHeartbeats 40000000 in
theorem rm23 (l : Launch) (Z : State) (a0 : Array Value) (hw : ∀ d ∈ tables_1, d.before a0 Z = true) (ws : List Jvm.Cond) (p1 : Int32) (p2 : Int32) (sf : Value) (h0 : Heap) (n0 : Nat) (Z0 : n0 ≤ h0.size) (H0 : own_01 p1) (H1 : own_01 p2) (H2 : sf.category = 1) :
    own_MF l (⟨"jdk/internal/util/Preconditions", "checkFromIndexSize", "(IIILjava/util/function/BiFunction;)I"⟩ : MethodName) (Jvm.Cond.code (⟨"jdk/internal/util/Preconditions", "checkFromIndexSize", "(IIILjava/util/function/BiFunction;)I"⟩ : MethodName) jdk_41_method_13_code 4 (some .int) :: ws) ({ frames := 0, cells := 0, slots := 0, locals := 0 } : Room) #[(.int p1), (.int p2), (.int (16 : Int32)), sf] Z h0 (Q23 Z p1 p2 sf h0 n0) := by
  refine MetFree.of_bodySF (plainFor_of_name pn_jdk_internal_util_Preconditions) hisR ?_
  intro p e s m args below meth c s₁ Bd hml0 hP hK
  obtain ⟨rfl, hZ, hh⟩ := hP
  have hx := Bd.exec
  have hby := Bd.bytes
  have hml : c.maxLocals = 4 := hml0
  have hown : s.vm.findClass "jdk/internal/util/Preconditions" = some m.cls := findClass_of_methodNamed Bd.named
  have hnm := (name_of_methodNamed Bd.named Bd.method).1
  have X0 : Stand p l e ({ frames := 0, cells := 0, slots := 0, locals := 0 } : Room) s m #[(.int p1), (.int p2), (.int (16 : Int32)), sf] below meth c s₁ [] 0 0 := Stand.of_body Bd
  have e0 : s₁.heap = h0 := by rw [← hh, Bd.state]; rfl
  have N0 := Fr.nil n0
  have pre0 : ∀ t, Steps p.tables e below (s₁.setTop (mkF m 0 #[.val (.int p1), .val (.int p2), .val (.int (16 : Int32)), .val sf] [])) t → Steps p.tables e below (s₁.setTop (entryFrame m #[(.int p1), (.int p2), (.int (16 : Int32)), sf] 4)) t := fun t k => castTop (ef_23 m p1 p2 sf H2) k
  obtain ⟨fs, hr, hrun, hended, hW, hsame⟩ := X0.leave (v := some (.int p1)) (fun h => by rw [Bd.returns] at h; cases h)
  refine ⟨_, _, pre0 _ ?_, hrun, hended, _, _, rfl, ?_, ⟨_, rfl⟩, hW, hsame.mono (by decide) (by decide)⟩
  · skip
    show Steps p.tables e below (s₁.setTop (mkF m 0 #[.val (.int p1), .val (.int p2), .val (.int (16 : Int32)), .val sf] [])) _
    refine XS.iloadN X0.here hx rfl (hb hby d23_0) rfl ?_
    refine XS.iloadN X0.here hx rfl (hb hby d23_1) rfl ?_
    refine XS.ior X0.here hx rfl (hb hby d23_2) rfl ?_
    refine XS.iloadN X0.here hx rfl (hb hby d23_3) rfl ?_
    refine XS.ior X0.here hx rfl (hb hby d23_4) rfl ?_
    refine XS.ifNo X0.here hx rfl (hb hby d23_5) rfl ((if0 _ _).trans (flt (own_rc1 H0 H1 : ¬ ((((16 : Int32) ||| p1) ||| p2) < (0 : Int32)))).1) ?_
    refine XS.iloadN X0.here hx rfl (hb hby d23_8) rfl ?_
    refine XS.iloadN X0.here hx rfl (hb hby d23_9) rfl ?_
    refine XS.iloadN X0.here hx rfl (hb hby d23_10) rfl ?_
    refine XS.isub X0.here hx rfl (hb hby d23_11) rfl ?_
    refine XS.icmpYes X0.here hx rfl (pc0 := 12) (pc' := 23) rfl (hb hby d23_12) rfl (flt (own_rc2 H0 H1 : ¬ (((16 : Int32) - p1) < p2))).2.2.2 (by decide) (by decide) ?_
    refine XS.iloadN X0.here hx rfl (hb hby d23_23) rfl ?_
    show Steps p.tables e below (s₁.setTop (mkF m 24 #[.val (.int p1), .val (.int p2), .val (.int (16 : Int32)), .val sf] [(.int p1)])) _
    exact retI X0 hx Bd.returns (hb hby d23_24) hr
  · show Q23 Z p1 p2 sf h0 n0 _ s₁.heap _
    rw [e0]
    exact ⟨rfl, N0, rfl⟩
theorem d22_0 : decode jdk_42_method_157_code 0 = .ok (.iload_n 0, 1) := by decide +kernel
theorem d22_1 : decode jdk_42_method_157_code 1 = .ok (.iload_n 1, 1) := by decide +kernel
theorem d22_2 : decode jdk_42_method_157_code 2 = .ok (.iload_n 2, 1) := by decide +kernel
theorem d22_3 : decode jdk_42_method_157_code 3 = .ok (.getstatic 1053, 3) := by decide +kernel
theorem d22_6 : decode jdk_42_method_157_code 6 = .ok (.invokestatic 1065, 3) := by decide +kernel
theorem d22_9 : decode jdk_42_method_157_code 9 = .ok (.ireturn, 1) := by decide +kernel
theorem ef_22 (m : MethodId) (p1 : Int32) (p2 : Int32) : entryFrame m #[(.int p1), (.int p2), (.int (16 : Int32))] 3 = mkF m 0 #[.val (.int p1), .val (.int p2), .val (.int (16 : Int32))] [] := by first | (simp [entryFrame, mkF, argsToLocals, Value.category]; done) | rfl
def Q22 (Z : State) (p1 : Int32) (p2 : Int32) (sf : Value) (h0 : Heap) (n0 : Nat) (v : Option Value) (h : Heap) (L : List Loc) : Prop := v = some (.int p1) ∧ Fr n0 L ∧ h = h0
set_option maxRecDepth 65536 in
set_option maxHeartbeats 40000000 in
theorem rm22 (l : Launch) (Z : State) (a0 : Array Value) (hw : ∀ d ∈ tables_1, d.before a0 Z = true) (ws : List Jvm.Cond) (p1 : Int32) (p2 : Int32) (sf : Value) (h0 : Heap) (n0 : Nat) (Z0 : n0 ≤ h0.size) (H0 : Sta Z h0 "jdk/internal/util/Preconditions" "SIOOBE_FORMATTER" "Ljava/util/function/BiFunction;" sf) (H1 : sf.category = 1) (H2 : own_01 p1) (H3 : own_01 p2) :
    own_MF l (⟨"java/lang/String", "checkBoundsOffCount", "(III)I"⟩ : MethodName) (Jvm.Cond.code (⟨"java/lang/String", "checkBoundsOffCount", "(III)I"⟩ : MethodName) jdk_42_method_157_code 3 (some .int) :: ws) ({ frames := 1, cells := 0, slots := 0, locals := 15 } : Room) #[(.int p1), (.int p2), (.int (16 : Int32))] Z h0 (Q22 Z p1 p2 sf h0 n0) := by
  refine MetFree.of_bodySF (plainFor_of_name pn_java_lang_String) hisR ?_
  intro p e s m args below meth c s₁ Bd hml0 hP hK
  obtain ⟨rfl, hZ, hh⟩ := hP
  have hx := Bd.exec
  have hby := Bd.bytes
  have hml : c.maxLocals = 3 := hml0
  have hown : s.vm.findClass "java/lang/String" = some m.cls := findClass_of_methodNamed Bd.named
  have hnm := (name_of_methodNamed Bd.named Bd.method).1
  have X0 : Stand p l e ({ frames := 1, cells := 0, slots := 0, locals := 15 } : Room) s m #[(.int p1), (.int p2), (.int (16 : Int32))] below meth c s₁ [] 0 0 := Stand.of_body Bd
  have e0 : s₁.heap = h0 := by rw [← hh, Bd.state]; rfl
  have N0 := Fr.nil n0
  have pre0 : ∀ t, Steps p.tables e below (s₁.setTop (mkF m 0 #[.val (.int p1), .val (.int p2), .val (.int (16 : Int32))] [])) t → Steps p.tables e below (s₁.setTop (entryFrame m #[(.int p1), (.int p2), (.int (16 : Int32))] 3)) t := fun t k => castTop (ef_22 m p1 p2) k
  obtain ⟨T101, X101, e101, st101⟩ := getS2 X0 hx hZ hown (host := "") (Or.inl (own_w hw 152 rfl)) Via.refl e0 H0 (g := (mkF m 3 #[.val (.int p1), .val (.int p2), .val (.int (16 : Int32))] [(.int (16 : Int32)), (.int p2), (.int p1)])) rfl (hb hby d22_3)
  obtain ⟨_, _, ⟨T102, L102, k102, n102⟩, -, X102, ⟨Lc102, hQ102, l102, y102, z102⟩, st102⟩ := Jvm.LawKit.callS X101 hx (y := (⟨"jdk/internal/util/Preconditions", "checkFromIndexSize", "(IIILjava/util/function/BiFunction;)I"⟩ : MethodName)) hown (mvT hZ (own_w hw 153 rfl)) (mvT hZ (own_w hw 154 rfl)) (mvT hZ (own_w hw 131 rfl)) (mvT hZ (own_w hw 155 rfl)) (by decide) (backOf (W := 0) (rm23 l Z a0 hw [] p1 p2 sf h0 n0 Z0 H2 H3 H1) hZ (own_w hw 155 rfl) (own_w hw 131 rfl) (by decide) (by decide)) (g := (mkF m 6 #[.val (.int p1), .val (.int p2), .val (.int (16 : Int32))] [sf, (.int (16 : Int32)), (.int p2), (.int p1)])) rfl (by rw [hml]; rfl) (argsL := [(.int p1), (.int p2), (.int (16 : Int32)), sf]) (rest := []) (lenOf pd_9 rfl) rfl (by show 2 * 0 + _ ≤ _; exact Nat.le_of_eq rfl) (hb hby d22_6) (fun _ _ => ⟨rfl, e101, (by decide : 0 + 0 ≤ _), (by decide : 0 + 0 ≤ _)⟩)
  dsimp only [Pt.U, Pt.locs, Pt.cells, Pt.slots] at X102 l102 y102 z102 st102 hQ102
  subst l102 y102 z102
  obtain ⟨rfl, Nq102, Heq102⟩ := hQ102
  have N102 := Fr.app N0 Nq102
  obtain ⟨fs, hr, hrun, hended, hW, hsame⟩ := X102.leave (v := some (.int p1)) (fun h => by rw [Bd.returns] at h; cases h)
  refine ⟨_, _, pre0 _ ?_, hrun, hended, _, _, rfl, ?_, ⟨_, rfl⟩, hW, hsame.mono (by decide) (by decide)⟩
  · skip
    show Steps p.tables e below (s₁.setTop (mkF m 0 #[.val (.int p1), .val (.int p2), .val (.int (16 : Int32))] [])) _
    refine XS.iloadN X0.here hx rfl (hb hby d22_0) rfl ?_
    refine XS.iloadN X0.here hx rfl (hb hby d22_1) rfl ?_
    refine XS.iloadN X0.here hx rfl (hb hby d22_2) rfl ?_
    refine st101 _ ?_
    refine st102 _ ?_
    show Steps p.tables e below (T102.setTop (mkF m 9 #[.val (.int p1), .val (.int p2), .val (.int (16 : Int32))] [(.int p1)])) _
    exact retI X102 hx Bd.returns (hb hby d22_9) hr
  · show Q22 Z p1 p2 sf h0 n0 _ T102.heap _
    rw [Heq102]
    exact ⟨rfl, N102, rfl⟩
theorem d21_0 : decode jdk_42_method_5_code 0 = .ok (.iload_n 1, 1) := by decide +kernel
theorem d21_1 : decode jdk_42_method_5_code 1 = .ok (.iload_n 2, 1) := by decide +kernel
theorem d21_2 : decode jdk_42_method_5_code 2 = .ok (.aload_n 0, 1) := by decide +kernel
theorem d21_3 : decode jdk_42_method_5_code 3 = .ok (.arraylength, 1) := by decide +kernel
theorem d21_4 : decode jdk_42_method_5_code 4 = .ok (.invokestatic 34, 3) := by decide +kernel
theorem d21_7 : decode jdk_42_method_5_code 7 = .ok (.pop, 1) := by decide +kernel
theorem d21_8 : decode jdk_42_method_5_code 8 = .ok (.aconst_null, 1) := by decide +kernel
theorem d21_9 : decode jdk_42_method_5_code 9 = .ok (.areturn, 1) := by decide +kernel
theorem ef_21 (m : MethodId) (cb : Addr) (p1 : Int32) (p2 : Int32) : entryFrame m #[(.ref cb), (.int p1), (.int p2)] 3 = mkF m 0 #[.val (.ref cb), .val (.int p1), .val (.int p2)] [] := by first | (simp [entryFrame, mkF, argsToLocals, Value.category]; done) | rfl
def Q21 (Z : State) (cb : Addr) (p1 : Int32) (p2 : Int32) (sf : Value) (ck : ClassId) (x0 : Int32) (x1 : Int32) (h0 : Heap) (n0 : Nat) (v : Option Value) (h : Heap) (L : List Loc) : Prop := v = some .null ∧ Fr n0 L ∧ h = h0
set_option maxRecDepth 65536 in
set_option maxHeartbeats 40000000 in
theorem rm21 (l : Launch) (Z : State) (a0 : Array Value) (hw : ∀ d ∈ tables_1, d.before a0 Z = true) (ws : List Jvm.Cond) (cb : Addr) (p1 : Int32) (p2 : Int32) (sf : Value) (ck : ClassId) (x0 : Int32) (x1 : Int32) (h0 : Heap) (n0 : Nat) (Z0 : n0 ≤ h0.size) (H0 : Sta Z h0 "jdk/internal/util/Preconditions" "SIOOBE_FORMATTER" "Ljava/util/function/BiFunction;" sf) (H1 : sf.category = 1) (H2 : own_01 p1) (H3 : own_01 p2) (H4 : Arv Z h0 cb ck .char (16 : Int32) (own_zl (.int x0) (.int x1)) (.int (0 : Int32))) :
    own_MF l (⟨"java/lang/String", "rangeCheck", "([CII)Ljava/lang/Void;"⟩ : MethodName) (Jvm.Cond.code (⟨"java/lang/String", "rangeCheck", "([CII)Ljava/lang/Void;"⟩ : MethodName) jdk_42_method_5_code 3 (some (.object "java/lang/Void")) :: ws) ({ frames := 2, cells := 0, slots := 0, locals := 29 } : Room) #[(.ref cb), (.int p1), (.int p2)] Z h0 (Q21 Z cb p1 p2 sf ck x0 x1 h0 n0) := by
  refine MetFree.of_bodySF (plainFor_of_name pn_java_lang_String) hisR ?_
  intro p e s m args below meth c s₁ Bd hml0 hP hK
  obtain ⟨rfl, hZ, hh⟩ := hP
  have hx := Bd.exec
  have hby := Bd.bytes
  have hml : c.maxLocals = 3 := hml0
  have hown : s.vm.findClass "java/lang/String" = some m.cls := findClass_of_methodNamed Bd.named
  have hnm := (name_of_methodNamed Bd.named Bd.method).1
  have X0 : Stand p l e ({ frames := 2, cells := 0, slots := 0, locals := 29 } : Room) s m #[(.ref cb), (.int p1), (.int p2)] below meth c s₁ [] 0 0 := Stand.of_body Bd
  have e0 : s₁.heap = h0 := by rw [← hh, Bd.state]; rfl
  have N0 := Fr.nil n0
  have pre0 : ∀ t, Steps p.tables e below (s₁.setTop (mkF m 0 #[.val (.ref cb), .val (.int p1), .val (.int p2)] [])) t → Steps p.tables e below (s₁.setTop (entryFrame m #[(.ref cb), (.int p1), (.int p2)] 3)) t := fun t k => castTop (ef_21 m cb p1 p2) k
  obtain ⟨cl101, Ar101, -, S101, M101, -, -⟩ := id H4
  obtain ⟨_, _, ⟨T102, L102, k102, n102⟩, -, X102, ⟨Lc102, hQ102, l102, y102, z102⟩, st102⟩ := Jvm.LawKit.callS X0 hx (y := (⟨"java/lang/String", "checkBoundsOffCount", "(III)I"⟩ : MethodName)) hown (mvT hZ (own_w hw 149 rfl)) (mvT hZ (own_w hw 150 rfl)) (mvT hZ (own_w hw 2 rfl)) (mvT hZ (own_w hw 151 rfl)) (by decide) (backOf (W := 0) (rm22 l Z a0 hw [] p1 p2 sf h0 n0 Z0 H0 H1 H2 H3) hZ (own_w hw 151 rfl) (own_w hw 2 rfl) (by decide) (by decide)) (g := (mkF m 4 #[.val (.ref cb), .val (.int p1), .val (.int p2)] [(.int (16 : Int32)), (.int p2), (.int p1)])) rfl (by rw [hml]; rfl) (argsL := [(.int p1), (.int p2), (.int (16 : Int32))]) (rest := []) (lenOf pd_10 rfl) rfl (by show 2 * 0 + _ ≤ _; exact Nat.le_of_eq rfl) (hb hby d21_4) (fun _ _ => ⟨rfl, e0, (by decide : 0 + 0 ≤ _), (by decide : 0 + 0 ≤ _)⟩)
  dsimp only [Pt.U, Pt.locs, Pt.cells, Pt.slots] at X102 l102 y102 z102 st102 hQ102
  subst l102 y102 z102
  obtain ⟨rfl, Nq102, Heq102⟩ := hQ102
  have N102 := Fr.app N0 Nq102
  obtain ⟨fs, hr, hrun, hended, hW, hsame⟩ := X102.leave (v := some .null) (fun h => by rw [Bd.returns] at h; cases h)
  refine ⟨_, _, pre0 _ ?_, hrun, hended, _, _, rfl, ?_, ⟨_, rfl⟩, hW, hsame.mono (by decide) (by decide)⟩
  · skip
    show Steps p.tables e below (s₁.setTop (mkF m 0 #[.val (.ref cb), .val (.int p1), .val (.int p2)] [])) _
    refine XS.iloadN X0.here hx rfl (hb hby d21_0) rfl ?_
    refine XS.iloadN X0.here hx rfl (hb hby d21_1) rfl ?_
    refine XS.aloadN X0.here hx rfl (hb hby d21_2) rfl rfl ?_
    show Steps p.tables e below (s₁.setTop (mkF m 3 #[.val (.ref cb), .val (.int p1), .val (.int p2)] [(.ref cb), (.int p2), (.int p1)])) _
    refine X0.arraylength hx (by rw [e0]; exact Ar101.1) (State.isArrayOf_alike hZ.alike Ar101.2.1) (g := (mkF m 3 #[.val (.ref cb), .val (.int p1), .val (.int p2)] [(.ref cb), (.int p2), (.int p1)])) rfl rfl (hb hby d21_3) _ ?_
    rw [len_of S101 M101]
    show Steps p.tables e below (s₁.setTop (mkF m 4 #[.val (.ref cb), .val (.int p1), .val (.int p2)] [(.int (16 : Int32)), (.int p2), (.int p1)])) _
    refine st102 _ ?_
    refine XS.pop X102.here hx rfl (hb hby d21_7) rfl rfl ?_
    refine XS.aconstNull X102.here hx rfl (hb hby d21_8) ?_
    show Steps p.tables e below (T102.setTop (mkF m 9 #[.val (.ref cb), .val (.int p1), .val (.int p2)] [.null])) _
    jvm_step X102.here [X102.here.top, hx, (hb hby d21_9), X102.method', Bd.returns, Value.isRef, FieldType.isReference]
    first | (intro acts; rw [hr _ acts rfl rfl rfl]) | rw [hr _ _ rfl rfl rfl]
    exact Steps.refl _
  · show Q21 Z cb p1 p2 sf ck x0 x1 h0 n0 _ T102.heap _
    rw [Heq102]
    exact ⟨rfl, N102, rfl⟩
theorem d24_0 : decode jdk_42_method_149_code 0 = .ok (.aload_n 0, 1) := by decide +kernel
theorem d24_1 : decode jdk_42_method_149_code 1 = .ok (.invokespecial 1, 3) := by decide +kernel
theorem d24_4 : decode jdk_42_method_149_code 4 = .ok (.iload_n 3, 1) := by decide +kernel
theorem d24_5 : decode jdk_42_method_149_code 5 = .ok (.ifCond .ne 22, 3) := by decide +kernel
theorem d24_8 : decode jdk_42_method_149_code 8 = .ok (.aload_n 0, 1) := by decide +kernel
theorem d24_9 : decode jdk_42_method_149_code 9 = .ok (.ldc 7, 2) := by decide +kernel
theorem d24_11 : decode jdk_42_method_149_code 11 = .ok (.getfield 9, 3) := by decide +kernel
theorem d24_14 : decode jdk_42_method_149_code 14 = .ok (.putfield 9, 3) := by decide +kernel
theorem d24_17 : decode jdk_42_method_149_code 17 = .ok (.aload_n 0, 1) := by decide +kernel
theorem d24_18 : decode jdk_42_method_149_code 18 = .ok (.ldc 7, 2) := by decide +kernel
theorem d24_20 : decode jdk_42_method_149_code 20 = .ok (.getfield 15, 3) := by decide +kernel
theorem d24_23 : decode jdk_42_method_149_code 23 = .ok (.putfield 15, 3) := by decide +kernel
theorem d24_26 : decode jdk_42_method_149_code 26 = .ok (.return_, 1) := by decide +kernel
theorem ef_24v00 (m : MethodId) (a1 : Addr) (cb : Addr) : entryFrame m #[(.ref a1), (.ref cb), (.int (0 : Int32)), (.int (0 : Int32)), .null] 6 = mkF m 0 #[.val (.ref a1), .val (.ref cb), .val (.int (0 : Int32)), .val (.int (0 : Int32)), .val .null, .unset] [] := by first | (simp [entryFrame, mkF, argsToLocals, Value.category]; done) | rfl
def Q24v00 (Z : State) (a1 : Addr) (cb : Addr) (cz : Int32) (ck : ClassId) (x0 : Int32) (x1 : Int32) (h0 : Heap) (n0 : Nat) (v : Option Value) (h : Heap) (L : List Loc) : Prop := ∃ (b : Addr) (k : ClassId), v = none ∧ Fr n0 L ∧ Keep h0 h [a1] ∧ Fld Z h a1 "java/lang/String" "coder" "B" (.int (own_cd (0 : Int32) (own_at (0 : Int32) x0 x1))) ∧ Fld Z h a1 "java/lang/String" "value" "[B" (.ref b) ∧ Arv Z h b k .byte (own_bn (0 : Int32) (own_at (0 : Int32) x0 x1)) (own_bs (0 : Int32) (own_at (0 : Int32) x0 x1)) (.int (0 : Int32))
set_option maxRecDepth 65536 in
set_option maxHeartbeats 40000000 in
theorem rm24v00 (l : Launch) (Z : State) (a0 : Array Value) (hw : ∀ d ∈ tables_1, d.before a0 Z = true) (ws : List Jvm.Cond) (hEL : EW Z a0 own_EL) (a1 : Addr) (cb : Addr) (cz : Int32) (ck : ClassId) (x0 : Int32) (x1 : Int32) (h0 : Heap) (n0 : Nat) (Z0 : n0 ≤ h0.size) (H0 : Sta Z h0 "java/lang/String" "COMPACT_STRINGS" "Z" (.int cz)) (H1 : ¬ (cz = (0 : Int32))) (H2 : Sta Z h0 "java/lang/StringUTF16" "$assertionsDisabled" "Z" (.int (1 : Int32))) (H3 : Sta Z h0 "java/lang/StringUTF16" "HI_BYTE_SHIFT" "I" (.int (0 : Int32))) (H4 : Sta Z h0 "java/lang/StringUTF16" "LO_BYTE_SHIFT" "I" (.int (8 : Int32))) (H5 : Arv Z h0 cb ck .char (16 : Int32) (own_zl (.int x0) (.int x1)) (.int (0 : Int32))) (H6 : Exa Z h0 a1 "java/lang/String") (H7 : Fld Z h0 a1 "java/lang/String" "value" "[B" .null) (H8 : Fld Z h0 a1 "java/lang/String" "coder" "B" (.int (0 : Int32))) (H9 : n0 ≤ a1) (H10 : own_chr x0) (H11 : own_chr x1) :
    MetFree l (⟨"java/lang/String", "<init>", "([CIILjava/lang/Void;)V"⟩ : MethodName) (head1 (Jvm.Cond.code (⟨"java/lang/String", "<init>", "([CIILjava/lang/Void;)V"⟩ : MethodName) jdk_42_method_149_code 6 none :: ws) ({ frames := 4, cells := 4, slots := 8, locals := 59 } : Room)) (fun a U => a = #[(.ref a1), (.ref cb), (.int (0 : Int32)), (.int (0 : Int32)), .null] ∧ Z.Warmed39 U.vm ∧ U.heap = h0 ∧ CHv Z own_EL U.vm h0) (fun _ _ _ _ _ => True) (fun _ U o U' => ∃ v L, o = .returned v ∧ Q24v00 Z a1 cb cz ck x0 x1 h0 n0 v U'.heap L ∧ CHr Z own_EL U.vm U.heap U'.vm U'.heap ∧ ReturnedEndW U o U' L ({ frames := 4, cells := 4, slots := 8, locals := 59 } : Room).cells ({ frames := 4, cells := 4, slots := 8, locals := 59 } : Room).slots) := by
  refine MetFree.of_bodySF (plainFor_of_name pn_java_lang_String) hisR ?_
  intro p e s m args below meth c s₁ Bd hml0 hP hK
  obtain ⟨rfl, hZ, hh, hH⟩ := hP
  have hx := Bd.exec
  have hby := Bd.bytes
  have hml : c.maxLocals = 6 := hml0
  have hown : s.vm.findClass "java/lang/String" = some m.cls := findClass_of_methodNamed Bd.named
  have hnm := (name_of_methodNamed Bd.named Bd.method).1
  have X0 : Stand p l e ({ frames := 4, cells := 4, slots := 8, locals := 59 } : Room) s m #[(.ref a1), (.ref cb), (.int (0 : Int32)), (.int (0 : Int32)), .null] below meth c s₁ [] 0 0 := Stand.of_body Bd
  have e0 : s₁.heap = h0 := by rw [← hh, Bd.state]; rfl
  have N0 := Fr.nil n0
  have X0 : Stand p l e ({ frames := 4, cells := 4, slots := 8, locals := 59 } : Room) (s.setVm s.vm) m #[(.ref a1), (.ref cb), (.int (0 : Int32)), (.int (0 : Int32)), .null] below meth c s₁ [] 0 0 := X0
  have hZ : Z.Warmed39 (s.setVm s.vm).vm := hZ
  have hown : (s.setVm s.vm).vm.findClass "java/lang/String" = some m.cls := hown
  have hS0 : s.Since s.vm 0 := State.WarmedH.since (State.WarmedH.refl s) 0
  have Cr0 : CHr Z own_EL s.vm h0 s.vm h0 := CHr.refl hH
  have pre0 : ∀ t, Steps p.tables e below (s₁.setTop (mkF m 0 #[.val (.ref a1), .val (.ref cb), .val (.int (0 : Int32)), .val (.int (0 : Int32)), .val .null, .unset] [])) t → Steps p.tables e below (s₁.setTop (entryFrame m #[(.ref a1), (.ref cb), (.int (0 : Int32)), (.int (0 : Int32)), .null] 6)) t := fun t k => castTop (ef_24v00 m a1 cb) k
  have Sa1 : Safe Z own_EL s.vm h0 a1 := own_safe_null hZ.alike H6 H7
  obtain ⟨T101, X101, e101, st101⟩ := initO X0 hx hZ hown (own_w hw 160 rfl) (own_w hw 16 rfl) (own_w hw 17 rfl) e0 (g := (mkF m 1 #[.val (.ref a1), .val (.ref cb), .val (.int (0 : Int32)), .val (.int (0 : Int32)), .val .null, .unset] [(.ref a1)])) rfl (by rw [hml]; rfl) rfl (hb hby d24_1) (by decide) (W := 0) (by show 2 * 0 + _ ≤ _; exact Nat.le_of_eq rfl) (by decide)
  obtain ⟨a102, T102, h102, kk102, b102, k102, X102, e102, E102, hS102, hk102, hZ, hown, A102, Fc102, Fv102, V102, -, -, Cq102, -, sp102, st102⟩ := ldcCH X101 hx hZ hown (own_w hw 161 rfl) (own_wS hw) e101 hS0 (Nat.zero_le _) hEL (List.mem_of_getElem? (i := 1) rfl) hH (vs := []) (z := (0 : Int32)) ⟨by decide +kernel, by first | rfl | decide +kernel⟩ (by decide) rfl (g := (mkF m 9 #[.val (.ref a1), .val (.ref cb), .val (.int (0 : Int32)), .val (.int (0 : Int32)), .val .null, .unset] [(.ref a1)])) rfl (hb hby d24_9) (n := 0) (by decide +kernel) (by decide) (by decide) (by decide)
  have Cr102 := Cr0.trans Cq102
  have Hc102 := Cq102.1
  have Sf102_0 := Cq102.safe H6.lt Sa1
  obtain ⟨T103, X103, e103, st103⟩ := getF X102 hx hZ hown (host := "") (Or.inl (own_w hw 162 rfl)) Via.refl e102 Fv102 (g := (mkF m 11 #[.val (.ref a1), .val (.ref cb), .val (.int (0 : Int32)), .val (.int (0 : Int32)), .val .null, .unset] [(.ref a102), (.ref a1)])) rfl rfl (hb hby d24_11)
  have f104 := (H7.ext E102)
  have f105 := (H6.ext E102)
  obtain ⟨T106, h106, X106, e106, W106, st106⟩ := putF X103 hx hZ hown (host := "") (Or.inl (own_w hw 162 rfl)) Via.refl e103 f104 f105 (Or.inr ⟨(own_w hw 5 rfl), rfl, hnm⟩) (own_w hw 3 rfl) (ty := (.array .byte)) (by decide) rfl rfl (g := (mkF m 14 #[.val (.ref a1), .val (.ref cb), .val (.int (0 : Int32)), .val (.int (0 : Int32)), .val .null, .unset] [(.ref b102), (.ref a1)])) rfl rfl (hb hby d24_14)
  have Fw106 := f104.same W106
  have Hc107 := CHv.wr W106 Sf102_0 Hc102
  have Cr107 := Cr102.trans (CHr.wr W106 Sf102_0 Hc102)
  have Sf107_0 := Safe.wr W106 Sf102_0 Hc102 Sf102_0
  have N106 := Fr.snoc X106 N0 H9
  have f109 := (f105.wr W106)
  obtain ⟨a108, T108, h108, kk108, b108, k108, X108, e108, E108, hS108, hk108, hZ, hown, A108, Fc108, Fv108, V108, -, -, Cq108, -, sp108, st108⟩ := ldcCH X106 hx hZ hown (own_w hw 161 rfl) (own_wS hw) e106 hS102 (Nat.le_trans hk102 (Nat.le_of_eq W106.size.symm)) hEL (List.mem_of_getElem? (i := 1) rfl) Hc107 (vs := []) (z := (0 : Int32)) ⟨by decide +kernel, by first | rfl | decide +kernel⟩ (by decide) rfl (g := (mkF m 18 #[.val (.ref a1), .val (.ref cb), .val (.int (0 : Int32)), .val (.int (0 : Int32)), .val .null, .unset] [(.ref a1)])) rfl (hb hby d24_18) (n := 0) (by decide +kernel) (by decide) (by decide) (by decide)
  have Cr108 := Cr107.trans Cq108
  have Hc108 := Cq108.1
  have Sf108_0 := Cq108.safe f109.lt Sf107_0
  obtain ⟨T110, X110, e110, st110⟩ := getF X108 hx hZ hown (host := "") (Or.inl (own_w hw 163 rfl)) Via.refl e108 Fc108 (g := (mkF m 20 #[.val (.ref a1), .val (.ref cb), .val (.int (0 : Int32)), .val (.int (0 : Int32)), .val .null, .unset] [(.ref a108), (.ref a1)])) rfl rfl (hb hby d24_20)
  have f111 := (((H8.ext E102).other W106 (Or.inr (slot_ne (Or.inr (own_w hw 6 rfl)) (Or.inr (own_w hw 5 rfl)) (by decide) (t := .byte) (t' := (.array .byte)) (by decide) (by decide)))).ext E108)
  have f112 := (f109.ext E108)
  obtain ⟨T113, h113, X113, e113, W113, st113⟩ := putFN X110 hx hZ hown (own_w hw 163 rfl) Via.refl e110 f111 f112 (Or.inr ⟨(own_w hw 6 rfl), rfl, hnm⟩) (own_w hw 3 rfl) (ty := .byte) (v' := (.int (nar .byte (0 : Int32)))) (by decide) rfl (fits_nar_byte _) (g := (mkF m 23 #[.val (.ref a1), .val (.ref cb), .val (.int (0 : Int32)), .val (.int (0 : Int32)), .val .null, .unset] [(.int (0 : Int32)), (.ref a1)])) rfl rfl (hb hby d24_23)
  rw [show nar .byte (0 : Int32) = (0 : Int32) from by decide] at W113
  have Fw113 := f111.same W113
  have Hc114 := CHv.wr W113 Sf108_0 Hc108
  have Cr114 := Cr108.trans (CHr.wr W113 Sf108_0 Hc108)
  have Sf114_0 := Safe.wr W113 Sf108_0 Hc108 Sf108_0
  have N113 := Fr.snoc X113 N106 H9
  have f115 := (((V102.other W106 (Ne.symm (sp102 _ Sf102_0).2)).ext E108).other W113 (Ne.symm (sp102 _ Sf102_0).2))
  have f116 := ((Fw106.ext E108).other W113 (Or.inr (slot_ne (Or.inr (own_w hw 5 rfl)) (Or.inr (own_w hw 6 rfl)) (by decide) (t := (.array .byte)) (t' := .byte) (by decide) (by decide))))
  obtain ⟨fs, hr, hrun, hended, hEnd⟩ := X113.leaveW hS108 (by rw [e113]; exact (Nat.le_trans hk108 (Nat.le_of_eq W113.size.symm))) (v := none) (fun _ => rfl)
  refine ⟨_, _, pre0 _ ?_, hrun, hended, _, _, rfl, ?_, (show CHr Z own_EL s.vm s.heap T113.vm T113.heap from by rw [hh, e113]; exact Cr114.trans (CHv.at X113 hZ hEL Hc114)), hEnd.1, hEnd.2.1, hEnd.2.2.1, hEnd.2.2.2.mono (by decide) (by decide)⟩
  · skip
    show Steps p.tables e below (s₁.setTop (mkF m 0 #[.val (.ref a1), .val (.ref cb), .val (.int (0 : Int32)), .val (.int (0 : Int32)), .val .null, .unset] [])) _
    refine XS.aloadN X0.here hx rfl (hb hby d24_0) rfl rfl ?_
    refine st101 _ ?_
    refine XS.iloadN X101.here hx rfl (hb hby d24_4) rfl ?_
    refine XS.ifNo X101.here hx rfl (hb hby d24_5) rfl ((if0 _ _).trans (teq (by decide : (0 : Int32) = (0 : Int32))).2) ?_
    refine XS.aloadN X101.here hx rfl (hb hby d24_8) rfl rfl ?_
    refine st102 _ ?_
    refine st103 _ ?_
    refine st106 _ ?_
    refine XS.aloadN X106.here hx rfl (hb hby d24_17) rfl rfl ?_
    refine st108 _ ?_
    refine st110 _ ?_
    refine st113 _ ?_
    show Steps p.tables e below (T113.setTop (mkF m 26 #[.val (.ref a1), .val (.ref cb), .val (.int (0 : Int32)), .val (.int (0 : Int32)), .val .null, .unset] [])) _
    exact X113.returnOut hx Bd.returns (hb hby d24_26) hr
  · show Q24v00 Z a1 cb cz ck x0 x1 h0 n0 _ T113.heap _
    rw [e113]
    exact ⟨b102, k102, rfl, N113, (((((Keep.refl h0 [a1]).ext E102).wr W106 (Or.inl (List.mem_of_getElem? (i := 0) rfl))).ext E108).wr W113 (Or.inl (List.mem_of_getElem? (i := 0) rfl))), (by rw [own_cd0]; exact Fw113), f116, (by rw [own_bn0, own_bs0]; exact f115)⟩
theorem d24_27 : decode jdk_42_method_149_code 27 = .ok (.getstatic 38, 3) := by decide +kernel
theorem d24_30 : decode jdk_42_method_149_code 30 = .ok (.ifCond .eq 28, 3) := by decide +kernel
theorem d24_33 : decode jdk_42_method_149_code 33 = .ok (.aload_n 1, 1) := by decide +kernel
theorem d24_34 : decode jdk_42_method_149_code 34 = .ok (.iload_n 2, 1) := by decide +kernel
theorem d24_35 : decode jdk_42_method_149_code 35 = .ok (.iload_n 3, 1) := by decide +kernel
theorem d24_36 : decode jdk_42_method_149_code 36 = .ok (.invokestatic 177, 3) := by decide +kernel
theorem d24_39 : decode jdk_42_method_149_code 39 = .ok (.astore 5, 2) := by decide +kernel
theorem d24_41 : decode jdk_42_method_149_code 41 = .ok (.aload_n 0, 1) := by decide +kernel
theorem d24_42 : decode jdk_42_method_149_code 42 = .ok (.aload 5, 2) := by decide +kernel
theorem d24_44 : decode jdk_42_method_149_code 44 = .ok (.iload_n 3, 1) := by decide +kernel
theorem d24_45 : decode jdk_42_method_149_code 45 = .ok (.invokestatic 47, 3) := by decide +kernel
theorem d24_48 : decode jdk_42_method_149_code 48 = .ok (.putfield 15, 3) := by decide +kernel
theorem d24_51 : decode jdk_42_method_149_code 51 = .ok (.aload_n 0, 1) := by decide +kernel
theorem d24_52 : decode jdk_42_method_149_code 52 = .ok (.aload 5, 2) := by decide +kernel
theorem d24_54 : decode jdk_42_method_149_code 54 = .ok (.putfield 9, 3) := by decide +kernel
theorem d24_57 : decode jdk_42_method_149_code 57 = .ok (.return_, 1) := by decide +kernel
theorem ef_24v01 (m : MethodId) (a1 : Addr) (cb : Addr) : entryFrame m #[(.ref a1), (.ref cb), (.int (0 : Int32)), (.int (1 : Int32)), .null] 6 = mkF m 0 #[.val (.ref a1), .val (.ref cb), .val (.int (0 : Int32)), .val (.int (1 : Int32)), .val .null, .unset] [] := by first | (simp [entryFrame, mkF, argsToLocals, Value.category]; done) | rfl
def Q24v01 (Z : State) (a1 : Addr) (cb : Addr) (cz : Int32) (ck : ClassId) (x0 : Int32) (x1 : Int32) (h0 : Heap) (n0 : Nat) (v : Option Value) (h : Heap) (L : List Loc) : Prop := ∃ (b : Addr) (k : ClassId), v = none ∧ Fr n0 L ∧ Keep h0 h [a1] ∧ Fld Z h a1 "java/lang/String" "coder" "B" (.int (own_cd (1 : Int32) (own_at (0 : Int32) x0 x1))) ∧ Fld Z h a1 "java/lang/String" "value" "[B" (.ref b) ∧ Arv Z h b k .byte (own_bn (1 : Int32) (own_at (0 : Int32) x0 x1)) (own_bs (1 : Int32) (own_at (0 : Int32) x0 x1)) (.int (0 : Int32))
set_option maxRecDepth 65536 in
set_option maxHeartbeats 40000000 in
theorem rm24v01 (l : Launch) (Z : State) (a0 : Array Value) (hw : ∀ d ∈ tables_1, d.before a0 Z = true) (ws : List Jvm.Cond) (hEL : EW Z a0 own_EL) (a1 : Addr) (cb : Addr) (cz : Int32) (ck : ClassId) (x0 : Int32) (x1 : Int32) (h0 : Heap) (n0 : Nat) (Z0 : n0 ≤ h0.size) (H0 : Sta Z h0 "java/lang/String" "COMPACT_STRINGS" "Z" (.int cz)) (H1 : ¬ (cz = (0 : Int32))) (H2 : Sta Z h0 "java/lang/StringUTF16" "$assertionsDisabled" "Z" (.int (1 : Int32))) (H3 : Sta Z h0 "java/lang/StringUTF16" "HI_BYTE_SHIFT" "I" (.int (0 : Int32))) (H4 : Sta Z h0 "java/lang/StringUTF16" "LO_BYTE_SHIFT" "I" (.int (8 : Int32))) (H5 : Arv Z h0 cb ck .char (16 : Int32) (own_zl (.int x0) (.int x1)) (.int (0 : Int32))) (H6 : Exa Z h0 a1 "java/lang/String") (H7 : Fld Z h0 a1 "java/lang/String" "value" "[B" .null) (H8 : Fld Z h0 a1 "java/lang/String" "coder" "B" (.int (0 : Int32))) (H9 : n0 ≤ a1) (H10 : own_chr x0) (H11 : own_chr x1) :
    MetFree l (⟨"java/lang/String", "<init>", "([CIILjava/lang/Void;)V"⟩ : MethodName) (head1 (Jvm.Cond.code (⟨"java/lang/String", "<init>", "([CIILjava/lang/Void;)V"⟩ : MethodName) jdk_42_method_149_code 6 none :: ws) ({ frames := 4, cells := 4, slots := 8, locals := 59 } : Room)) (fun a U => a = #[(.ref a1), (.ref cb), (.int (0 : Int32)), (.int (1 : Int32)), .null] ∧ Z.Warmed39 U.vm ∧ U.heap = h0 ∧ CHv Z own_EL U.vm h0) (fun _ _ _ _ _ => True) (fun _ U o U' => ∃ v L, o = .returned v ∧ Q24v01 Z a1 cb cz ck x0 x1 h0 n0 v U'.heap L ∧ CHr Z own_EL U.vm U.heap U'.vm U'.heap ∧ ReturnedEndW U o U' L ({ frames := 4, cells := 4, slots := 8, locals := 59 } : Room).cells ({ frames := 4, cells := 4, slots := 8, locals := 59 } : Room).slots) := by
  refine MetFree.of_bodySF (plainFor_of_name pn_java_lang_String) hisR ?_
  intro p e s m args below meth c s₁ Bd hml0 hP hK
  obtain ⟨rfl, hZ, hh, hH⟩ := hP
  have hx := Bd.exec
  have hby := Bd.bytes
  have hml : c.maxLocals = 6 := hml0
  have hown : s.vm.findClass "java/lang/String" = some m.cls := findClass_of_methodNamed Bd.named
  have hnm := (name_of_methodNamed Bd.named Bd.method).1
  have X0 : Stand p l e ({ frames := 4, cells := 4, slots := 8, locals := 59 } : Room) s m #[(.ref a1), (.ref cb), (.int (0 : Int32)), (.int (1 : Int32)), .null] below meth c s₁ [] 0 0 := Stand.of_body Bd
  have e0 : s₁.heap = h0 := by rw [← hh, Bd.state]; rfl
  have N0 := Fr.nil n0
  have X0 : Stand p l e ({ frames := 4, cells := 4, slots := 8, locals := 59 } : Room) (s.setVm s.vm) m #[(.ref a1), (.ref cb), (.int (0 : Int32)), (.int (1 : Int32)), .null] below meth c s₁ [] 0 0 := X0
  have hZ : Z.Warmed39 (s.setVm s.vm).vm := hZ
  have hown : (s.setVm s.vm).vm.findClass "java/lang/String" = some m.cls := hown
  have hS0 : s.Since s.vm 0 := State.WarmedH.since (State.WarmedH.refl s) 0
  have Cr0 : CHr Z own_EL s.vm h0 s.vm h0 := CHr.refl hH
  have pre0 : ∀ t, Steps p.tables e below (s₁.setTop (mkF m 0 #[.val (.ref a1), .val (.ref cb), .val (.int (0 : Int32)), .val (.int (1 : Int32)), .val .null, .unset] [])) t → Steps p.tables e below (s₁.setTop (entryFrame m #[(.ref a1), (.ref cb), (.int (0 : Int32)), (.int (1 : Int32)), .null] 6)) t := fun t k => castTop (ef_24v01 m a1 cb) k
  have Sa1 : Safe Z own_EL s.vm h0 a1 := own_safe_null hZ.alike H6 H7
  obtain ⟨T101, X101, e101, st101⟩ := initO X0 hx hZ hown (own_w hw 160 rfl) (own_w hw 16 rfl) (own_w hw 17 rfl) e0 (g := (mkF m 1 #[.val (.ref a1), .val (.ref cb), .val (.int (0 : Int32)), .val (.int (1 : Int32)), .val .null, .unset] [(.ref a1)])) rfl (by rw [hml]; rfl) rfl (hb hby d24_1) (by decide) (W := 0) (by show 2 * 0 + _ ≤ _; exact Nat.le_of_eq rfl) (by decide)
  obtain ⟨T102, X102, e102, st102⟩ := getS2 X101 hx hZ hown (host := "") (Or.inl (own_w hw 170 rfl)) Via.refl e101 H0 (g := (mkF m 27 #[.val (.ref a1), .val (.ref cb), .val (.int (0 : Int32)), .val (.int (1 : Int32)), .val .null, .unset] [])) rfl (hb hby d24_27)
  obtain ⟨_, _, ⟨T103, L103, k103, n103⟩, -, X103, ⟨Lc103, hQ103, l103, y103, z103⟩, st103⟩ := Jvm.LawKit.callS X102 hx (y := (⟨"java/lang/StringUTF16", "compress", "([CII)[B"⟩ : MethodName)) hown (mvT hZ (own_w hw 199 rfl)) (mvT hZ (own_w hw 200 rfl)) (mvT hZ (own_w hw 201 rfl)) (mvT hZ (own_w hw 202 rfl)) (by decide) (backOf (W := 0) (rm32s0 l Z a0 hw [] cb ck x0 x1 h0 n0 Z0 H2 H3 H4 H5 H10 H11) hZ (own_w hw 202 rfl) (own_w hw 201 rfl) (by decide) (by decide)) (g := (mkF m 36 #[.val (.ref a1), .val (.ref cb), .val (.int (0 : Int32)), .val (.int (1 : Int32)), .val .null, .unset] [(.int (1 : Int32)), (.int (0 : Int32)), (.ref cb)])) rfl (by rw [hml]; rfl) (argsL := [(.ref cb), (.int (0 : Int32)), (.int (1 : Int32))]) (rest := []) (lenOf pd_7 rfl) rfl (by show 2 * 0 + _ ≤ _; exact Nat.le_of_eq rfl) (hb hby d24_36) (fun _ _ => ⟨rfl, e102, (by decide : 0 + 2 ≤ _), (by decide : 0 + 3 ≤ _)⟩)
  dsimp only [Pt.U, Pt.locs, Pt.cells, Pt.slots] at X103 l103 y103 z103 st103 hQ103
  subst l103 y103 z103
  obtain ⟨b103, k103, rfl, Nq103, K103, R103_1, R103_2⟩ := hQ103
  have N103 := Fr.app N0 Nq103
  have hs104 : ∀ x ∈ ([] : List Addr), Safe Z own_EL s.vm h0 x := (all0 (P := fun x => Safe Z own_EL s.vm h0 x))
  have Hc104 := CHv.keep K103 hs104 hH
  have Cr104 := Cr0.trans (CHr.keep K103 hs104 hH)
  have Sf104_0 := Safe.keep K103 hs104 hH Sa1
  have SbR103_2 := Safe.keep K103 hs104 hH (Safe.new R103_2)
  have z106 : n0 ≤ T103.heap.size := (Nat.le_trans Z0 K103.1)
  obtain ⟨_, _, ⟨T105, L105, k105, n105⟩, -, X105, ⟨Lc105, hQ105, l105, y105, z105⟩, st105⟩ := Jvm.LawKit.callS X103 hx (y := (⟨"java/lang/StringUTF16", "coderFromArrayLen", "([BI)B"⟩ : MethodName)) hown (mvT hZ (own_w hw 206 rfl)) (mvT hZ (own_w hw 207 rfl)) (mvT hZ (own_w hw 201 rfl)) (mvT hZ (own_w hw 208 rfl)) (by decide) (backOf (W := 1) (rm34 l Z a0 hw [] b103 k103 (own_bn (1 : Int32) x0) (own_bs (1 : Int32) x0) T103.heap n0 z106 R103_1) hZ (own_w hw 208 rfl) (own_w hw 201 rfl) (by decide) (by decide)) (g := (mkF m 45 #[.val (.ref a1), .val (.ref cb), .val (.int (0 : Int32)), .val (.int (1 : Int32)), .val .null, .val (.ref b103)] [(.int (1 : Int32)), (.ref b103), (.ref a1)])) rfl (by rw [hml]; rfl) (argsL := [(.ref b103), (.int (1 : Int32))]) (rest := [(.ref a1)]) (lenOf pd_11 rfl) rfl (by show 2 * 0 + _ ≤ _; exact Nat.le_of_eq rfl) (hb hby d24_45) (fun _ _ => ⟨rfl, rfl, (by decide : 2 + 0 ≤ _), (by decide : 3 + 0 ≤ _)⟩)
  dsimp only [Pt.U, Pt.locs, Pt.cells, Pt.slots] at X105 l105 y105 z105 st105 hQ105
  subst l105 y105 z105
  obtain ⟨rfl, Nq105, Heq105⟩ := hQ105
  have N105 := Fr.app N103 Nq105
  have f107 := (H8.keep K103 nin0)
  have f108 := (H6.keep K103)
  obtain ⟨T109, h109, X109, e109, W109, st109⟩ := putFN X105 hx hZ hown (own_w hw 163 rfl) Via.refl Heq105 f107 f108 (Or.inr ⟨(own_w hw 6 rfl), rfl, hnm⟩) (own_w hw 3 rfl) (ty := .byte) (v' := (.int (nar .byte (own_cfa (own_bn (1 : Int32) x0))))) (by decide) rfl (fits_nar_byte _) (g := (mkF m 48 #[.val (.ref a1), .val (.ref cb), .val (.int (0 : Int32)), .val (.int (1 : Int32)), .val .null, .val (.ref b103)] [(.int (own_cfa (own_bn (1 : Int32) x0))), (.ref a1)])) rfl rfl (hb hby d24_48)
  have Fw109 := f107.same W109
  have Hc110 := CHv.wr W109 Sf104_0 Hc104
  have Cr110 := Cr104.trans (CHr.wr W109 Sf104_0 Hc104)
  have Sf110_0 := Safe.wr W109 Sf104_0 Hc104 Sf104_0
  have Sf110_1 := Safe.wr W109 Sf104_0 Hc104 SbR103_2
  have N109 := Fr.snoc X109 N105 H9
  have f111 := ((H7.keep K103 nin0).other W109 (Or.inr (slot_ne (Or.inr (own_w hw 5 rfl)) (Or.inr (own_w hw 6 rfl)) (by decide) (t := (.array .byte)) (t' := .byte) (by decide) (by decide))))
  have f112 := (f108.wr W109)
  obtain ⟨T113, h113, X113, e113, W113, st113⟩ := putF X109 hx hZ hown (host := "") (Or.inl (own_w hw 162 rfl)) Via.refl e109 f111 f112 (Or.inr ⟨(own_w hw 5 rfl), rfl, hnm⟩) (own_w hw 3 rfl) (ty := (.array .byte)) (by decide) rfl rfl (g := (mkF m 54 #[.val (.ref a1), .val (.ref cb), .val (.int (0 : Int32)), .val (.int (1 : Int32)), .val .null, .val (.ref b103)] [(.ref b103), (.ref a1)])) rfl rfl (hb hby d24_54)
  have Fw113 := f111.same W113
  have Hc114 := CHv.wr W113 Sf110_0 Hc110
  have Cr114 := Cr110.trans (CHr.wr W113 Sf110_0 Hc110)
  have Sf114_0 := Safe.wr W113 Sf110_0 Hc110 Sf110_0
  have Sf114_1 := Safe.wr W113 Sf110_0 Hc110 Sf110_1
  have N113 := Fr.snoc X113 N109 H9
  have f115 := (Fw109.other W113 (Or.inr (slot_ne (Or.inr (own_w hw 6 rfl)) (Or.inr (own_w hw 5 rfl)) (by decide) (t := .byte) (t' := (.array .byte)) (by decide) (by decide))))
  have ne116 : a1 ≠ b103 := (Nat.ne_of_lt (Nat.lt_of_lt_of_le H6.lt R103_2))
  have f117 := ((R103_1.other W109 (Ne.symm ne116)).other W113 (Ne.symm ne116))
  obtain ⟨fs, hr, hrun, hended, hEnd⟩ := X113.leaveW hS0 (by rw [e113]; exact (Nat.le_trans (Nat.le_trans (Nat.le_trans (Nat.zero_le _) K103.1) (Nat.le_of_eq W109.size.symm)) (Nat.le_of_eq W113.size.symm))) (v := none) (fun _ => rfl)
  refine ⟨_, _, pre0 _ ?_, hrun, hended, _, _, rfl, ?_, (show CHr Z own_EL s.vm s.heap T113.vm T113.heap from by rw [hh, e113]; exact Cr114.trans (CHv.at X113 hZ hEL Hc114)), hEnd.1, hEnd.2.1, hEnd.2.2.1, hEnd.2.2.2.mono (by decide) (by decide)⟩
  · skip
    show Steps p.tables e below (s₁.setTop (mkF m 0 #[.val (.ref a1), .val (.ref cb), .val (.int (0 : Int32)), .val (.int (1 : Int32)), .val .null, .unset] [])) _
    refine XS.aloadN X0.here hx rfl (hb hby d24_0) rfl rfl ?_
    refine st101 _ ?_
    refine XS.iloadN X101.here hx rfl (hb hby d24_4) rfl ?_
    refine XS.ifYes X101.here hx rfl (pc0 := 5) (pc' := 27) rfl (hb hby d24_5) rfl ((if0 _ _).trans (feq (by decide : ¬ ((1 : Int32) = (0 : Int32)))).2) (by decide) (by decide) ?_
    refine st102 _ ?_
    refine XS.ifNo X102.here hx rfl (hb hby d24_30) rfl ((if0 _ _).trans (feq (H1 : ¬ (cz = (0 : Int32)))).1) ?_
    refine XS.aloadN X102.here hx rfl (hb hby d24_33) rfl rfl ?_
    refine XS.iloadN X102.here hx rfl (hb hby d24_34) rfl ?_
    refine XS.iloadN X102.here hx rfl (hb hby d24_35) rfl ?_
    refine st103 _ ?_
    refine XS.astore X103.here hx rfl (hb hby d24_39) rfl rfl (l' := #[.val (.ref a1), .val (.ref cb), .val (.int (0 : Int32)), .val (.int (1 : Int32)), .val .null, .val (.ref b103)]) rfl ?_
    refine XS.aloadN X103.here hx rfl (hb hby d24_41) rfl rfl ?_
    refine XS.aload X103.here hx rfl (hb hby d24_42) rfl rfl ?_
    refine XS.iloadN X103.here hx rfl (hb hby d24_44) rfl ?_
    show Steps p.tables e below (T103.setTop (mkF m 45 #[.val (.ref a1), .val (.ref cb), .val (.int (0 : Int32)), .val (.int (1 : Int32)), .val .null, .val (.ref b103)] [(.int (1 : Int32)), (.ref b103), (.ref a1)])) _
    refine st105 _ ?_
    refine st109 _ ?_
    refine XS.aloadN X109.here hx rfl (hb hby d24_51) rfl rfl ?_
    refine XS.aload X109.here hx rfl (hb hby d24_52) rfl rfl ?_
    refine st113 _ ?_
    show Steps p.tables e below (T113.setTop (mkF m 57 #[.val (.ref a1), .val (.ref cb), .val (.int (0 : Int32)), .val (.int (1 : Int32)), .val .null, .val (.ref b103)] [])) _
    exact X113.returnOut hx Bd.returns (hb hby d24_57) hr
  · show Q24v01 Z a1 cb cz ck x0 x1 h0 n0 _ T113.heap _
    rw [e113]
    exact ⟨b103, k103, rfl, N113, ((((Keep.refl h0 [a1]).trans K103 (all0 (P := (fun x => x ∈ [a1] ∨ h0.size ≤ x)))).wr W109 (Or.inl (List.mem_of_getElem? (i := 0) rfl))).wr W113 (Or.inl (List.mem_of_getElem? (i := 0) rfl))), (by rw [own_at0, ← own_cfae]; exact f115), Fw113, (by rw [own_at0]; exact f117)⟩
theorem ef_24v10 (m : MethodId) (a1 : Addr) (cb : Addr) : entryFrame m #[(.ref a1), (.ref cb), (.int (1 : Int32)), (.int (0 : Int32)), .null] 6 = mkF m 0 #[.val (.ref a1), .val (.ref cb), .val (.int (1 : Int32)), .val (.int (0 : Int32)), .val .null, .unset] [] := by first | (simp [entryFrame, mkF, argsToLocals, Value.category]; done) | rfl
def Q24v10 (Z : State) (a1 : Addr) (cb : Addr) (cz : Int32) (ck : ClassId) (x0 : Int32) (x1 : Int32) (h0 : Heap) (n0 : Nat) (v : Option Value) (h : Heap) (L : List Loc) : Prop := ∃ (b : Addr) (k : ClassId), v = none ∧ Fr n0 L ∧ Keep h0 h [a1] ∧ Fld Z h a1 "java/lang/String" "coder" "B" (.int (own_cd (0 : Int32) (own_at (1 : Int32) x0 x1))) ∧ Fld Z h a1 "java/lang/String" "value" "[B" (.ref b) ∧ Arv Z h b k .byte (own_bn (0 : Int32) (own_at (1 : Int32) x0 x1)) (own_bs (0 : Int32) (own_at (1 : Int32) x0 x1)) (.int (0 : Int32))
set_option maxRecDepth 65536 in
set_option maxHeartbeats 40000000 in
theorem rm24v10 (l : Launch) (Z : State) (a0 : Array Value) (hw : ∀ d ∈ tables_1, d.before a0 Z = true) (ws : List Jvm.Cond) (hEL : EW Z a0 own_EL) (a1 : Addr) (cb : Addr) (cz : Int32) (ck : ClassId) (x0 : Int32) (x1 : Int32) (h0 : Heap) (n0 : Nat) (Z0 : n0 ≤ h0.size) (H0 : Sta Z h0 "java/lang/String" "COMPACT_STRINGS" "Z" (.int cz)) (H1 : ¬ (cz = (0 : Int32))) (H2 : Sta Z h0 "java/lang/StringUTF16" "$assertionsDisabled" "Z" (.int (1 : Int32))) (H3 : Sta Z h0 "java/lang/StringUTF16" "HI_BYTE_SHIFT" "I" (.int (0 : Int32))) (H4 : Sta Z h0 "java/lang/StringUTF16" "LO_BYTE_SHIFT" "I" (.int (8 : Int32))) (H5 : Arv Z h0 cb ck .char (16 : Int32) (own_zl (.int x0) (.int x1)) (.int (0 : Int32))) (H6 : Exa Z h0 a1 "java/lang/String") (H7 : Fld Z h0 a1 "java/lang/String" "value" "[B" .null) (H8 : Fld Z h0 a1 "java/lang/String" "coder" "B" (.int (0 : Int32))) (H9 : n0 ≤ a1) (H10 : own_chr x0) (H11 : own_chr x1) :
    MetFree l (⟨"java/lang/String", "<init>", "([CIILjava/lang/Void;)V"⟩ : MethodName) (head1 (Jvm.Cond.code (⟨"java/lang/String", "<init>", "([CIILjava/lang/Void;)V"⟩ : MethodName) jdk_42_method_149_code 6 none :: ws) ({ frames := 4, cells := 4, slots := 8, locals := 59 } : Room)) (fun a U => a = #[(.ref a1), (.ref cb), (.int (1 : Int32)), (.int (0 : Int32)), .null] ∧ Z.Warmed39 U.vm ∧ U.heap = h0 ∧ CHv Z own_EL U.vm h0) (fun _ _ _ _ _ => True) (fun _ U o U' => ∃ v L, o = .returned v ∧ Q24v10 Z a1 cb cz ck x0 x1 h0 n0 v U'.heap L ∧ CHr Z own_EL U.vm U.heap U'.vm U'.heap ∧ ReturnedEndW U o U' L ({ frames := 4, cells := 4, slots := 8, locals := 59 } : Room).cells ({ frames := 4, cells := 4, slots := 8, locals := 59 } : Room).slots) := by
  refine MetFree.of_bodySF (plainFor_of_name pn_java_lang_String) hisR ?_
  intro p e s m args below meth c s₁ Bd hml0 hP hK
  obtain ⟨rfl, hZ, hh, hH⟩ := hP
  have hx := Bd.exec
  have hby := Bd.bytes
  have hml : c.maxLocals = 6 := hml0
  have hown : s.vm.findClass "java/lang/String" = some m.cls := findClass_of_methodNamed Bd.named
  have hnm := (name_of_methodNamed Bd.named Bd.method).1
  have X0 : Stand p l e ({ frames := 4, cells := 4, slots := 8, locals := 59 } : Room) s m #[(.ref a1), (.ref cb), (.int (1 : Int32)), (.int (0 : Int32)), .null] below meth c s₁ [] 0 0 := Stand.of_body Bd
  have e0 : s₁.heap = h0 := by rw [← hh, Bd.state]; rfl
  have N0 := Fr.nil n0
  have X0 : Stand p l e ({ frames := 4, cells := 4, slots := 8, locals := 59 } : Room) (s.setVm s.vm) m #[(.ref a1), (.ref cb), (.int (1 : Int32)), (.int (0 : Int32)), .null] below meth c s₁ [] 0 0 := X0
  have hZ : Z.Warmed39 (s.setVm s.vm).vm := hZ
  have hown : (s.setVm s.vm).vm.findClass "java/lang/String" = some m.cls := hown
  have hS0 : s.Since s.vm 0 := State.WarmedH.since (State.WarmedH.refl s) 0
  have Cr0 : CHr Z own_EL s.vm h0 s.vm h0 := CHr.refl hH
  have pre0 : ∀ t, Steps p.tables e below (s₁.setTop (mkF m 0 #[.val (.ref a1), .val (.ref cb), .val (.int (1 : Int32)), .val (.int (0 : Int32)), .val .null, .unset] [])) t → Steps p.tables e below (s₁.setTop (entryFrame m #[(.ref a1), (.ref cb), (.int (1 : Int32)), (.int (0 : Int32)), .null] 6)) t := fun t k => castTop (ef_24v10 m a1 cb) k
  have Sa1 : Safe Z own_EL s.vm h0 a1 := own_safe_null hZ.alike H6 H7
  obtain ⟨T101, X101, e101, st101⟩ := initO X0 hx hZ hown (own_w hw 160 rfl) (own_w hw 16 rfl) (own_w hw 17 rfl) e0 (g := (mkF m 1 #[.val (.ref a1), .val (.ref cb), .val (.int (1 : Int32)), .val (.int (0 : Int32)), .val .null, .unset] [(.ref a1)])) rfl (by rw [hml]; rfl) rfl (hb hby d24_1) (by decide) (W := 0) (by show 2 * 0 + _ ≤ _; exact Nat.le_of_eq rfl) (by decide)
  obtain ⟨a102, T102, h102, kk102, b102, k102, X102, e102, E102, hS102, hk102, hZ, hown, A102, Fc102, Fv102, V102, -, -, Cq102, -, sp102, st102⟩ := ldcCH X101 hx hZ hown (own_w hw 161 rfl) (own_wS hw) e101 hS0 (Nat.zero_le _) hEL (List.mem_of_getElem? (i := 1) rfl) hH (vs := []) (z := (0 : Int32)) ⟨by decide +kernel, by first | rfl | decide +kernel⟩ (by decide) rfl (g := (mkF m 9 #[.val (.ref a1), .val (.ref cb), .val (.int (1 : Int32)), .val (.int (0 : Int32)), .val .null, .unset] [(.ref a1)])) rfl (hb hby d24_9) (n := 0) (by decide +kernel) (by decide) (by decide) (by decide)
  have Cr102 := Cr0.trans Cq102
  have Hc102 := Cq102.1
  have Sf102_0 := Cq102.safe H6.lt Sa1
  obtain ⟨T103, X103, e103, st103⟩ := getF X102 hx hZ hown (host := "") (Or.inl (own_w hw 162 rfl)) Via.refl e102 Fv102 (g := (mkF m 11 #[.val (.ref a1), .val (.ref cb), .val (.int (1 : Int32)), .val (.int (0 : Int32)), .val .null, .unset] [(.ref a102), (.ref a1)])) rfl rfl (hb hby d24_11)
  have f104 := (H7.ext E102)
  have f105 := (H6.ext E102)
  obtain ⟨T106, h106, X106, e106, W106, st106⟩ := putF X103 hx hZ hown (host := "") (Or.inl (own_w hw 162 rfl)) Via.refl e103 f104 f105 (Or.inr ⟨(own_w hw 5 rfl), rfl, hnm⟩) (own_w hw 3 rfl) (ty := (.array .byte)) (by decide) rfl rfl (g := (mkF m 14 #[.val (.ref a1), .val (.ref cb), .val (.int (1 : Int32)), .val (.int (0 : Int32)), .val .null, .unset] [(.ref b102), (.ref a1)])) rfl rfl (hb hby d24_14)
  have Fw106 := f104.same W106
  have Hc107 := CHv.wr W106 Sf102_0 Hc102
  have Cr107 := Cr102.trans (CHr.wr W106 Sf102_0 Hc102)
  have Sf107_0 := Safe.wr W106 Sf102_0 Hc102 Sf102_0
  have N106 := Fr.snoc X106 N0 H9
  have f109 := (f105.wr W106)
  obtain ⟨a108, T108, h108, kk108, b108, k108, X108, e108, E108, hS108, hk108, hZ, hown, A108, Fc108, Fv108, V108, -, -, Cq108, -, sp108, st108⟩ := ldcCH X106 hx hZ hown (own_w hw 161 rfl) (own_wS hw) e106 hS102 (Nat.le_trans hk102 (Nat.le_of_eq W106.size.symm)) hEL (List.mem_of_getElem? (i := 1) rfl) Hc107 (vs := []) (z := (0 : Int32)) ⟨by decide +kernel, by first | rfl | decide +kernel⟩ (by decide) rfl (g := (mkF m 18 #[.val (.ref a1), .val (.ref cb), .val (.int (1 : Int32)), .val (.int (0 : Int32)), .val .null, .unset] [(.ref a1)])) rfl (hb hby d24_18) (n := 0) (by decide +kernel) (by decide) (by decide) (by decide)
  have Cr108 := Cr107.trans Cq108
  have Hc108 := Cq108.1
  have Sf108_0 := Cq108.safe f109.lt Sf107_0
  obtain ⟨T110, X110, e110, st110⟩ := getF X108 hx hZ hown (host := "") (Or.inl (own_w hw 163 rfl)) Via.refl e108 Fc108 (g := (mkF m 20 #[.val (.ref a1), .val (.ref cb), .val (.int (1 : Int32)), .val (.int (0 : Int32)), .val .null, .unset] [(.ref a108), (.ref a1)])) rfl rfl (hb hby d24_20)
  have f111 := (((H8.ext E102).other W106 (Or.inr (slot_ne (Or.inr (own_w hw 6 rfl)) (Or.inr (own_w hw 5 rfl)) (by decide) (t := .byte) (t' := (.array .byte)) (by decide) (by decide)))).ext E108)
  have f112 := (f109.ext E108)
  obtain ⟨T113, h113, X113, e113, W113, st113⟩ := putFN X110 hx hZ hown (own_w hw 163 rfl) Via.refl e110 f111 f112 (Or.inr ⟨(own_w hw 6 rfl), rfl, hnm⟩) (own_w hw 3 rfl) (ty := .byte) (v' := (.int (nar .byte (0 : Int32)))) (by decide) rfl (fits_nar_byte _) (g := (mkF m 23 #[.val (.ref a1), .val (.ref cb), .val (.int (1 : Int32)), .val (.int (0 : Int32)), .val .null, .unset] [(.int (0 : Int32)), (.ref a1)])) rfl rfl (hb hby d24_23)
  rw [show nar .byte (0 : Int32) = (0 : Int32) from by decide] at W113
  have Fw113 := f111.same W113
  have Hc114 := CHv.wr W113 Sf108_0 Hc108
  have Cr114 := Cr108.trans (CHr.wr W113 Sf108_0 Hc108)
  have Sf114_0 := Safe.wr W113 Sf108_0 Hc108 Sf108_0
  have N113 := Fr.snoc X113 N106 H9
  have f115 := (((V102.other W106 (Ne.symm (sp102 _ Sf102_0).2)).ext E108).other W113 (Ne.symm (sp102 _ Sf102_0).2))
  have f116 := ((Fw106.ext E108).other W113 (Or.inr (slot_ne (Or.inr (own_w hw 5 rfl)) (Or.inr (own_w hw 6 rfl)) (by decide) (t := (.array .byte)) (t' := .byte) (by decide) (by decide))))
  obtain ⟨fs, hr, hrun, hended, hEnd⟩ := X113.leaveW hS108 (by rw [e113]; exact (Nat.le_trans hk108 (Nat.le_of_eq W113.size.symm))) (v := none) (fun _ => rfl)
  refine ⟨_, _, pre0 _ ?_, hrun, hended, _, _, rfl, ?_, (show CHr Z own_EL s.vm s.heap T113.vm T113.heap from by rw [hh, e113]; exact Cr114.trans (CHv.at X113 hZ hEL Hc114)), hEnd.1, hEnd.2.1, hEnd.2.2.1, hEnd.2.2.2.mono (by decide) (by decide)⟩
  · skip
    show Steps p.tables e below (s₁.setTop (mkF m 0 #[.val (.ref a1), .val (.ref cb), .val (.int (1 : Int32)), .val (.int (0 : Int32)), .val .null, .unset] [])) _
    refine XS.aloadN X0.here hx rfl (hb hby d24_0) rfl rfl ?_
    refine st101 _ ?_
    refine XS.iloadN X101.here hx rfl (hb hby d24_4) rfl ?_
    refine XS.ifNo X101.here hx rfl (hb hby d24_5) rfl ((if0 _ _).trans (teq (by decide : (0 : Int32) = (0 : Int32))).2) ?_
    refine XS.aloadN X101.here hx rfl (hb hby d24_8) rfl rfl ?_
    refine st102 _ ?_
    refine st103 _ ?_
    refine st106 _ ?_
    refine XS.aloadN X106.here hx rfl (hb hby d24_17) rfl rfl ?_
    refine st108 _ ?_
    refine st110 _ ?_
    refine st113 _ ?_
    show Steps p.tables e below (T113.setTop (mkF m 26 #[.val (.ref a1), .val (.ref cb), .val (.int (1 : Int32)), .val (.int (0 : Int32)), .val .null, .unset] [])) _
    exact X113.returnOut hx Bd.returns (hb hby d24_26) hr
  · show Q24v10 Z a1 cb cz ck x0 x1 h0 n0 _ T113.heap _
    rw [e113]
    exact ⟨b102, k102, rfl, N113, (((((Keep.refl h0 [a1]).ext E102).wr W106 (Or.inl (List.mem_of_getElem? (i := 0) rfl))).ext E108).wr W113 (Or.inl (List.mem_of_getElem? (i := 0) rfl))), (by rw [own_cd0]; exact Fw113), f116, (by rw [own_bn0, own_bs0]; exact f115)⟩
theorem ef_24v11 (m : MethodId) (a1 : Addr) (cb : Addr) : entryFrame m #[(.ref a1), (.ref cb), (.int (1 : Int32)), (.int (1 : Int32)), .null] 6 = mkF m 0 #[.val (.ref a1), .val (.ref cb), .val (.int (1 : Int32)), .val (.int (1 : Int32)), .val .null, .unset] [] := by first | (simp [entryFrame, mkF, argsToLocals, Value.category]; done) | rfl
def Q24v11 (Z : State) (a1 : Addr) (cb : Addr) (cz : Int32) (ck : ClassId) (x0 : Int32) (x1 : Int32) (h0 : Heap) (n0 : Nat) (v : Option Value) (h : Heap) (L : List Loc) : Prop := ∃ (b : Addr) (k : ClassId), v = none ∧ Fr n0 L ∧ Keep h0 h [a1] ∧ Fld Z h a1 "java/lang/String" "coder" "B" (.int (own_cd (1 : Int32) (own_at (1 : Int32) x0 x1))) ∧ Fld Z h a1 "java/lang/String" "value" "[B" (.ref b) ∧ Arv Z h b k .byte (own_bn (1 : Int32) (own_at (1 : Int32) x0 x1)) (own_bs (1 : Int32) (own_at (1 : Int32) x0 x1)) (.int (0 : Int32))
set_option maxRecDepth 65536 in
set_option maxHeartbeats 40000000 in
theorem rm24v11 (l : Launch) (Z : State) (a0 : Array Value) (hw : ∀ d ∈ tables_1, d.before a0 Z = true) (ws : List Jvm.Cond) (hEL : EW Z a0 own_EL) (a1 : Addr) (cb : Addr) (cz : Int32) (ck : ClassId) (x0 : Int32) (x1 : Int32) (h0 : Heap) (n0 : Nat) (Z0 : n0 ≤ h0.size) (H0 : Sta Z h0 "java/lang/String" "COMPACT_STRINGS" "Z" (.int cz)) (H1 : ¬ (cz = (0 : Int32))) (H2 : Sta Z h0 "java/lang/StringUTF16" "$assertionsDisabled" "Z" (.int (1 : Int32))) (H3 : Sta Z h0 "java/lang/StringUTF16" "HI_BYTE_SHIFT" "I" (.int (0 : Int32))) (H4 : Sta Z h0 "java/lang/StringUTF16" "LO_BYTE_SHIFT" "I" (.int (8 : Int32))) (H5 : Arv Z h0 cb ck .char (16 : Int32) (own_zl (.int x0) (.int x1)) (.int (0 : Int32))) (H6 : Exa Z h0 a1 "java/lang/String") (H7 : Fld Z h0 a1 "java/lang/String" "value" "[B" .null) (H8 : Fld Z h0 a1 "java/lang/String" "coder" "B" (.int (0 : Int32))) (H9 : n0 ≤ a1) (H10 : own_chr x0) (H11 : own_chr x1) :
    MetFree l (⟨"java/lang/String", "<init>", "([CIILjava/lang/Void;)V"⟩ : MethodName) (head1 (Jvm.Cond.code (⟨"java/lang/String", "<init>", "([CIILjava/lang/Void;)V"⟩ : MethodName) jdk_42_method_149_code 6 none :: ws) ({ frames := 4, cells := 4, slots := 8, locals := 59 } : Room)) (fun a U => a = #[(.ref a1), (.ref cb), (.int (1 : Int32)), (.int (1 : Int32)), .null] ∧ Z.Warmed39 U.vm ∧ U.heap = h0 ∧ CHv Z own_EL U.vm h0) (fun _ _ _ _ _ => True) (fun _ U o U' => ∃ v L, o = .returned v ∧ Q24v11 Z a1 cb cz ck x0 x1 h0 n0 v U'.heap L ∧ CHr Z own_EL U.vm U.heap U'.vm U'.heap ∧ ReturnedEndW U o U' L ({ frames := 4, cells := 4, slots := 8, locals := 59 } : Room).cells ({ frames := 4, cells := 4, slots := 8, locals := 59 } : Room).slots) := by
  refine MetFree.of_bodySF (plainFor_of_name pn_java_lang_String) hisR ?_
  intro p e s m args below meth c s₁ Bd hml0 hP hK
  obtain ⟨rfl, hZ, hh, hH⟩ := hP
  have hx := Bd.exec
  have hby := Bd.bytes
  have hml : c.maxLocals = 6 := hml0
  have hown : s.vm.findClass "java/lang/String" = some m.cls := findClass_of_methodNamed Bd.named
  have hnm := (name_of_methodNamed Bd.named Bd.method).1
  have X0 : Stand p l e ({ frames := 4, cells := 4, slots := 8, locals := 59 } : Room) s m #[(.ref a1), (.ref cb), (.int (1 : Int32)), (.int (1 : Int32)), .null] below meth c s₁ [] 0 0 := Stand.of_body Bd
  have e0 : s₁.heap = h0 := by rw [← hh, Bd.state]; rfl
  have N0 := Fr.nil n0
  have X0 : Stand p l e ({ frames := 4, cells := 4, slots := 8, locals := 59 } : Room) (s.setVm s.vm) m #[(.ref a1), (.ref cb), (.int (1 : Int32)), (.int (1 : Int32)), .null] below meth c s₁ [] 0 0 := X0
  have hZ : Z.Warmed39 (s.setVm s.vm).vm := hZ
  have hown : (s.setVm s.vm).vm.findClass "java/lang/String" = some m.cls := hown
  have hS0 : s.Since s.vm 0 := State.WarmedH.since (State.WarmedH.refl s) 0
  have Cr0 : CHr Z own_EL s.vm h0 s.vm h0 := CHr.refl hH
  have pre0 : ∀ t, Steps p.tables e below (s₁.setTop (mkF m 0 #[.val (.ref a1), .val (.ref cb), .val (.int (1 : Int32)), .val (.int (1 : Int32)), .val .null, .unset] [])) t → Steps p.tables e below (s₁.setTop (entryFrame m #[(.ref a1), (.ref cb), (.int (1 : Int32)), (.int (1 : Int32)), .null] 6)) t := fun t k => castTop (ef_24v11 m a1 cb) k
  have Sa1 : Safe Z own_EL s.vm h0 a1 := own_safe_null hZ.alike H6 H7
  obtain ⟨T101, X101, e101, st101⟩ := initO X0 hx hZ hown (own_w hw 160 rfl) (own_w hw 16 rfl) (own_w hw 17 rfl) e0 (g := (mkF m 1 #[.val (.ref a1), .val (.ref cb), .val (.int (1 : Int32)), .val (.int (1 : Int32)), .val .null, .unset] [(.ref a1)])) rfl (by rw [hml]; rfl) rfl (hb hby d24_1) (by decide) (W := 0) (by show 2 * 0 + _ ≤ _; exact Nat.le_of_eq rfl) (by decide)
  obtain ⟨T102, X102, e102, st102⟩ := getS2 X101 hx hZ hown (host := "") (Or.inl (own_w hw 170 rfl)) Via.refl e101 H0 (g := (mkF m 27 #[.val (.ref a1), .val (.ref cb), .val (.int (1 : Int32)), .val (.int (1 : Int32)), .val .null, .unset] [])) rfl (hb hby d24_27)
  obtain ⟨_, _, ⟨T103, L103, k103, n103⟩, -, X103, ⟨Lc103, hQ103, l103, y103, z103⟩, st103⟩ := Jvm.LawKit.callS X102 hx (y := (⟨"java/lang/StringUTF16", "compress", "([CII)[B"⟩ : MethodName)) hown (mvT hZ (own_w hw 199 rfl)) (mvT hZ (own_w hw 200 rfl)) (mvT hZ (own_w hw 201 rfl)) (mvT hZ (own_w hw 202 rfl)) (by decide) (backOf (W := 0) (rm32s1 l Z a0 hw [] cb ck x0 x1 h0 n0 Z0 H2 H3 H4 H5 H10 H11) hZ (own_w hw 202 rfl) (own_w hw 201 rfl) (by decide) (by decide)) (g := (mkF m 36 #[.val (.ref a1), .val (.ref cb), .val (.int (1 : Int32)), .val (.int (1 : Int32)), .val .null, .unset] [(.int (1 : Int32)), (.int (1 : Int32)), (.ref cb)])) rfl (by rw [hml]; rfl) (argsL := [(.ref cb), (.int (1 : Int32)), (.int (1 : Int32))]) (rest := []) (lenOf pd_7 rfl) rfl (by show 2 * 0 + _ ≤ _; exact Nat.le_of_eq rfl) (hb hby d24_36) (fun _ _ => ⟨rfl, e102, (by decide : 0 + 2 ≤ _), (by decide : 0 + 3 ≤ _)⟩)
  dsimp only [Pt.U, Pt.locs, Pt.cells, Pt.slots] at X103 l103 y103 z103 st103 hQ103
  subst l103 y103 z103
  obtain ⟨b103, k103, rfl, Nq103, K103, R103_1, R103_2⟩ := hQ103
  have N103 := Fr.app N0 Nq103
  have hs104 : ∀ x ∈ ([] : List Addr), Safe Z own_EL s.vm h0 x := (all0 (P := fun x => Safe Z own_EL s.vm h0 x))
  have Hc104 := CHv.keep K103 hs104 hH
  have Cr104 := Cr0.trans (CHr.keep K103 hs104 hH)
  have Sf104_0 := Safe.keep K103 hs104 hH Sa1
  have SbR103_2 := Safe.keep K103 hs104 hH (Safe.new R103_2)
  have z106 : n0 ≤ T103.heap.size := (Nat.le_trans Z0 K103.1)
  obtain ⟨_, _, ⟨T105, L105, k105, n105⟩, -, X105, ⟨Lc105, hQ105, l105, y105, z105⟩, st105⟩ := Jvm.LawKit.callS X103 hx (y := (⟨"java/lang/StringUTF16", "coderFromArrayLen", "([BI)B"⟩ : MethodName)) hown (mvT hZ (own_w hw 206 rfl)) (mvT hZ (own_w hw 207 rfl)) (mvT hZ (own_w hw 201 rfl)) (mvT hZ (own_w hw 208 rfl)) (by decide) (backOf (W := 1) (rm34 l Z a0 hw [] b103 k103 (own_bn (1 : Int32) x1) (own_bs (1 : Int32) x1) T103.heap n0 z106 R103_1) hZ (own_w hw 208 rfl) (own_w hw 201 rfl) (by decide) (by decide)) (g := (mkF m 45 #[.val (.ref a1), .val (.ref cb), .val (.int (1 : Int32)), .val (.int (1 : Int32)), .val .null, .val (.ref b103)] [(.int (1 : Int32)), (.ref b103), (.ref a1)])) rfl (by rw [hml]; rfl) (argsL := [(.ref b103), (.int (1 : Int32))]) (rest := [(.ref a1)]) (lenOf pd_11 rfl) rfl (by show 2 * 0 + _ ≤ _; exact Nat.le_of_eq rfl) (hb hby d24_45) (fun _ _ => ⟨rfl, rfl, (by decide : 2 + 0 ≤ _), (by decide : 3 + 0 ≤ _)⟩)
  dsimp only [Pt.U, Pt.locs, Pt.cells, Pt.slots] at X105 l105 y105 z105 st105 hQ105
  subst l105 y105 z105
  obtain ⟨rfl, Nq105, Heq105⟩ := hQ105
  have N105 := Fr.app N103 Nq105
  have f107 := (H8.keep K103 nin0)
  have f108 := (H6.keep K103)
  obtain ⟨T109, h109, X109, e109, W109, st109⟩ := putFN X105 hx hZ hown (own_w hw 163 rfl) Via.refl Heq105 f107 f108 (Or.inr ⟨(own_w hw 6 rfl), rfl, hnm⟩) (own_w hw 3 rfl) (ty := .byte) (v' := (.int (nar .byte (own_cfa (own_bn (1 : Int32) x1))))) (by decide) rfl (fits_nar_byte _) (g := (mkF m 48 #[.val (.ref a1), .val (.ref cb), .val (.int (1 : Int32)), .val (.int (1 : Int32)), .val .null, .val (.ref b103)] [(.int (own_cfa (own_bn (1 : Int32) x1))), (.ref a1)])) rfl rfl (hb hby d24_48)
  have Fw109 := f107.same W109
  have Hc110 := CHv.wr W109 Sf104_0 Hc104
  have Cr110 := Cr104.trans (CHr.wr W109 Sf104_0 Hc104)
  have Sf110_0 := Safe.wr W109 Sf104_0 Hc104 Sf104_0
  have Sf110_1 := Safe.wr W109 Sf104_0 Hc104 SbR103_2
  have N109 := Fr.snoc X109 N105 H9
  have f111 := ((H7.keep K103 nin0).other W109 (Or.inr (slot_ne (Or.inr (own_w hw 5 rfl)) (Or.inr (own_w hw 6 rfl)) (by decide) (t := (.array .byte)) (t' := .byte) (by decide) (by decide))))
  have f112 := (f108.wr W109)
  obtain ⟨T113, h113, X113, e113, W113, st113⟩ := putF X109 hx hZ hown (host := "") (Or.inl (own_w hw 162 rfl)) Via.refl e109 f111 f112 (Or.inr ⟨(own_w hw 5 rfl), rfl, hnm⟩) (own_w hw 3 rfl) (ty := (.array .byte)) (by decide) rfl rfl (g := (mkF m 54 #[.val (.ref a1), .val (.ref cb), .val (.int (1 : Int32)), .val (.int (1 : Int32)), .val .null, .val (.ref b103)] [(.ref b103), (.ref a1)])) rfl rfl (hb hby d24_54)
  have Fw113 := f111.same W113
  have Hc114 := CHv.wr W113 Sf110_0 Hc110
  have Cr114 := Cr110.trans (CHr.wr W113 Sf110_0 Hc110)
  have Sf114_0 := Safe.wr W113 Sf110_0 Hc110 Sf110_0
  have Sf114_1 := Safe.wr W113 Sf110_0 Hc110 Sf110_1
  have N113 := Fr.snoc X113 N109 H9
  have f115 := (Fw109.other W113 (Or.inr (slot_ne (Or.inr (own_w hw 6 rfl)) (Or.inr (own_w hw 5 rfl)) (by decide) (t := .byte) (t' := (.array .byte)) (by decide) (by decide))))
  have ne116 : a1 ≠ b103 := (Nat.ne_of_lt (Nat.lt_of_lt_of_le H6.lt R103_2))
  have f117 := ((R103_1.other W109 (Ne.symm ne116)).other W113 (Ne.symm ne116))
  obtain ⟨fs, hr, hrun, hended, hEnd⟩ := X113.leaveW hS0 (by rw [e113]; exact (Nat.le_trans (Nat.le_trans (Nat.le_trans (Nat.zero_le _) K103.1) (Nat.le_of_eq W109.size.symm)) (Nat.le_of_eq W113.size.symm))) (v := none) (fun _ => rfl)
  refine ⟨_, _, pre0 _ ?_, hrun, hended, _, _, rfl, ?_, (show CHr Z own_EL s.vm s.heap T113.vm T113.heap from by rw [hh, e113]; exact Cr114.trans (CHv.at X113 hZ hEL Hc114)), hEnd.1, hEnd.2.1, hEnd.2.2.1, hEnd.2.2.2.mono (by decide) (by decide)⟩
  · skip
    show Steps p.tables e below (s₁.setTop (mkF m 0 #[.val (.ref a1), .val (.ref cb), .val (.int (1 : Int32)), .val (.int (1 : Int32)), .val .null, .unset] [])) _
    refine XS.aloadN X0.here hx rfl (hb hby d24_0) rfl rfl ?_
    refine st101 _ ?_
    refine XS.iloadN X101.here hx rfl (hb hby d24_4) rfl ?_
    refine XS.ifYes X101.here hx rfl (pc0 := 5) (pc' := 27) rfl (hb hby d24_5) rfl ((if0 _ _).trans (feq (by decide : ¬ ((1 : Int32) = (0 : Int32)))).2) (by decide) (by decide) ?_
    refine st102 _ ?_
    refine XS.ifNo X102.here hx rfl (hb hby d24_30) rfl ((if0 _ _).trans (feq (H1 : ¬ (cz = (0 : Int32)))).1) ?_
    refine XS.aloadN X102.here hx rfl (hb hby d24_33) rfl rfl ?_
    refine XS.iloadN X102.here hx rfl (hb hby d24_34) rfl ?_
    refine XS.iloadN X102.here hx rfl (hb hby d24_35) rfl ?_
    refine st103 _ ?_
    refine XS.astore X103.here hx rfl (hb hby d24_39) rfl rfl (l' := #[.val (.ref a1), .val (.ref cb), .val (.int (1 : Int32)), .val (.int (1 : Int32)), .val .null, .val (.ref b103)]) rfl ?_
    refine XS.aloadN X103.here hx rfl (hb hby d24_41) rfl rfl ?_
    refine XS.aload X103.here hx rfl (hb hby d24_42) rfl rfl ?_
    refine XS.iloadN X103.here hx rfl (hb hby d24_44) rfl ?_
    show Steps p.tables e below (T103.setTop (mkF m 45 #[.val (.ref a1), .val (.ref cb), .val (.int (1 : Int32)), .val (.int (1 : Int32)), .val .null, .val (.ref b103)] [(.int (1 : Int32)), (.ref b103), (.ref a1)])) _
    refine st105 _ ?_
    refine st109 _ ?_
    refine XS.aloadN X109.here hx rfl (hb hby d24_51) rfl rfl ?_
    refine XS.aload X109.here hx rfl (hb hby d24_52) rfl rfl ?_
    refine st113 _ ?_
    show Steps p.tables e below (T113.setTop (mkF m 57 #[.val (.ref a1), .val (.ref cb), .val (.int (1 : Int32)), .val (.int (1 : Int32)), .val .null, .val (.ref b103)] [])) _
    exact X113.returnOut hx Bd.returns (hb hby d24_57) hr
  · show Q24v11 Z a1 cb cz ck x0 x1 h0 n0 _ T113.heap _
    rw [e113]
    exact ⟨b103, k103, rfl, N113, ((((Keep.refl h0 [a1]).trans K103 (all0 (P := (fun x => x ∈ [a1] ∨ h0.size ≤ x)))).wr W109 (Or.inl (List.mem_of_getElem? (i := 0) rfl))).wr W113 (Or.inl (List.mem_of_getElem? (i := 0) rfl))), (by rw [own_at1, ← own_cfae]; exact f115), Fw113, (by rw [own_at1]; exact f117)⟩
theorem ef_24g (m : MethodId) (a1 : Addr) (cb : Addr) (p3 : Int32) (p4 : Int32) : entryFrame m #[(.ref a1), (.ref cb), (.int p3), (.int p4), .null] 6 = mkF m 0 #[.val (.ref a1), .val (.ref cb), .val (.int p3), .val (.int p4), .val .null, .unset] [] := by first | (simp [entryFrame, mkF, argsToLocals, Value.category]; done) | rfl
def Q24g (Z : State) (a1 : Addr) (cb : Addr) (p3 : Int32) (p4 : Int32) (cz : Int32) (ck : ClassId) (x0 : Int32) (x1 : Int32) (h0 : Heap) (n0 : Nat) (v : Option Value) (h : Heap) (L : List Loc) : Prop := ∃ (b : Addr) (k : ClassId), v = none ∧ Fr n0 L ∧ Keep h0 h [a1] ∧ Fld Z h a1 "java/lang/String" "coder" "B" (.int (own_cd p4 (own_at p3 x0 x1))) ∧ Fld Z h a1 "java/lang/String" "value" "[B" (.ref b) ∧ Arv Z h b k .byte (own_bn p4 (own_at p3 x0 x1)) (own_bs p4 (own_at p3 x0 x1)) (.int (0 : Int32))
set_option maxRecDepth 65536 in
set_option maxHeartbeats 40000000 in
theorem rm24g (l : Launch) (Z : State) (a0 : Array Value) (hw : ∀ d ∈ tables_1, d.before a0 Z = true) (ws : List Jvm.Cond) (hEL : EW Z a0 own_EL) (a1 : Addr) (cb : Addr) (p3 : Int32) (p4 : Int32) (cz : Int32) (ck : ClassId) (x0 : Int32) (x1 : Int32) (h0 : Heap) (n0 : Nat) (Z0 : n0 ≤ h0.size) (H0 : Sta Z h0 "java/lang/String" "COMPACT_STRINGS" "Z" (.int cz)) (H1 : ¬ (cz = (0 : Int32))) (H2 : Sta Z h0 "java/lang/StringUTF16" "$assertionsDisabled" "Z" (.int (1 : Int32))) (H3 : Sta Z h0 "java/lang/StringUTF16" "HI_BYTE_SHIFT" "I" (.int (0 : Int32))) (H4 : Sta Z h0 "java/lang/StringUTF16" "LO_BYTE_SHIFT" "I" (.int (8 : Int32))) (H5 : Arv Z h0 cb ck .char (16 : Int32) (own_zl (.int x0) (.int x1)) (.int (0 : Int32))) (H6 : Exa Z h0 a1 "java/lang/String") (H7 : Fld Z h0 a1 "java/lang/String" "value" "[B" .null) (H8 : Fld Z h0 a1 "java/lang/String" "coder" "B" (.int (0 : Int32))) (H9 : n0 ≤ a1) (H10 : own_chr x0) (H11 : own_chr x1) (H12 : own_01 p3) (H13 : own_01 p4) :
    MetFree l (⟨"java/lang/String", "<init>", "([CIILjava/lang/Void;)V"⟩ : MethodName) (head1 (Jvm.Cond.code (⟨"java/lang/String", "<init>", "([CIILjava/lang/Void;)V"⟩ : MethodName) jdk_42_method_149_code 6 none :: ws) ({ frames := 4, cells := 4, slots := 8, locals := 59 } : Room)) (fun a U => a = #[(.ref a1), (.ref cb), (.int p3), (.int p4), .null] ∧ Z.Warmed39 U.vm ∧ U.heap = h0 ∧ CHv Z own_EL U.vm h0) (fun _ _ _ _ _ => True) (fun _ U o U' => ∃ v L, o = .returned v ∧ Q24g Z a1 cb p3 p4 cz ck x0 x1 h0 n0 v U'.heap L ∧ CHr Z own_EL U.vm U.heap U'.vm U'.heap ∧ ReturnedEndW U o U' L ({ frames := 4, cells := 4, slots := 8, locals := 59 } : Room).cells ({ frames := 4, cells := 4, slots := 8, locals := 59 } : Room).slots) := by
  rcases H12 with rfl | rfl
  · rcases H13 with rfl | rfl
    · exact rm24v00 l Z a0 hw ws hEL a1 cb cz ck x0 x1 h0 n0 Z0 H0 H1 H2 H3 H4 H5 H6 H7 H8 H9 H10 H11
    · exact rm24v01 l Z a0 hw ws hEL a1 cb cz ck x0 x1 h0 n0 Z0 H0 H1 H2 H3 H4 H5 H6 H7 H8 H9 H10 H11
  · rcases H13 with rfl | rfl
    · exact rm24v10 l Z a0 hw ws hEL a1 cb cz ck x0 x1 h0 n0 Z0 H0 H1 H2 H3 H4 H5 H6 H7 H8 H9 H10 H11
    · exact rm24v11 l Z a0 hw ws hEL a1 cb cz ck x0 x1 h0 n0 Z0 H0 H1 H2 H3 H4 H5 H6 H7 H8 H9 H10 H11
theorem d20_0 : decode jdk_42_method_4_code 0 = .ok (.aload_n 0, 1) := by decide +kernel
theorem d20_1 : decode jdk_42_method_4_code 1 = .ok (.aload_n 1, 1) := by decide +kernel
theorem d20_2 : decode jdk_42_method_4_code 2 = .ok (.iload_n 2, 1) := by decide +kernel
theorem d20_3 : decode jdk_42_method_4_code 3 = .ok (.iload_n 3, 1) := by decide +kernel
theorem d20_4 : decode jdk_42_method_4_code 4 = .ok (.aload_n 1, 1) := by decide +kernel
theorem d20_5 : decode jdk_42_method_4_code 5 = .ok (.iload_n 2, 1) := by decide +kernel
theorem d20_6 : decode jdk_42_method_4_code 6 = .ok (.iload_n 3, 1) := by decide +kernel
theorem d20_7 : decode jdk_42_method_4_code 7 = .ok (.invokestatic 30, 3) := by decide +kernel
theorem d20_10 : decode jdk_42_method_4_code 10 = .ok (.invokespecial 27, 3) := by decide +kernel
theorem d20_13 : decode jdk_42_method_4_code 13 = .ok (.return_, 1) := by decide +kernel
theorem ef_20g (m : MethodId) (a1 : Addr) (cb : Addr) (p3 : Int32) (p4 : Int32) : entryFrame m #[(.ref a1), (.ref cb), (.int p3), (.int p4)] 4 = mkF m 0 #[.val (.ref a1), .val (.ref cb), .val (.int p3), .val (.int p4)] [] := by first | (simp [entryFrame, mkF, argsToLocals, Value.category]; done) | rfl
def Q20g (Z : State) (a1 : Addr) (cb : Addr) (p3 : Int32) (p4 : Int32) (cz : Int32) (ck : ClassId) (x0 : Int32) (x1 : Int32) (sf : Value) (h0 : Heap) (n0 : Nat) (v : Option Value) (h : Heap) (L : List Loc) : Prop := ∃ (b : Addr) (k : ClassId), v = none ∧ Fr n0 L ∧ Keep h0 h [a1] ∧ Fld Z h a1 "java/lang/String" "coder" "B" (.int (own_cd p4 (own_at p3 x0 x1))) ∧ Fld Z h a1 "java/lang/String" "value" "[B" (.ref b) ∧ Arv Z h b k .byte (own_bn p4 (own_at p3 x0 x1)) (own_bs p4 (own_at p3 x0 x1)) (.int (0 : Int32))
set_option maxRecDepth 65536 in
set_option maxHeartbeats 40000000 in
theorem rm20g (l : Launch) (Z : State) (a0 : Array Value) (hw : ∀ d ∈ tables_1, d.before a0 Z = true) (ws : List Jvm.Cond) (hEL : EW Z a0 own_EL) (a1 : Addr) (cb : Addr) (p3 : Int32) (p4 : Int32) (cz : Int32) (ck : ClassId) (x0 : Int32) (x1 : Int32) (sf : Value) (h0 : Heap) (n0 : Nat) (Z0 : n0 ≤ h0.size) (H0 : Sta Z h0 "java/lang/String" "COMPACT_STRINGS" "Z" (.int cz)) (H1 : ¬ (cz = (0 : Int32))) (H2 : Sta Z h0 "java/lang/StringUTF16" "$assertionsDisabled" "Z" (.int (1 : Int32))) (H3 : Sta Z h0 "java/lang/StringUTF16" "HI_BYTE_SHIFT" "I" (.int (0 : Int32))) (H4 : Sta Z h0 "java/lang/StringUTF16" "LO_BYTE_SHIFT" "I" (.int (8 : Int32))) (H5 : Arv Z h0 cb ck .char (16 : Int32) (own_zl (.int x0) (.int x1)) (.int (0 : Int32))) (H6 : Exa Z h0 a1 "java/lang/String") (H7 : Fld Z h0 a1 "java/lang/String" "value" "[B" .null) (H8 : Fld Z h0 a1 "java/lang/String" "coder" "B" (.int (0 : Int32))) (H9 : n0 ≤ a1) (H10 : own_chr x0) (H11 : own_chr x1) (H12 : Sta Z h0 "jdk/internal/util/Preconditions" "SIOOBE_FORMATTER" "Ljava/util/function/BiFunction;" sf) (H13 : sf.category = 1) (H14 : own_01 p3) (H15 : own_01 p4) :
    MetFree l (⟨"java/lang/String", "<init>", "([CII)V"⟩ : MethodName) (head1 (Jvm.Cond.code (⟨"java/lang/String", "<init>", "([CII)V"⟩ : MethodName) jdk_42_method_4_code 4 none :: ws) ({ frames := 5, cells := 4, slots := 8, locals := 76 } : Room)) (fun a U => a = #[(.ref a1), (.ref cb), (.int p3), (.int p4)] ∧ Z.Warmed39 U.vm ∧ U.heap = h0 ∧ CHv Z own_EL U.vm h0) (fun _ _ _ _ _ => True) (fun _ U o U' => ∃ v L, o = .returned v ∧ Q20g Z a1 cb p3 p4 cz ck x0 x1 sf h0 n0 v U'.heap L ∧ CHr Z own_EL U.vm U.heap U'.vm U'.heap ∧ ReturnedEndW U o U' L ({ frames := 5, cells := 4, slots := 8, locals := 76 } : Room).cells ({ frames := 5, cells := 4, slots := 8, locals := 76 } : Room).slots) := by
  refine MetFree.of_bodySF (plainFor_of_name pn_java_lang_String) hisR ?_
  intro p e s m args below meth c s₁ Bd hml0 hP hK
  obtain ⟨rfl, hZ, hh, hH⟩ := hP
  have hx := Bd.exec
  have hby := Bd.bytes
  have hml : c.maxLocals = 4 := hml0
  have hown : s.vm.findClass "java/lang/String" = some m.cls := findClass_of_methodNamed Bd.named
  have hnm := (name_of_methodNamed Bd.named Bd.method).1
  have X0 : Stand p l e ({ frames := 5, cells := 4, slots := 8, locals := 76 } : Room) s m #[(.ref a1), (.ref cb), (.int p3), (.int p4)] below meth c s₁ [] 0 0 := Stand.of_body Bd
  have e0 : s₁.heap = h0 := by rw [← hh, Bd.state]; rfl
  have N0 := Fr.nil n0
  have X0 : Stand p l e ({ frames := 5, cells := 4, slots := 8, locals := 76 } : Room) (s.setVm s.vm) m #[(.ref a1), (.ref cb), (.int p3), (.int p4)] below meth c s₁ [] 0 0 := X0
  have hZ : Z.Warmed39 (s.setVm s.vm).vm := hZ
  have hown : (s.setVm s.vm).vm.findClass "java/lang/String" = some m.cls := hown
  have hS0 : s.Since s.vm 0 := State.WarmedH.since (State.WarmedH.refl s) 0
  have Cr0 : CHr Z own_EL s.vm h0 s.vm h0 := CHr.refl hH
  have pre0 : ∀ t, Steps p.tables e below (s₁.setTop (mkF m 0 #[.val (.ref a1), .val (.ref cb), .val (.int p3), .val (.int p4)] [])) t → Steps p.tables e below (s₁.setTop (entryFrame m #[(.ref a1), (.ref cb), (.int p3), (.int p4)] 4)) t := fun t k => castTop (ef_20g m a1 cb p3 p4) k
  obtain ⟨_, _, ⟨T101, L101, k101, n101⟩, -, X101, ⟨Lc101, hQ101, l101, y101, z101⟩, st101⟩ := Jvm.LawKit.callS X0 hx (y := (⟨"java/lang/String", "rangeCheck", "([CII)Ljava/lang/Void;"⟩ : MethodName)) hown (mvT hZ (own_w hw 146 rfl)) (mvT hZ (own_w hw 147 rfl)) (mvT hZ (own_w hw 2 rfl)) (mvT hZ (own_w hw 148 rfl)) (by decide) (backOf (W := 4) (rm21 l Z a0 hw [] cb p3 p4 sf ck x0 x1 h0 n0 Z0 H12 H13 H14 H15 H5) hZ (own_w hw 148 rfl) (own_w hw 2 rfl) (by decide) (by decide)) (g := (mkF m 7 #[.val (.ref a1), .val (.ref cb), .val (.int p3), .val (.int p4)] [(.int p4), (.int p3), (.ref cb), (.int p4), (.int p3), (.ref cb), (.ref a1)])) rfl (by rw [hml]; rfl) (argsL := [(.ref cb), (.int p3), (.int p4)]) (rest := [(.int p4), (.int p3), (.ref cb), (.ref a1)]) (lenOf pd_12 rfl) rfl (by show 2 * 0 + _ ≤ _; exact Nat.le_of_eq rfl) (hb hby d20_7) (fun _ _ => ⟨rfl, e0, (by decide : 0 + 0 ≤ _), (by decide : 0 + 0 ≤ _)⟩)
  dsimp only [Pt.U, Pt.locs, Pt.cells, Pt.slots] at X101 l101 y101 z101 st101 hQ101
  subst l101 y101 z101
  obtain ⟨rfl, Nq101, Heq101⟩ := hQ101
  have N101 := Fr.app N0 Nq101
  obtain ⟨_, _, ⟨T102, L102, k102, n102⟩, -, X102, hS102', hgr102, ⟨Lc102, hQ102, l102, y102, z102, Cq102⟩, st102⟩ := X101.specialBackS hx (y := (⟨"java/lang/String", "<init>", "([CIILjava/lang/Void;)V"⟩ : MethodName)) rfl hown (mvT hZ (own_w hw 156 rfl)) (mvT hZ (own_w hw 157 rfl)) (mvT hZ (own_w hw 159 rfl)) (by decide) (backOfSH (W := 0) (rm24g l Z a0 hw [] hEL a1 cb p3 p4 cz ck x0 x1 h0 n0 Z0 H0 H1 H2 H3 H4 H5 H6 H7 H8 H9 H10 H11 H14 H15) hZ (own_w hw 159 rfl) (own_w hw 2 rfl) (by decide) (by decide) hEL hH) (g := (mkF m 10 #[.val (.ref a1), .val (.ref cb), .val (.int p3), .val (.int p4)] [.null, (.int p4), (.int p3), (.ref cb), (.ref a1)])) rfl (by rw [hml]; rfl) (Steps.refl _) (a := a1) (argsL := [(.ref cb), (.int p3), (.int p4), .null]) (rest := []) (lenOf pd_13 rfl) rfl (by show 2 * 0 + _ ≤ _; exact Nat.le_of_eq rfl) (hb hby d20_10) (fun _ _ => ⟨rfl, Heq101, (by decide : 0 + 4 ≤ _), (by decide : 0 + 8 ≤ _)⟩)
  dsimp only [Pt.U, Pt.locs, Pt.cells, Pt.slots] at X102 l102 y102 z102 st102 hQ102 hS102' hgr102 Cq102
  subst l102 y102 z102
  obtain ⟨X102, hS102, hZ, hown⟩ := rebS hS0 (by rw [Heq101]; exact (Nat.zero_le _)) X102 hS102' hgr102 hZ hown
  have Cr102 := Cr0.trans Cq102
  have Hc102 := Cq102.1
  obtain ⟨b102, k102, rfl, Nq102, K102, R102_1, R102_2, R102_3⟩ := hQ102
  have N102 := Fr.app N101 Nq102
  obtain ⟨fs, hr, hrun, hended, hEnd⟩ := X102.leaveW hS102 (Nat.le_refl _) (v := none) (fun _ => rfl)
  refine ⟨_, _, pre0 _ ?_, hrun, hended, _, _, rfl, ?_, (show CHr Z own_EL s.vm s.heap T102.vm T102.heap from by rw [hh]; exact Cr102.trans (CHv.at X102 hZ hEL Hc102)), hEnd.1, hEnd.2.1, hEnd.2.2.1, hEnd.2.2.2.mono (by decide) (by decide)⟩
  · skip
    show Steps p.tables e below (s₁.setTop (mkF m 0 #[.val (.ref a1), .val (.ref cb), .val (.int p3), .val (.int p4)] [])) _
    refine XS.aloadN X0.here hx rfl (hb hby d20_0) rfl rfl ?_
    refine XS.aloadN X0.here hx rfl (hb hby d20_1) rfl rfl ?_
    refine XS.iloadN X0.here hx rfl (hb hby d20_2) rfl ?_
    refine XS.iloadN X0.here hx rfl (hb hby d20_3) rfl ?_
    refine XS.aloadN X0.here hx rfl (hb hby d20_4) rfl rfl ?_
    refine XS.iloadN X0.here hx rfl (hb hby d20_5) rfl ?_
    refine XS.iloadN X0.here hx rfl (hb hby d20_6) rfl ?_
    refine st101 _ ?_
    show Steps p.tables e below (T101.setTop (mkF m 10 #[.val (.ref a1), .val (.ref cb), .val (.int p3), .val (.int p4)] [.null, (.int p4), (.int p3), (.ref cb), (.ref a1)])) _
    refine st102.trans ?_
    show Steps p.tables e below (T102.setTop (mkF m 13 #[.val (.ref a1), .val (.ref cb), .val (.int p3), .val (.int p4)] [])) _
    exact X102.returnOut hx Bd.returns (hb hby d20_13) hr
  · show Q20g Z a1 cb p3 p4 cz ck x0 x1 sf h0 n0 _ T102.heap _
    exact ⟨b102, k102, rfl, N102, ((Keep.refl h0 [a1]).trans K102 (allS (P := (fun x => x ∈ [a1] ∨ h0.size ≤ x)) (Or.inl (List.mem_of_getElem? (i := 0) rfl)) all0)), R102_1, R102_2, R102_3⟩
theorem d13_0 : decode jdk_22_method_1_code 0 = .ok (.aload_n 0, 1) := by decide +kernel
theorem d13_1 : decode jdk_22_method_1_code 1 = .ok (.invokespecial 1, 3) := by decide +kernel
theorem d13_4 : decode jdk_22_method_1_code 4 = .ok (.return_, 1) := by decide +kernel
theorem pn_java_util_AbstractCollection : plainName "java/util/AbstractCollection" = true := by first | (simp [plainName, overriddenIn]; done) | decide +kernel
theorem ef_13x17 (m : MethodId) (ra0 : Addr) : entryFrame m #[(.ref ra0)] 1 = mkF m 0 #[.val (.ref ra0)] [] := by first | (simp [entryFrame, mkF, argsToLocals, Value.category]; done) | rfl
def Q13x17 (Z : State) (ra0 : Addr) (h0 : Heap) (n0 : Nat) (v : Option Value) (h : Heap) (L : List Loc) : Prop := v = none ∧ Fr n0 L ∧ h = h0
set_option maxRecDepth 65536 in
set_option maxHeartbeats 40000000 in
theorem rm13x17 (l : Launch) (Z : State) (a0 : Array Value) (hw : ∀ d ∈ tables_1, d.before a0 Z = true) (ws : List Jvm.Cond) (ra0 : Addr) (h0 : Heap) (n0 : Nat) (Z0 : n0 ≤ h0.size) :
    own_MF l (⟨"java/util/AbstractCollection", "<init>", "()V"⟩ : MethodName) (Jvm.Cond.code (⟨"java/util/AbstractCollection", "<init>", "()V"⟩ : MethodName) jdk_22_method_1_code 1 none :: ws) ({ frames := 1, cells := 0, slots := 0, locals := 12 } : Room) #[(.ref ra0)] Z h0 (Q13x17 Z ra0 h0 n0) := by
  refine MetFree.of_bodySF (plainFor_of_name pn_java_util_AbstractCollection) hisR ?_
  intro p e s m args below meth c s₁ Bd hml0 hP hK
  obtain ⟨rfl, hZ, hh⟩ := hP
  have hx := Bd.exec
  have hby := Bd.bytes
  have hml : c.maxLocals = 1 := hml0
  have hown : s.vm.findClass "java/util/AbstractCollection" = some m.cls := findClass_of_methodNamed Bd.named
  have hnm := (name_of_methodNamed Bd.named Bd.method).1
  have X0 : Stand p l e ({ frames := 1, cells := 0, slots := 0, locals := 12 } : Room) s m #[(.ref ra0)] below meth c s₁ [] 0 0 := Stand.of_body Bd
  have e0 : s₁.heap = h0 := by rw [← hh, Bd.state]; rfl
  have N0 := Fr.nil n0
  have pre0 : ∀ t, Steps p.tables e below (s₁.setTop (mkF m 0 #[.val (.ref ra0)] [])) t → Steps p.tables e below (s₁.setTop (entryFrame m #[(.ref ra0)] 1)) t := fun t k => castTop (ef_13x17 m ra0) k
  obtain ⟨T101, X101, e101, st101⟩ := initO X0 hx hZ hown (own_w hw 105 rfl) (own_w hw 16 rfl) (own_w hw 17 rfl) e0 (g := (mkF m 1 #[.val (.ref ra0)] [(.ref ra0)])) rfl (by rw [hml]; rfl) rfl (hb hby d13_1) (by decide) (W := 0) (by show 2 * 0 + _ ≤ _; exact Nat.le_of_eq rfl) (by decide)
  obtain ⟨fs, hr, hrun, hended, hW, hsame⟩ := X101.leave (v := none) (fun _ => rfl)
  refine ⟨_, _, pre0 _ ?_, hrun, hended, _, _, rfl, ?_, ⟨_, rfl⟩, hW, hsame.mono (by decide) (by decide)⟩
  · skip
    show Steps p.tables e below (s₁.setTop (mkF m 0 #[.val (.ref ra0)] [])) _
    refine XS.aloadN X0.here hx rfl (hb hby d13_0) rfl rfl ?_
    refine st101 _ ?_
    show Steps p.tables e below (T101.setTop (mkF m 4 #[.val (.ref ra0)] [])) _
    exact X101.returnOut hx Bd.returns (hb hby d13_4) hr
  · show Q13x17 Z ra0 h0 n0 _ T101.heap _
    rw [e101]
    exact ⟨rfl, N0, rfl⟩
theorem d12_0 : decode jdk_39_method_1_code 0 = .ok (.aload_n 0, 1) := by decide +kernel
theorem d12_1 : decode jdk_39_method_1_code 1 = .ok (.invokespecial 1, 3) := by decide +kernel
theorem d12_4 : decode jdk_39_method_1_code 4 = .ok (.aload_n 0, 1) := by decide +kernel
theorem d12_5 : decode jdk_39_method_1_code 5 = .ok (.iconst 0, 1) := by decide +kernel
theorem d12_6 : decode jdk_39_method_1_code 6 = .ok (.putfield 7, 3) := by decide +kernel
theorem d12_9 : decode jdk_39_method_1_code 9 = .ok (.return_, 1) := by decide +kernel
theorem pn_java_util_AbstractList : plainName "java/util/AbstractList" = true := by first | (simp [plainName, overriddenIn]; done) | decide +kernel
theorem ef_12x16 (m : MethodId) (ra0 : Addr) : entryFrame m #[(.ref ra0)] 1 = mkF m 0 #[.val (.ref ra0)] [] := by first | (simp [entryFrame, mkF, argsToLocals, Value.category]; done) | rfl
def Q12x16 (Z : State) (ra0 : Addr) (uo1 : Addr) (h0 : Heap) (n0 : Nat) (v : Option Value) (h : Heap) (L : List Loc) : Prop := v = none ∧ Fr n0 L ∧ Keep h0 h [ra0] ∧ Fld Z h ra0 "com/example/rouse/rouse/shell/CommandLine$Words" "from" "I" (.int (0 : Int32)) ∧ Fld Z h ra0 "com/example/rouse/rouse/shell/CommandLine$Words" "this$0" "Lcom/example/rouse/rouse/shell/CommandLine;" (.ref uo1) ∧ Fld Z h ra0 "com/example/rouse/rouse/shell/CommandLine$Words" "to" "I" (.int (0 : Int32)) ∧ Fld Z h ra0 "java/util/AbstractList" "modCount" "I" (.int (0 : Int32))
set_option maxRecDepth 65536 in
set_option maxHeartbeats 40000000 in
theorem rm12x16 (l : Launch) (Z : State) (a0 : Array Value) (hw : ∀ d ∈ tables_1, d.before a0 Z = true) (ws : List Jvm.Cond) (ra0 : Addr) (uo1 : Addr) (h0 : Heap) (n0 : Nat) (Z0 : n0 ≤ h0.size) (H0 : Exa Z h0 ra0 "com/example/rouse/rouse/shell/CommandLine$Words") (H1 : Fld Z h0 ra0 "java/util/AbstractList" "modCount" "I" (.int (0 : Int32))) (H2 : n0 ≤ ra0) (H3 : Fld Z h0 ra0 "com/example/rouse/rouse/shell/CommandLine$Words" "from" "I" (.int (0 : Int32))) (H4 : Fld Z h0 ra0 "com/example/rouse/rouse/shell/CommandLine$Words" "this$0" "Lcom/example/rouse/rouse/shell/CommandLine;" (.ref uo1)) (H5 : Fld Z h0 ra0 "com/example/rouse/rouse/shell/CommandLine$Words" "to" "I" (.int (0 : Int32))) :
    own_MF l (⟨"java/util/AbstractList", "<init>", "()V"⟩ : MethodName) (Jvm.Cond.code (⟨"java/util/AbstractList", "<init>", "()V"⟩ : MethodName) jdk_39_method_1_code 1 none :: ws) ({ frames := 2, cells := 0, slots := 0, locals := 24 } : Room) #[(.ref ra0)] Z h0 (Q12x16 Z ra0 uo1 h0 n0) := by
  refine MetFree.of_bodySF (plainFor_of_name pn_java_util_AbstractList) hisR ?_
  intro p e s m args below meth c s₁ Bd hml0 hP hK
  obtain ⟨rfl, hZ, hh⟩ := hP
  have hx := Bd.exec
  have hby := Bd.bytes
  have hml : c.maxLocals = 1 := hml0
  have hown : s.vm.findClass "java/util/AbstractList" = some m.cls := findClass_of_methodNamed Bd.named
  have hnm := (name_of_methodNamed Bd.named Bd.method).1
  have X0 : Stand p l e ({ frames := 2, cells := 0, slots := 0, locals := 24 } : Room) s m #[(.ref ra0)] below meth c s₁ [] 0 0 := Stand.of_body Bd
  have e0 : s₁.heap = h0 := by rw [← hh, Bd.state]; rfl
  have N0 := Fr.nil n0
  have pre0 : ∀ t, Steps p.tables e below (s₁.setTop (mkF m 0 #[.val (.ref ra0)] [])) t → Steps p.tables e below (s₁.setTop (entryFrame m #[(.ref ra0)] 1)) t := fun t k => castTop (ef_12x16 m ra0) k
  obtain ⟨_, _, ⟨T101, L101, k101, n101⟩, -, X101, ⟨Lc101, hQ101, l101, y101, z101⟩, st101⟩ := X0.specialBack hx (y := (⟨"java/util/AbstractCollection", "<init>", "()V"⟩ : MethodName)) rfl hown (mvT hZ (own_w hw 99 rfl)) (mvT hZ (own_w hw 100 rfl)) (mvT hZ (own_w hw 104 rfl)) (by decide) (backOf (W := 0) (rm13x17 l Z a0 hw [] ra0 h0 n0 Z0) hZ (own_w hw 104 rfl) (own_w hw 103 rfl) (by decide) (by decide)) (g := (mkF m 1 #[.val (.ref ra0)] [(.ref ra0)])) rfl (by rw [hml]; rfl) (Steps.refl _) (a := ra0) (argsL := []) (rest := []) (lenOf pd_14 rfl) rfl (by show 2 * 0 + _ ≤ _; exact Nat.le_of_eq rfl) (hb hby d12_1) (fun _ _ => ⟨rfl, e0, (by decide : 0 + 0 ≤ _), (by decide : 0 + 0 ≤ _)⟩)
  dsimp only [Pt.U, Pt.locs, Pt.cells, Pt.slots] at X101 l101 y101 z101 st101 hQ101
  subst l101 y101 z101
  obtain ⟨rfl, Nq101, Heq101⟩ := hQ101
  have N101 := Fr.app N0 Nq101
  obtain ⟨T102, h102, X102, e102, W102, st102⟩ := putF X101 hx hZ hown (host := "") (Or.inl (own_w hw 106 rfl)) Via.refl Heq101 H1 H0 (Or.inl (own_w hw 107 rfl)) (own_w hw 87 rfl) (ty := .int) (by decide) rfl rfl (g := (mkF m 6 #[.val (.ref ra0)] [(.int (0 : Int32)), (.ref ra0)])) rfl rfl (hb hby d12_6)
  have Fw102 := H1.same W102
  have N102 := Fr.snoc X102 N101 H2
  have f103 := (H3.other W102 (Or.inr (slot_ne (Or.inr (own_w hw 109 rfl)) (Or.inl (own_w hw 107 rfl)) (by decide) (t := .int) (t' := .int) (by decide) (by decide))))
  have f104 := (H4.other W102 (Or.inr (slot_ne (Or.inr (own_w hw 93 rfl)) (Or.inl (own_w hw 107 rfl)) (by decide) (t := (.object "com/example/rouse/rouse/shell/CommandLine")) (t' := .int) (by decide) (by decide))))
  have f105 := (H5.other W102 (Or.inr (slot_ne (Or.inr (own_w hw 111 rfl)) (Or.inl (own_w hw 107 rfl)) (by decide) (t := .int) (t' := .int) (by decide) (by decide))))
  obtain ⟨fs, hr, hrun, hended, hW, hsame⟩ := X102.leave (v := none) (fun _ => rfl)
  refine ⟨_, _, pre0 _ ?_, hrun, hended, _, _, rfl, ?_, ⟨_, rfl⟩, hW, hsame.mono (by decide) (by decide)⟩
  · skip
    show Steps p.tables e below (s₁.setTop (mkF m 0 #[.val (.ref ra0)] [])) _
    refine XS.aloadN X0.here hx rfl (hb hby d12_0) rfl rfl ?_
    show Steps p.tables e below (s₁.setTop (mkF m 1 #[.val (.ref ra0)] [(.ref ra0)])) _
    refine st101.trans ?_
    show Steps p.tables e below (T101.setTop (mkF m 4 #[.val (.ref ra0)] [])) _
    refine XS.aloadN X101.here hx rfl (hb hby d12_4) rfl rfl ?_
    refine XS.iconst X101.here hx rfl (hb hby d12_5) ?_
    refine st102 _ ?_
    show Steps p.tables e below (T102.setTop (mkF m 9 #[.val (.ref ra0)] [])) _
    exact X102.returnOut hx Bd.returns (hb hby d12_9) hr
  · show Q12x16 Z ra0 uo1 h0 n0 _ T102.heap _
    rw [e102]
    exact ⟨rfl, N102, ((Keep.refl h0 [ra0]).wr W102 (Or.inl (List.mem_of_getElem? (i := 0) rfl))), f103, f104, f105, Fw102⟩
theorem d11_0 : decode prog_66_method_1_code 0 = .ok (.aload_n 0, 1) := by decide +kernel
theorem d11_1 : decode prog_66_method_1_code 1 = .ok (.aload_n 1, 1) := by decide +kernel
theorem d11_2 : decode prog_66_method_1_code 2 = .ok (.putfield 1, 3) := by decide +kernel
theorem d11_5 : decode prog_66_method_1_code 5 = .ok (.aload_n 0, 1) := by decide +kernel
theorem d11_6 : decode prog_66_method_1_code 6 = .ok (.invokespecial 7, 3) := by decide +kernel
theorem d11_9 : decode prog_66_method_1_code 9 = .ok (.aload_n 0, 1) := by decide +kernel
theorem d11_10 : decode prog_66_method_1_code 10 = .ok (.iload_n 2, 1) := by decide +kernel
theorem d11_11 : decode prog_66_method_1_code 11 = .ok (.putfield 13, 3) := by decide +kernel
theorem d11_14 : decode prog_66_method_1_code 14 = .ok (.aload_n 0, 1) := by decide +kernel
theorem d11_15 : decode prog_66_method_1_code 15 = .ok (.iload_n 3, 1) := by decide +kernel
theorem d11_16 : decode prog_66_method_1_code 16 = .ok (.putfield 17, 3) := by decide +kernel
theorem d11_19 : decode prog_66_method_1_code 19 = .ok (.return_, 1) := by decide +kernel
theorem pn_com_example_rouse_rouse_shell_CommandLine_Words : plainName "com/example/rouse/rouse/shell/CommandLine$Words" = true := by first | (simp [plainName, overriddenIn]; done) | decide +kernel
theorem ef_11 (m : MethodId) (a1 : Addr) (cl : Addr) (p3 : Int32) (p4 : Int32) : entryFrame m #[(.ref a1), (.ref cl), (.int p3), (.int p4)] 4 = mkF m 0 #[.val (.ref a1), .val (.ref cl), .val (.int p3), .val (.int p4)] [] := by first | (simp [entryFrame, mkF, argsToLocals, Value.category]; done) | rfl
def Q11 (Z : State) (a1 : Addr) (cl : Addr) (p3 : Int32) (p4 : Int32) (h0 : Heap) (n0 : Nat) (v : Option Value) (h : Heap) (L : List Loc) : Prop := v = none ∧ Fr n0 L ∧ Keep h0 h [a1] ∧ Fld Z h a1 "com/example/rouse/rouse/shell/CommandLine$Words" "this$0" "Lcom/example/rouse/rouse/shell/CommandLine;" (.ref cl) ∧ Fld Z h a1 "com/example/rouse/rouse/shell/CommandLine$Words" "from" "I" (.int p3) ∧ Fld Z h a1 "com/example/rouse/rouse/shell/CommandLine$Words" "to" "I" (.int p4)
set_option maxRecDepth 65536 in
set_option maxHeartbeats 40000000 in
theorem rm11 (l : Launch) (Z : State) (a0 : Array Value) (hw : ∀ d ∈ tables_1, d.before a0 Z = true) (ws : List Jvm.Cond) (a1 : Addr) (cl : Addr) (p3 : Int32) (p4 : Int32) (h0 : Heap) (n0 : Nat) (Z0 : n0 ≤ h0.size) (H0 : Exa Z h0 a1 "com/example/rouse/rouse/shell/CommandLine$Words") (H1 : Fld Z h0 a1 "com/example/rouse/rouse/shell/CommandLine$Words" "this$0" "Lcom/example/rouse/rouse/shell/CommandLine;" .null) (H2 : Fld Z h0 a1 "com/example/rouse/rouse/shell/CommandLine$Words" "from" "I" (.int (0 : Int32))) (H3 : Fld Z h0 a1 "com/example/rouse/rouse/shell/CommandLine$Words" "to" "I" (.int (0 : Int32))) (H4 : Fld Z h0 a1 "java/util/AbstractList" "modCount" "I" (.int (0 : Int32))) (H5 : n0 ≤ a1) :
    own_MF l (⟨"com/example/rouse/rouse/shell/CommandLine$Words", "<init>", "(Lcom/example/rouse/rouse/shell/CommandLine;II)V"⟩ : MethodName) (Jvm.Cond.code (⟨"com/example/rouse/rouse/shell/CommandLine$Words", "<init>", "(Lcom/example/rouse/rouse/shell/CommandLine;II)V"⟩ : MethodName) prog_66_method_1_code 4 none :: ws) ({ frames := 3, cells := 0, slots := 0, locals := 36 } : Room) #[(.ref a1), (.ref cl), (.int p3), (.int p4)] Z h0 (Q11 Z a1 cl p3 p4 h0 n0) := by
  refine MetFree.of_bodySF (plainFor_of_name pn_com_example_rouse_rouse_shell_CommandLine_Words) hisR ?_
  intro p e s m args below meth c s₁ Bd hml0 hP hK
  obtain ⟨rfl, hZ, hh⟩ := hP
  have hx := Bd.exec
  have hby := Bd.bytes
  have hml : c.maxLocals = 4 := hml0
  have hown : s.vm.findClass "com/example/rouse/rouse/shell/CommandLine$Words" = some m.cls := findClass_of_methodNamed Bd.named
  have hnm := (name_of_methodNamed Bd.named Bd.method).1
  have X0 : Stand p l e ({ frames := 3, cells := 0, slots := 0, locals := 36 } : Room) s m #[(.ref a1), (.ref cl), (.int p3), (.int p4)] below meth c s₁ [] 0 0 := Stand.of_body Bd
  have e0 : s₁.heap = h0 := by rw [← hh, Bd.state]; rfl
  have N0 := Fr.nil n0
  have pre0 : ∀ t, Steps p.tables e below (s₁.setTop (mkF m 0 #[.val (.ref a1), .val (.ref cl), .val (.int p3), .val (.int p4)] [])) t → Steps p.tables e below (s₁.setTop (entryFrame m #[(.ref a1), (.ref cl), (.int p3), (.int p4)] 4)) t := fun t k => castTop (ef_11 m a1 cl p3 p4) k
  obtain ⟨T101, h101, X101, e101, W101, st101⟩ := putF X0 hx hZ hown (host := "") (Or.inl (own_w hw 92 rfl)) Via.refl e0 H1 H0 (Or.inr ⟨(own_w hw 93 rfl), rfl, hnm⟩) (own_w hw 87 rfl) (ty := (.object "com/example/rouse/rouse/shell/CommandLine")) (by decide) rfl rfl (g := (mkF m 2 #[.val (.ref a1), .val (.ref cl), .val (.int p3), .val (.int p4)] [(.ref cl), (.ref a1)])) rfl rfl (hb hby d11_2)
  have Fw101 := H1.same W101
  have N101 := Fr.snoc X101 N0 H5
  have f102 := (H0.wr W101)
  have f103 := (H4.other W101 (Or.inr (slot_ne (Or.inl (own_w hw 107 rfl)) (Or.inr (own_w hw 93 rfl)) (by decide) (t := .int) (t' := (.object "com/example/rouse/rouse/shell/CommandLine")) (by decide) (by decide))))
  have f104 := (H2.other W101 (Or.inr (slot_ne (Or.inr (own_w hw 109 rfl)) (Or.inr (own_w hw 93 rfl)) (by decide) (t := .int) (t' := (.object "com/example/rouse/rouse/shell/CommandLine")) (by decide) (by decide))))
  have f105 := (H3.other W101 (Or.inr (slot_ne (Or.inr (own_w hw 111 rfl)) (Or.inr (own_w hw 93 rfl)) (by decide) (t := .int) (t' := (.object "com/example/rouse/rouse/shell/CommandLine")) (by decide) (by decide))))
  have z107 : n0 ≤ h101.size := (Nat.le_trans Z0 (Nat.le_of_eq W101.size.symm))
  obtain ⟨_, _, ⟨T106, L106, k106, n106⟩, -, X106, ⟨Lc106, hQ106, l106, y106, z106⟩, st106⟩ := X101.specialBack hx (y := (⟨"java/util/AbstractList", "<init>", "()V"⟩ : MethodName)) rfl hown (mvT hZ (own_w hw 94 rfl)) (mvT hZ (own_w hw 95 rfl)) (mvT hZ (own_w hw 98 rfl)) (by decide) (backOf (W := 0) (rm12x16 l Z a0 hw [] a1 cl h101 n0 z107 f102 f103 H5 f104 Fw101 f105) hZ (own_w hw 98 rfl) (own_w hw 97 rfl) (by decide) (by decide)) (g := (mkF m 6 #[.val (.ref a1), .val (.ref cl), .val (.int p3), .val (.int p4)] [(.ref a1)])) rfl (by rw [hml]; rfl) (Steps.refl _) (a := a1) (argsL := []) (rest := []) (lenOf pd_14 rfl) rfl (by show 2 * 0 + _ ≤ _; exact Nat.le_of_eq rfl) (hb hby d11_6) (fun _ _ => ⟨rfl, e101, (by decide : 0 + 0 ≤ _), (by decide : 0 + 0 ≤ _)⟩)
  dsimp only [Pt.U, Pt.locs, Pt.cells, Pt.slots] at X106 l106 y106 z106 st106 hQ106
  subst l106 y106 z106
  obtain ⟨rfl, Nq106, K106, R106_1, R106_2, R106_3, R106_4⟩ := hQ106
  have N106 := Fr.app N101 Nq106
  have f108 := (f102.keep K106)
  obtain ⟨T109, h109, X109, e109, W109, st109⟩ := putF X106 hx hZ hown (host := "") (Or.inl (own_w hw 108 rfl)) Via.refl rfl R106_1 f108 (Or.inr ⟨(own_w hw 109 rfl), rfl, hnm⟩) (own_w hw 87 rfl) (ty := .int) (by decide) rfl rfl (g := (mkF m 11 #[.val (.ref a1), .val (.ref cl), .val (.int p3), .val (.int p4)] [(.int p3), (.ref a1)])) rfl rfl (hb hby d11_11)
  have Fw109 := R106_1.same W109
  have N109 := Fr.snoc X109 N106 H5
  have f110 := (R106_3.other W109 (Or.inr (slot_ne (Or.inr (own_w hw 111 rfl)) (Or.inr (own_w hw 109 rfl)) (by decide) (t := .int) (t' := .int) (by decide) (by decide))))
  have f111 := (f108.wr W109)
  obtain ⟨T112, h112, X112, e112, W112, st112⟩ := putF X109 hx hZ hown (host := "") (Or.inl (own_w hw 110 rfl)) Via.refl e109 f110 f111 (Or.inr ⟨(own_w hw 111 rfl), rfl, hnm⟩) (own_w hw 87 rfl) (ty := .int) (by decide) rfl rfl (g := (mkF m 16 #[.val (.ref a1), .val (.ref cl), .val (.int p3), .val (.int p4)] [(.int p4), (.ref a1)])) rfl rfl (hb hby d11_16)
  have Fw112 := f110.same W112
  have N112 := Fr.snoc X112 N109 H5
  have f113 := ((R106_2.other W109 (Or.inr (slot_ne (Or.inr (own_w hw 93 rfl)) (Or.inr (own_w hw 109 rfl)) (by decide) (t := (.object "com/example/rouse/rouse/shell/CommandLine")) (t' := .int) (by decide) (by decide)))).other W112 (Or.inr (slot_ne (Or.inr (own_w hw 93 rfl)) (Or.inr (own_w hw 111 rfl)) (by decide) (t := (.object "com/example/rouse/rouse/shell/CommandLine")) (t' := .int) (by decide) (by decide))))
  have f114 := (Fw109.other W112 (Or.inr (slot_ne (Or.inr (own_w hw 109 rfl)) (Or.inr (own_w hw 111 rfl)) (by decide) (t := .int) (t' := .int) (by decide) (by decide))))
  obtain ⟨fs, hr, hrun, hended, hW, hsame⟩ := X112.leave (v := none) (fun _ => rfl)
  refine ⟨_, _, pre0 _ ?_, hrun, hended, _, _, rfl, ?_, ⟨_, rfl⟩, hW, hsame.mono (by decide) (by decide)⟩
  · skip
    show Steps p.tables e below (s₁.setTop (mkF m 0 #[.val (.ref a1), .val (.ref cl), .val (.int p3), .val (.int p4)] [])) _
    refine XS.aloadN X0.here hx rfl (hb hby d11_0) rfl rfl ?_
    refine XS.aloadN X0.here hx rfl (hb hby d11_1) rfl rfl ?_
    refine st101 _ ?_
    refine XS.aloadN X101.here hx rfl (hb hby d11_5) rfl rfl ?_
    show Steps p.tables e below (T101.setTop (mkF m 6 #[.val (.ref a1), .val (.ref cl), .val (.int p3), .val (.int p4)] [(.ref a1)])) _
    refine st106.trans ?_
    show Steps p.tables e below (T106.setTop (mkF m 9 #[.val (.ref a1), .val (.ref cl), .val (.int p3), .val (.int p4)] [])) _
    refine XS.aloadN X106.here hx rfl (hb hby d11_9) rfl rfl ?_
    refine XS.iloadN X106.here hx rfl (hb hby d11_10) rfl ?_
    refine st109 _ ?_
    refine XS.aloadN X109.here hx rfl (hb hby d11_14) rfl rfl ?_
    refine XS.iloadN X109.here hx rfl (hb hby d11_15) rfl ?_
    refine st112 _ ?_
    show Steps p.tables e below (T112.setTop (mkF m 19 #[.val (.ref a1), .val (.ref cl), .val (.int p3), .val (.int p4)] [])) _
    exact X112.returnOut hx Bd.returns (hb hby d11_19) hr
  · show Q11 Z a1 cl p3 p4 h0 n0 _ T112.heap _
    rw [e112]
    exact ⟨rfl, N112, (((((Keep.refl h0 [a1]).wr W101 (Or.inl (List.mem_of_getElem? (i := 0) rfl))).trans K106 (allS (P := (fun x => x ∈ [a1] ∨ h0.size ≤ x)) (Or.inl (List.mem_of_getElem? (i := 0) rfl)) all0)).wr W109 (Or.inl (List.mem_of_getElem? (i := 0) rfl))).wr W112 (Or.inl (List.mem_of_getElem? (i := 0) rfl))), f113, f114, Fw112⟩
theorem d14_0 : decode prog_66_method_3_code 0 = .ok (.aload_n 0, 1) := by decide +kernel
theorem d14_1 : decode prog_66_method_3_code 1 = .ok (.getfield 17, 3) := by decide +kernel
theorem d14_4 : decode prog_66_method_3_code 4 = .ok (.aload_n 0, 1) := by decide +kernel
theorem d14_5 : decode prog_66_method_3_code 5 = .ok (.getfield 13, 3) := by decide +kernel
theorem d14_8 : decode prog_66_method_3_code 8 = .ok (.isub, 1) := by decide +kernel
theorem d14_9 : decode prog_66_method_3_code 9 = .ok (.ireturn, 1) := by decide +kernel
theorem ef_14x18 (m : MethodId) (ra0 : Addr) : entryFrame m #[(.ref ra0)] 1 = mkF m 0 #[.val (.ref ra0)] [] := by first | (simp [entryFrame, mkF, argsToLocals, Value.category]; done) | rfl
def Q14x18 (Z : State) (ra0 : Addr) (ui1 : Int32) (h0 : Heap) (n0 : Nat) (v : Option Value) (h : Heap) (L : List Loc) : Prop := v = some (.int (ui1 - (0 : Int32))) ∧ Fr n0 L ∧ h = h0
set_option maxRecDepth 65536 in
set_option maxHeartbeats 40000000 in
theorem rm14x18 (l : Launch) (Z : State) (a0 : Array Value) (hw : ∀ d ∈ tables_1, d.before a0 Z = true) (ws : List Jvm.Cond) (ra0 : Addr) (ui1 : Int32) (h0 : Heap) (n0 : Nat) (Z0 : n0 ≤ h0.size) (H0 : Fld Z h0 ra0 "com/example/rouse/rouse/shell/CommandLine$Words" "to" "I" (.int ui1)) (H1 : Fld Z h0 ra0 "com/example/rouse/rouse/shell/CommandLine$Words" "from" "I" (.int (0 : Int32))) :
    own_MF l (⟨"com/example/rouse/rouse/shell/CommandLine$Words", "size", "()I"⟩ : MethodName) (Jvm.Cond.code (⟨"com/example/rouse/rouse/shell/CommandLine$Words", "size", "()I"⟩ : MethodName) prog_66_method_3_code 1 (some .int) :: ws) ({ frames := 0, cells := 0, slots := 0, locals := 0 } : Room) #[(.ref ra0)] Z h0 (Q14x18 Z ra0 ui1 h0 n0) := by
  refine MetFree.of_bodySF (plainFor_of_name pn_com_example_rouse_rouse_shell_CommandLine_Words) hisR ?_
  intro p e s m args below meth c s₁ Bd hml0 hP hK
  obtain ⟨rfl, hZ, hh⟩ := hP
  have hx := Bd.exec
  have hby := Bd.bytes
  have hml : c.maxLocals = 1 := hml0
  have hown : s.vm.findClass "com/example/rouse/rouse/shell/CommandLine$Words" = some m.cls := findClass_of_methodNamed Bd.named
  have hnm := (name_of_methodNamed Bd.named Bd.method).1
  have X0 : Stand p l e ({ frames := 0, cells := 0, slots := 0, locals := 0 } : Room) s m #[(.ref ra0)] below meth c s₁ [] 0 0 := Stand.of_body Bd
  have e0 : s₁.heap = h0 := by rw [← hh, Bd.state]; rfl
  have N0 := Fr.nil n0
  have pre0 : ∀ t, Steps p.tables e below (s₁.setTop (mkF m 0 #[.val (.ref ra0)] [])) t → Steps p.tables e below (s₁.setTop (entryFrame m #[(.ref ra0)] 1)) t := fun t k => castTop (ef_14x18 m ra0) k
  obtain ⟨T101, X101, e101, st101⟩ := getF X0 hx hZ hown (host := "") (Or.inl (own_w hw 110 rfl)) Via.refl e0 H0 (g := (mkF m 1 #[.val (.ref ra0)] [(.ref ra0)])) rfl rfl (hb hby d14_1)
  obtain ⟨T102, X102, e102, st102⟩ := getF X101 hx hZ hown (host := "") (Or.inl (own_w hw 108 rfl)) Via.refl e101 H1 (g := (mkF m 5 #[.val (.ref ra0)] [(.ref ra0), (.int ui1)])) rfl rfl (hb hby d14_5)
  obtain ⟨fs, hr, hrun, hended, hW, hsame⟩ := X102.leave (v := some (.int (ui1 - (0 : Int32)))) (fun h => by rw [Bd.returns] at h; cases h)
  refine ⟨_, _, pre0 _ ?_, hrun, hended, _, _, rfl, ?_, ⟨_, rfl⟩, hW, hsame.mono (by decide) (by decide)⟩
  · skip
    show Steps p.tables e below (s₁.setTop (mkF m 0 #[.val (.ref ra0)] [])) _
    refine XS.aloadN X0.here hx rfl (hb hby d14_0) rfl rfl ?_
    refine st101 _ ?_
    refine XS.aloadN X101.here hx rfl (hb hby d14_4) rfl rfl ?_
    refine st102 _ ?_
    refine XS.isub X102.here hx rfl (hb hby d14_8) rfl ?_
    show Steps p.tables e below (T102.setTop (mkF m 9 #[.val (.ref ra0)] [(.int (ui1 - (0 : Int32)))])) _
    exact retI X102 hx Bd.returns (hb hby d14_9) hr
  · show Q14x18 Z ra0 ui1 h0 n0 _ T102.heap _
    rw [e102]
    exact ⟨rfl, N0, rfl⟩
theorem d17_0 : decode jdk_41_method_11_code 0 = .ok (.iload_n 0, 1) := by decide +kernel
theorem d17_1 : decode jdk_41_method_11_code 1 = .ok (.ifCond .lt 8, 3) := by decide +kernel
theorem d17_4 : decode jdk_41_method_11_code 4 = .ok (.iload_n 0, 1) := by decide +kernel
theorem d17_5 : decode jdk_41_method_11_code 5 = .ok (.iload_n 1, 1) := by decide +kernel
theorem d17_6 : decode jdk_41_method_11_code 6 = .ok (.if_icmp .lt 10, 3) := by decide +kernel
theorem d17_16 : decode jdk_41_method_11_code 16 = .ok (.iload_n 0, 1) := by decide +kernel
theorem d17_17 : decode jdk_41_method_11_code 17 = .ok (.ireturn, 1) := by decide +kernel
theorem ef_17x20 (m : MethodId) (pi1 : Int32) : entryFrame m #[(.int (0 : Int32)), (.int pi1), .null] 3 = mkF m 0 #[.val (.int (0 : Int32)), .val (.int pi1), .val .null] [] := by first | (simp [entryFrame, mkF, argsToLocals, Value.category]; done) | rfl
def Q17x20 (Z : State) (pi1 : Int32) (h0 : Heap) (n0 : Nat) (v : Option Value) (h : Heap) (L : List Loc) : Prop := v = some (.int (0 : Int32)) ∧ Fr n0 L ∧ h = h0
set_option maxRecDepth 65536 in
set_option maxHeartbeats 40000000 in
theorem rm17x20 (l : Launch) (Z : State) (a0 : Array Value) (hw : ∀ d ∈ tables_1, d.before a0 Z = true) (ws : List Jvm.Cond) (pi1 : Int32) (h0 : Heap) (n0 : Nat) (Z0 : n0 ≤ h0.size) (H0 : (0 : Int32) < pi1) :
    own_MF l (⟨"jdk/internal/util/Preconditions", "checkIndex", "(IILjava/util/function/BiFunction;)I"⟩ : MethodName) (Jvm.Cond.code (⟨"jdk/internal/util/Preconditions", "checkIndex", "(IILjava/util/function/BiFunction;)I"⟩ : MethodName) jdk_41_method_11_code 3 (some .int) :: ws) ({ frames := 0, cells := 0, slots := 0, locals := 0 } : Room) #[(.int (0 : Int32)), (.int pi1), .null] Z h0 (Q17x20 Z pi1 h0 n0) := by
  refine MetFree.of_bodySF (plainFor_of_name pn_jdk_internal_util_Preconditions) hisR ?_
  intro p e s m args below meth c s₁ Bd hml0 hP hK
  obtain ⟨rfl, hZ, hh⟩ := hP
  have hx := Bd.exec
  have hby := Bd.bytes
  have hml : c.maxLocals = 3 := hml0
  have hown : s.vm.findClass "jdk/internal/util/Preconditions" = some m.cls := findClass_of_methodNamed Bd.named
  have hnm := (name_of_methodNamed Bd.named Bd.method).1
  have X0 : Stand p l e ({ frames := 0, cells := 0, slots := 0, locals := 0 } : Room) s m #[(.int (0 : Int32)), (.int pi1), .null] below meth c s₁ [] 0 0 := Stand.of_body Bd
  have e0 : s₁.heap = h0 := by rw [← hh, Bd.state]; rfl
  have N0 := Fr.nil n0
  have pre0 : ∀ t, Steps p.tables e below (s₁.setTop (mkF m 0 #[.val (.int (0 : Int32)), .val (.int pi1), .val .null] [])) t → Steps p.tables e below (s₁.setTop (entryFrame m #[(.int (0 : Int32)), (.int pi1), .null] 3)) t := fun t k => castTop (ef_17x20 m pi1) k
  obtain ⟨fs, hr, hrun, hended, hW, hsame⟩ := X0.leave (v := some (.int (0 : Int32))) (fun h => by rw [Bd.returns] at h; cases h)
  refine ⟨_, _, pre0 _ ?_, hrun, hended, _, _, rfl, ?_, ⟨_, rfl⟩, hW, hsame.mono (by decide) (by decide)⟩
  · skip
    show Steps p.tables e below (s₁.setTop (mkF m 0 #[.val (.int (0 : Int32)), .val (.int pi1), .val .null] [])) _
    refine XS.iloadN X0.here hx rfl (hb hby d17_0) rfl ?_
    refine XS.ifNo X0.here hx rfl (hb hby d17_1) rfl ((if0 _ _).trans (flt (by decide : ¬ ((0 : Int32) < (0 : Int32)))).1) ?_
    refine XS.iloadN X0.here hx rfl (hb hby d17_4) rfl ?_
    refine XS.iloadN X0.here hx rfl (hb hby d17_5) rfl ?_
    refine XS.icmpYes X0.here hx rfl (pc0 := 6) (pc' := 16) rfl (hb hby d17_6) rfl (tlt (H0 : (0 : Int32) < pi1)).1 (by decide) (by decide) ?_
    refine XS.iloadN X0.here hx rfl (hb hby d17_16) rfl ?_
    show Steps p.tables e below (s₁.setTop (mkF m 17 #[.val (.int (0 : Int32)), .val (.int pi1), .val .null] [(.int (0 : Int32))])) _
    exact retI X0 hx Bd.returns (hb hby d17_17) hr
  · show Q17x20 Z pi1 h0 n0 _ s₁.heap _
    rw [e0]
    exact ⟨rfl, N0, rfl⟩
theorem d16_0 : decode jdk_31_method_17_code 0 = .ok (.iload_n 0, 1) := by decide +kernel
theorem d16_1 : decode jdk_31_method_17_code 1 = .ok (.iload_n 1, 1) := by decide +kernel
theorem d16_2 : decode jdk_31_method_17_code 2 = .ok (.aconst_null, 1) := by decide +kernel
theorem d16_3 : decode jdk_31_method_17_code 3 = .ok (.invokestatic 105, 3) := by decide +kernel
theorem d16_6 : decode jdk_31_method_17_code 6 = .ok (.ireturn, 1) := by decide +kernel
theorem pn_java_util_Objects : plainName "java/util/Objects" = true := by first | (simp [plainName, overriddenIn]; done) | decide +kernel
theorem ef_16x19 (m : MethodId) (pi1 : Int32) : entryFrame m #[(.int (0 : Int32)), (.int pi1)] 2 = mkF m 0 #[.val (.int (0 : Int32)), .val (.int pi1)] [] := by first | (simp [entryFrame, mkF, argsToLocals, Value.category]; done) | rfl
def Q16x19 (Z : State) (pi1 : Int32) (h0 : Heap) (n0 : Nat) (v : Option Value) (h : Heap) (L : List Loc) : Prop := v = some (.int (0 : Int32)) ∧ Fr n0 L ∧ h = h0
set_option maxRecDepth 65536 in
set_option maxHeartbeats 40000000 in
theorem rm16x19 (l : Launch) (Z : State) (a0 : Array Value) (hw : ∀ d ∈ tables_1, d.before a0 Z = true) (ws : List Jvm.Cond) (pi1 : Int32) (h0 : Heap) (n0 : Nat) (Z0 : n0 ≤ h0.size) (H0 : (0 : Int32) < pi1) :
    own_MF l (⟨"java/util/Objects", "checkIndex", "(II)I"⟩ : MethodName) (Jvm.Cond.code (⟨"java/util/Objects", "checkIndex", "(II)I"⟩ : MethodName) jdk_31_method_17_code 2 (some .int) :: ws) ({ frames := 1, cells := 0, slots := 0, locals := 14 } : Room) #[(.int (0 : Int32)), (.int pi1)] Z h0 (Q16x19 Z pi1 h0 n0) := by
  refine MetFree.of_bodySF (plainFor_of_name pn_java_util_Objects) hisR ?_
  intro p e s m args below meth c s₁ Bd hml0 hP hK
  obtain ⟨rfl, hZ, hh⟩ := hP
  have hx := Bd.exec
  have hby := Bd.bytes
  have hml : c.maxLocals = 2 := hml0
  have hown : s.vm.findClass "java/util/Objects" = some m.cls := findClass_of_methodNamed Bd.named
  have hnm := (name_of_methodNamed Bd.named Bd.method).1
  have X0 : Stand p l e ({ frames := 1, cells := 0, slots := 0, locals := 14 } : Room) s m #[(.int (0 : Int32)), (.int pi1)] below meth c s₁ [] 0 0 := Stand.of_body Bd
  have e0 : s₁.heap = h0 := by rw [← hh, Bd.state]; rfl
  have N0 := Fr.nil n0
  have pre0 : ∀ t, Steps p.tables e below (s₁.setTop (mkF m 0 #[.val (.int (0 : Int32)), .val (.int pi1)] [])) t → Steps p.tables e below (s₁.setTop (entryFrame m #[(.int (0 : Int32)), (.int pi1)] 2)) t := fun t k => castTop (ef_16x19 m pi1) k
  obtain ⟨_, _, ⟨T101, L101, k101, n101⟩, -, X101, ⟨Lc101, hQ101, l101, y101, z101⟩, st101⟩ := Jvm.LawKit.callS X0 hx (y := (⟨"jdk/internal/util/Preconditions", "checkIndex", "(IILjava/util/function/BiFunction;)I"⟩ : MethodName)) hown (mvT hZ (own_w hw 129 rfl)) (mvT hZ (own_w hw 130 rfl)) (mvT hZ (own_w hw 131 rfl)) (mvT hZ (own_w hw 132 rfl)) (by decide) (backOf (W := 0) (rm17x20 l Z a0 hw [] pi1 h0 n0 Z0 H0) hZ (own_w hw 132 rfl) (own_w hw 131 rfl) (by decide) (by decide)) (g := (mkF m 3 #[.val (.int (0 : Int32)), .val (.int pi1)] [.null, (.int pi1), (.int (0 : Int32))])) rfl (by rw [hml]; rfl) (argsL := [(.int (0 : Int32)), (.int pi1), .null]) (rest := []) (lenOf pd_16 rfl) rfl (by show 2 * 0 + _ ≤ _; exact Nat.le_of_eq rfl) (hb hby d16_3) (fun _ _ => ⟨rfl, e0, (by decide : 0 + 0 ≤ _), (by decide : 0 + 0 ≤ _)⟩)
  dsimp only [Pt.U, Pt.locs, Pt.cells, Pt.slots] at X101 l101 y101 z101 st101 hQ101
  subst l101 y101 z101
  obtain ⟨rfl, Nq101, Heq101⟩ := hQ101
  have N101 := Fr.app N0 Nq101
  obtain ⟨fs, hr, hrun, hended, hW, hsame⟩ := X101.leave (v := some (.int (0 : Int32))) (fun h => by rw [Bd.returns] at h; cases h)
  refine ⟨_, _, pre0 _ ?_, hrun, hended, _, _, rfl, ?_, ⟨_, rfl⟩, hW, hsame.mono (by decide) (by decide)⟩
  · skip
    show Steps p.tables e below (s₁.setTop (mkF m 0 #[.val (.int (0 : Int32)), .val (.int pi1)] [])) _
    refine XS.iloadN X0.here hx rfl (hb hby d16_0) rfl ?_
    refine XS.iloadN X0.here hx rfl (hb hby d16_1) rfl ?_
    refine XS.aconstNull X0.here hx rfl (hb hby d16_2) ?_
    refine st101 _ ?_
    show Steps p.tables e below (T101.setTop (mkF m 6 #[.val (.int (0 : Int32)), .val (.int pi1)] [(.int (0 : Int32))])) _
    exact retI X101 hx Bd.returns (hb hby d16_6) hr
  · show Q16x19 Z pi1 h0 n0 _ T101.heap _
    rw [Heq101]
    exact ⟨rfl, N101, rfl⟩
theorem d15_0 : decode prog_66_method_2_code 0 = .ok (.iload_n 1, 1) := by decide +kernel
theorem d15_1 : decode prog_66_method_2_code 1 = .ok (.aload_n 0, 1) := by decide +kernel
theorem d15_2 : decode prog_66_method_2_code 2 = .ok (.invokevirtual 20, 3) := by decide +kernel
theorem d15_5 : decode prog_66_method_2_code 5 = .ok (.invokestatic 24, 3) := by decide +kernel
theorem d15_8 : decode prog_66_method_2_code 8 = .ok (.pop, 1) := by decide +kernel
theorem d15_9 : decode prog_66_method_2_code 9 = .ok (.aload_n 0, 1) := by decide +kernel
theorem d15_10 : decode prog_66_method_2_code 10 = .ok (.getfield 13, 3) := by decide +kernel
theorem d15_13 : decode prog_66_method_2_code 13 = .ok (.iload_n 1, 1) := by decide +kernel
theorem d15_14 : decode prog_66_method_2_code 14 = .ok (.iadd, 1) := by decide +kernel
theorem d15_15 : decode prog_66_method_2_code 15 = .ok (.istore_n 2, 1) := by decide +kernel
theorem d15_16 : decode prog_66_method_2_code 16 = .ok (.aload_n 0, 1) := by decide +kernel
theorem d15_17 : decode prog_66_method_2_code 17 = .ok (.getfield 1, 3) := by decide +kernel
theorem d15_20 : decode prog_66_method_2_code 20 = .ok (.iload_n 2, 1) := by decide +kernel
theorem d15_21 : decode prog_66_method_2_code 21 = .ok (.invokevirtual 30, 3) := by decide +kernel
theorem d15_24 : decode prog_66_method_2_code 24 = .ok (.istore_n 3, 1) := by decide +kernel
theorem d15_25 : decode prog_66_method_2_code 25 = .ok (.new 36, 3) := by decide +kernel
theorem d15_28 : decode prog_66_method_2_code 28 = .ok (.dup, 1) := by decide +kernel
theorem d15_29 : decode prog_66_method_2_code 29 = .ok (.aload_n 0, 1) := by decide +kernel
theorem d15_30 : decode prog_66_method_2_code 30 = .ok (.getfield 1, 3) := by decide +kernel
theorem d15_33 : decode prog_66_method_2_code 33 = .ok (.getfield 38, 3) := by decide +kernel
theorem d15_36 : decode prog_66_method_2_code 36 = .ok (.iload_n 3, 1) := by decide +kernel
theorem d15_37 : decode prog_66_method_2_code 37 = .ok (.aload_n 0, 1) := by decide +kernel
theorem d15_38 : decode prog_66_method_2_code 38 = .ok (.getfield 1, 3) := by decide +kernel
theorem d15_41 : decode prog_66_method_2_code 41 = .ok (.iload_n 2, 1) := by decide +kernel
theorem d15_42 : decode prog_66_method_2_code 42 = .ok (.invokevirtual 42, 3) := by decide +kernel
theorem d15_45 : decode prog_66_method_2_code 45 = .ok (.iload_n 3, 1) := by decide +kernel
theorem d15_46 : decode prog_66_method_2_code 46 = .ok (.isub, 1) := by decide +kernel
theorem d15_47 : decode prog_66_method_2_code 47 = .ok (.invokespecial 45, 3) := by decide +kernel
theorem d15_50 : decode prog_66_method_2_code 50 = .ok (.areturn, 1) := by decide +kernel
theorem ef_15g00 (m : MethodId) (a1 : Addr) : entryFrame m #[(.ref a1), (.int (0 : Int32))] 4 = mkF m 0 #[.val (.ref a1), .val (.int (0 : Int32)), .unset, .unset] [] := by first | (simp [entryFrame, mkF, argsToLocals, Value.category]; done) | rfl
def Q15g00 (Z : State) (a1 : Addr) (cz : Int32) (sf : Value) (cl : Addr) (cb : Addr) (ck : ClassId) (x0 : Int32) (x1 : Int32) (wb : Addr) (wk : ClassId) (w0 : Int32) (w1 : Int32) (v3 : Int32) (v5 : Int32) (to_ : Int32) (h0 : Heap) (n0 : Nat) (v : Option Value) (h : Heap) (L : List Loc) : Prop := ∃ (x : Addr) (b : Addr) (k : ClassId), v = some (.ref x) ∧ Fr n0 L ∧ Keep h0 h [] ∧ Exa Z h x "java/lang/String" ∧ Fld Z h x "java/lang/String" "coder" "B" (.int (own_cd v3 x0)) ∧ Fld Z h x "java/lang/String" "value" "[B" (.ref b) ∧ Arv Z h b k .byte (own_bn v3 x0) (own_bs v3 x0) (.int (0 : Int32))
set_option maxRecDepth 65536 in
set_option maxHeartbeats 40000000 in
theorem rm15g00 (l : Launch) (Z : State) (a0 : Array Value) (hw : ∀ d ∈ tables_1, d.before a0 Z = true) (ws : List Jvm.Cond) (hEL : EW Z a0 own_EL) (a1 : Addr) (cz : Int32) (sf : Value) (cl : Addr) (cb : Addr) (ck : ClassId) (x0 : Int32) (x1 : Int32) (wb : Addr) (wk : ClassId) (w0 : Int32) (w1 : Int32) (v3 : Int32) (v5 : Int32) (to_ : Int32) (h0 : Heap) (n0 : Nat) (Z0 : n0 ≤ h0.size) (H0 : (0 : Int32) < (to_ - (0 : Int32))) (H1 : Sta Z h0 "java/lang/String" "COMPACT_STRINGS" "Z" (.int cz)) (H2 : ¬ (cz = (0 : Int32))) (H3 : Sta Z h0 "java/lang/StringUTF16" "$assertionsDisabled" "Z" (.int (1 : Int32))) (H4 : Sta Z h0 "java/lang/StringUTF16" "HI_BYTE_SHIFT" "I" (.int (0 : Int32))) (H5 : Sta Z h0 "java/lang/StringUTF16" "LO_BYTE_SHIFT" "I" (.int (8 : Int32))) (H6 : Sta Z h0 "jdk/internal/util/Preconditions" "SIOOBE_FORMATTER" "Ljava/util/function/BiFunction;" sf) (H7 : sf.category = 1) (H8 : Exa Z h0 a1 "com/example/rouse/rouse/shell/CommandLine$Words") (H9 : Fld Z h0 a1 "com/example/rouse/rouse/shell/CommandLine$Words" "this$0" "Lcom/example/rouse/rouse/shell/CommandLine;" (.ref cl)) (H10 : Fld Z h0 a1 "com/example/rouse/rouse/shell/CommandLine$Words" "from" "I" (.int (0 : Int32))) (H11 : Fld Z h0 a1 "com/example/rouse/rouse/shell/CommandLine$Words" "to" "I" (.int to_)) (H12 : Exa Z h0 cl "com/example/rouse/rouse/shell/CommandLine") (H13 : Fld Z h0 cl "com/example/rouse/rouse/shell/CommandLine" "characters" "[C" (.ref cb)) (H14 : Fld Z h0 cl "com/example/rouse/rouse/shell/CommandLine" "wordEnds" "[I" (.ref wb)) (H15 : Arv Z h0 cb ck .char (16 : Int32) (own_zl (.int x0) (.int x1)) (.int (0 : Int32))) (H16 : Arv Z h0 wb wk .int (16 : Int32) (own_zl (.int w0) (.int w1)) (.int (0 : Int32))) (H17 : own_chr x0) (H18 : own_chr x1) (H19 : own_01 v3) (H20 : own_01 v5) (H21 : own_we w0 = v3) (H22 : own_we w1 = (v3 + v5)) :
    MetFree l (⟨"com/example/rouse/rouse/shell/CommandLine$Words", "get", "(I)Ljava/lang/String;"⟩ : MethodName) (head1 (Jvm.Cond.code (⟨"com/example/rouse/rouse/shell/CommandLine$Words", "get", "(I)Ljava/lang/String;"⟩ : MethodName) prog_66_method_2_code 4 (some (.object "java/lang/String")) :: ws) ({ frames := 6, cells := 5, slots := 12, locals := 92 } : Room)) (fun a U => a = #[(.ref a1), (.int (0 : Int32))] ∧ Z.Warmed39 U.vm ∧ U.heap = h0 ∧ CHv Z own_EL U.vm h0) (fun _ _ _ _ _ => True) (fun _ U o U' => ∃ v L, o = .returned v ∧ Q15g00 Z a1 cz sf cl cb ck x0 x1 wb wk w0 w1 v3 v5 to_ h0 n0 v U'.heap L ∧ CHr Z own_EL U.vm U.heap U'.vm U'.heap ∧ ReturnedEndW U o U' L ({ frames := 6, cells := 5, slots := 12, locals := 92 } : Room).cells ({ frames := 6, cells := 5, slots := 12, locals := 92 } : Room).slots) := by
  refine MetFree.of_bodySF (plainFor_of_name pn_com_example_rouse_rouse_shell_CommandLine_Words) hisR ?_
  intro p e s m args below meth c s₁ Bd hml0 hP hK
  obtain ⟨rfl, hZ, hh, hH⟩ := hP
  have hx := Bd.exec
  have hby := Bd.bytes
  have hml : c.maxLocals = 4 := hml0
  have hown : s.vm.findClass "com/example/rouse/rouse/shell/CommandLine$Words" = some m.cls := findClass_of_methodNamed Bd.named
  have hnm := (name_of_methodNamed Bd.named Bd.method).1
  have X0 : Stand p l e ({ frames := 6, cells := 5, slots := 12, locals := 92 } : Room) s m #[(.ref a1), (.int (0 : Int32))] below meth c s₁ [] 0 0 := Stand.of_body Bd
  have e0 : s₁.heap = h0 := by rw [← hh, Bd.state]; rfl
  have N0 := Fr.nil n0
  have X0 : Stand p l e ({ frames := 6, cells := 5, slots := 12, locals := 92 } : Room) (s.setVm s.vm) m #[(.ref a1), (.int (0 : Int32))] below meth c s₁ [] 0 0 := X0
  have hZ : Z.Warmed39 (s.setVm s.vm).vm := hZ
  have hown : (s.setVm s.vm).vm.findClass "com/example/rouse/rouse/shell/CommandLine$Words" = some m.cls := hown
  have hS0 : s.Since s.vm 0 := State.WarmedH.since (State.WarmedH.refl s) 0
  have Cr0 : CHr Z own_EL s.vm h0 s.vm h0 := CHr.refl hH
  have pre0 : ∀ t, Steps p.tables e below (s₁.setTop (mkF m 0 #[.val (.ref a1), .val (.int (0 : Int32)), .unset, .unset] [])) t → Steps p.tables e below (s₁.setTop (entryFrame m #[(.ref a1), (.int (0 : Int32))] 4)) t := fun t k => castTop (ef_15g00 m a1) k
  obtain ⟨cq101, kq101, q101a, q101b, q101c⟩ := isOf hZ e0 H8
  obtain ⟨_, _, ⟨T101, L101, k101, n101⟩, -, X101, ⟨Lc101, hQ101, l101, y101, z101⟩, st101⟩ := X0.virtualBack hx (y := (⟨"com/example/rouse/rouse/shell/CommandLine$Words", "size", "()I"⟩ : MethodName)) (z := (⟨"com/example/rouse/rouse/shell/CommandLine$Words", "size", "()I"⟩ : MethodName)) hown (mvT hZ (own_w hw 124 rfl)) (mvT hZ (own_w hw 115 rfl)) (notFace_of_selects (args := #[]) (mvT hZ (own_w hw 117 rfl))) (mvT hZ (own_w hw 117 rfl)) (mvT hZ (own_w hw 116 rfl)) (by decide) (backOf (W := 1) (rm14x18 l Z a0 hw [] a1 to_ h0 n0 Z0 H11 H10) hZ (own_w hw 118 rfl) (own_w hw 88 rfl) (by decide) (by decide)) q101a q101c (g := (mkF m 2 #[.val (.ref a1), .val (.int (0 : Int32)), .unset, .unset] [(.ref a1), (.int (0 : Int32))])) rfl (by rw [hml]; rfl) (Steps.refl _) (argsL := []) (rest := [(.int (0 : Int32))]) (lenOf pd_15 rfl) rfl (by show 2 * 0 + _ ≤ _; exact Nat.le_of_eq rfl) (hb hby d15_2) (fun _ _ => ⟨rfl, e0, (by decide : 0 + 0 ≤ _), (by decide : 0 + 0 ≤ _)⟩)
  dsimp only [Pt.U, Pt.locs, Pt.cells, Pt.slots] at X101 l101 y101 z101 st101 hQ101
  subst l101 y101 z101
  obtain ⟨rfl, Nq101, Heq101⟩ := hQ101
  have N101 := Fr.app N0 Nq101
  obtain ⟨_, _, ⟨T102, L102, k102, n102⟩, -, X102, ⟨Lc102, hQ102, l102, y102, z102⟩, st102⟩ := Jvm.LawKit.callS X101 hx (y := (⟨"java/util/Objects", "checkIndex", "(II)I"⟩ : MethodName)) hown (mvT hZ (own_w hw 125 rfl)) (mvT hZ (own_w hw 126 rfl)) (mvT hZ (own_w hw 127 rfl)) (mvT hZ (own_w hw 128 rfl)) (by decide) (backOf (W := 0) (rm16x19 l Z a0 hw [] (to_ - (0 : Int32)) h0 n0 Z0 H0) hZ (own_w hw 128 rfl) (own_w hw 127 rfl) (by decide) (by decide)) (g := (mkF m 5 #[.val (.ref a1), .val (.int (0 : Int32)), .unset, .unset] [(.int (to_ - (0 : Int32))), (.int (0 : Int32))])) rfl (by rw [hml]; rfl) (argsL := [(.int (0 : Int32)), (.int (to_ - (0 : Int32)))]) (rest := []) (lenOf pd_17 rfl) rfl (by show 2 * 0 + _ ≤ _; exact Nat.le_of_eq rfl) (hb hby d15_5) (fun _ _ => ⟨rfl, Heq101, (by decide : 0 + 0 ≤ _), (by decide : 0 + 0 ≤ _)⟩)
  dsimp only [Pt.U, Pt.locs, Pt.cells, Pt.slots] at X102 l102 y102 z102 st102 hQ102
  subst l102 y102 z102
  obtain ⟨rfl, Nq102, Heq102⟩ := hQ102
  have N102 := Fr.app N101 Nq102
  obtain ⟨T103, X103, e103, st103⟩ := getF X102 hx hZ hown (host := "") (Or.inl (own_w hw 108 rfl)) Via.refl Heq102 H10 (g := (mkF m 10 #[.val (.ref a1), .val (.int (0 : Int32)), .unset, .unset] [(.ref a1)])) rfl rfl (hb hby d15_10)
  obtain ⟨T104, X104, e104, st104⟩ := getF X103 hx hZ hown (host := "") (Or.inl (own_w hw 92 rfl)) Via.refl e103 H9 (g := (mkF m 17 #[.val (.ref a1), .val (.int (0 : Int32)), .val (.int (0 : Int32)), .unset] [(.ref a1)])) rfl rfl (hb hby d15_17)
  obtain ⟨cq105, q105, q105'⟩ := H12.cell
  obtain ⟨_, _, ⟨T105, L105, k105, n105⟩, -, X105, ⟨Lc105, hQ105, l105, y105, z105⟩, st105⟩ := own_privNest X104 hx (y := (⟨"com/example/rouse/rouse/shell/CommandLine", "wordStart", "(I)I"⟩ : MethodName)) hown (Cond.methodLinkNest_wide hZ (own_w hw 133 rfl) :) (mvT hZ (own_w hw 134 rfl)) (mvT hZ (own_selp (by decide) (own_w hw 10 rfl) (own_w hw 135 rfl) (own_w hw 134 rfl))) (Cond.privateMethod_at (mvP hZ (own_w hw 135 rfl) (args := #[]))) (mvT hZ (own_w hw 136 rfl)) (by decide) (backOf (W := 0) (rm18k0 l Z a0 hw [] cl h0 n0 Z0) hZ (own_w hw 136 rfl) (own_w hw 11 rfl) (by decide) (by decide)) (g := (mkF m 21 #[.val (.ref a1), .val (.int (0 : Int32)), .val (.int (0 : Int32)), .unset] [(.int (0 : Int32)), (.ref cl)])) rfl (by rw [hml]; rfl) (Steps.refl _) (a := cl) (by rw [e104]; exact q105) q105' (argsL := [(.int (0 : Int32))]) (rest := []) (lenOf pd_4 rfl) rfl (by show 2 * 0 + _ ≤ _; exact Nat.le_of_eq rfl) (hb hby d15_21) (fun _ _ => ⟨rfl, e104, (by decide : 0 + 0 ≤ _), (by decide : 0 + 0 ≤ _)⟩)
  dsimp only [Pt.U, Pt.locs, Pt.cells, Pt.slots] at X105 l105 y105 z105 st105 hQ105
  subst l105 y105 z105
  obtain ⟨rfl, Nq105, Heq105⟩ := hQ105
  have N105 := Fr.app N102 Nq105
  obtain ⟨T106, h106, X106, e106, E106, A106, D106, -, st106⟩ := newO X105 hx hZ hown (own_w hw 137 rfl) (own_w hw 3 rfl) (own_w hw 2 rfl) Heq105 (g := (mkF m 25 #[.val (.ref a1), .val (.int (0 : Int32)), .val (.int (0 : Int32)), .val (.int (0 : Int32))] [])) rfl (hb hby d15_25) (by decide) (by decide)
  obtain ⟨b106, g106⟩ : ∃ z, z = h0.size := ⟨_, rfl⟩
  rw [← g106] at A106 D106 st106
  have Hc107 := CHv.ext E106 hH
  have Cr107 := Cr0.trans (CHr.ext E106 hH)
  have F108 : Fld Z h106 b106 "java/lang/String" "value" "[B" .null := D106 (Or.inr (own_w hw 5 rfl)) (ty := (.array .byte)) (by decide)
  have F109 : Fld Z h106 b106 "java/lang/String" "coder" "B" (.int (0 : Int32)) := D106 (Or.inr (own_w hw 6 rfl)) (ty := .byte) (by decide)
  have f110 := (H9.ext E106)
  obtain ⟨T111, X111, e111, st111⟩ := getF X106 hx hZ hown (host := "") (Or.inl (own_w hw 92 rfl)) Via.refl e106 f110 (g := (mkF m 30 #[.val (.ref a1), .val (.int (0 : Int32)), .val (.int (0 : Int32)), .val (.int (0 : Int32))] [(.ref a1), (.ref b106), (.ref b106)])) rfl rfl (hb hby d15_30)
  have f112 := (H13.ext E106)
  obtain ⟨T113, X113, e113, st113⟩ := getF X111 hx hZ hown (Or.inr (own_w hw 138 rfl)) Via.refl e111 f112 (g := (mkF m 33 #[.val (.ref a1), .val (.int (0 : Int32)), .val (.int (0 : Int32)), .val (.int (0 : Int32))] [(.ref cl), (.ref b106), (.ref b106)])) rfl rfl (hb hby d15_33)
  obtain ⟨T114, X114, e114, st114⟩ := getF X113 hx hZ hown (host := "") (Or.inl (own_w hw 92 rfl)) Via.refl e113 f110 (g := (mkF m 38 #[.val (.ref a1), .val (.int (0 : Int32)), .val (.int (0 : Int32)), .val (.int (0 : Int32))] [(.ref a1), (.int (0 : Int32)), (.ref cb), (.ref b106), (.ref b106)])) rfl rfl (hb hby d15_38)
  have f115 := (H14.ext E106)
  have f116 := (H16.ext E106)
  have z118 : n0 ≤ h106.size := (Nat.le_trans Z0 E106.1)
  have f119 := (H12.ext E106)
  obtain ⟨cq117, q117, q117'⟩ := f119.cell
  obtain ⟨_, _, ⟨T117, L117, k117, n117⟩, -, X117, ⟨Lc117, hQ117, l117, y117, z117⟩, st117⟩ := own_privNest X114 hx (y := (⟨"com/example/rouse/rouse/shell/CommandLine", "wordEnd", "(I)I"⟩ : MethodName)) hown (Cond.methodLinkNest_wide hZ (own_w hw 139 rfl) :) (mvT hZ (own_w hw 140 rfl)) (mvT hZ (own_selp (by decide) (own_w hw 10 rfl) (own_w hw 141 rfl) (own_w hw 140 rfl))) (Cond.privateMethod_at (mvP hZ (own_w hw 141 rfl) (args := #[]))) (mvT hZ (own_w hw 142 rfl)) (by decide) (backOf (W := 4) (rm19k0 l Z a0 hw [] cl wb wk w0 w1 v3 h106 n0 z118 f115 f116 H21) hZ (own_w hw 142 rfl) (own_w hw 11 rfl) (by decide) (by decide)) (g := (mkF m 42 #[.val (.ref a1), .val (.int (0 : Int32)), .val (.int (0 : Int32)), .val (.int (0 : Int32))] [(.int (0 : Int32)), (.ref cl), (.int (0 : Int32)), (.ref cb), (.ref b106), (.ref b106)])) rfl (by rw [hml]; rfl) (Steps.refl _) (a := cl) (by rw [e114]; exact q117) q117' (argsL := [(.int (0 : Int32))]) (rest := [(.int (0 : Int32)), (.ref cb), (.ref b106), (.ref b106)]) (lenOf pd_4 rfl) rfl (by show 2 * 0 + _ ≤ _; exact Nat.le_of_eq rfl) (hb hby d15_42) (fun _ _ => ⟨rfl, e114, (by decide : 1 + 0 ≤ _), (by decide : 4 + 0 ≤ _)⟩)
  dsimp only [Pt.U, Pt.locs, Pt.cells, Pt.slots] at X117 l117 y117 z117 st117 hQ117
  subst l117 y117 z117
  obtain ⟨rfl, Nq117, Heq117⟩ := hQ117
  have N117 := Fr.app N105 Nq117
  have pre120 : ∀ t, Steps p.tables e below (T117.setTop (mkF m 47 #[.val (.ref a1), .val (.int (0 : Int32)), .val (.int (0 : Int32)), .val (.int (0 : Int32))] [(.int (v3 - (0 : Int32))), (.int (0 : Int32)), (.ref cb), (.ref b106), (.ref b106)])) t → Steps p.tables e below (s₁.setTop (entryFrame m #[(.ref a1), (.int (0 : Int32))] 4)) t := fun t kt => by
    refine pre0 t ?_
    show Steps p.tables e below (s₁.setTop (mkF m 0 #[.val (.ref a1), .val (.int (0 : Int32)), .unset, .unset] [])) _
    refine XS.iloadN X0.here hx rfl (hb hby d15_0) rfl ?_
    refine XS.aloadN X0.here hx rfl (hb hby d15_1) rfl rfl ?_
    show Steps p.tables e below (s₁.setTop (mkF m 2 #[.val (.ref a1), .val (.int (0 : Int32)), .unset, .unset] [(.ref a1), (.int (0 : Int32))])) _
    refine st101.trans ?_
    show Steps p.tables e below (T101.setTop (mkF m 5 #[.val (.ref a1), .val (.int (0 : Int32)), .unset, .unset] [(.int (to_ - (0 : Int32))), (.int (0 : Int32))])) _
    refine st102 _ ?_
    refine XS.pop X102.here hx rfl (hb hby d15_8) rfl rfl ?_
    refine XS.aloadN X102.here hx rfl (hb hby d15_9) rfl rfl ?_
    refine st103 _ ?_
    refine XS.iloadN X103.here hx rfl (hb hby d15_13) rfl ?_
    refine XS.iadd X103.here hx rfl (hb hby d15_14) rfl ?_
    show Steps p.tables e below (T103.setTop (mkF m 15 #[.val (.ref a1), .val (.int (0 : Int32)), .unset, .unset] [(.int ((0 : Int32) + (0 : Int32)))])) _
    rw [show ((0 : Int32) + (0 : Int32)) = (0 : Int32) from by decide]
    show Steps p.tables e below (T103.setTop (mkF m 15 #[.val (.ref a1), .val (.int (0 : Int32)), .unset, .unset] [(.int (0 : Int32))])) _
    refine XS.istoreN X103.here hx rfl (hb hby d15_15) rfl (l' := #[.val (.ref a1), .val (.int (0 : Int32)), .val (.int (0 : Int32)), .unset]) rfl ?_
    refine XS.aloadN X103.here hx rfl (hb hby d15_16) rfl rfl ?_
    refine st104 _ ?_
    refine XS.iloadN X104.here hx rfl (hb hby d15_20) rfl ?_
    show Steps p.tables e below (T104.setTop (mkF m 21 #[.val (.ref a1), .val (.int (0 : Int32)), .val (.int (0 : Int32)), .unset] [(.int (0 : Int32)), (.ref cl)])) _
    refine st105.trans ?_
    show Steps p.tables e below (T105.setTop (mkF m 24 #[.val (.ref a1), .val (.int (0 : Int32)), .val (.int (0 : Int32)), .unset] [(.int (0 : Int32))])) _
    refine XS.istoreN X105.here hx rfl (hb hby d15_24) rfl (l' := #[.val (.ref a1), .val (.int (0 : Int32)), .val (.int (0 : Int32)), .val (.int (0 : Int32))]) rfl ?_
    refine st106 _ ?_
    refine XS.dup X106.here hx rfl (hb hby d15_28) rfl rfl ?_
    refine XS.aloadN X106.here hx rfl (hb hby d15_29) rfl rfl ?_
    refine st111 _ ?_
    refine st113 _ ?_
    refine XS.iloadN X113.here hx rfl (hb hby d15_36) rfl ?_
    refine XS.aloadN X113.here hx rfl (hb hby d15_37) rfl rfl ?_
    refine st114 _ ?_
    refine XS.iloadN X114.here hx rfl (hb hby d15_41) rfl ?_
    show Steps p.tables e below (T114.setTop (mkF m 42 #[.val (.ref a1), .val (.int (0 : Int32)), .val (.int (0 : Int32)), .val (.int (0 : Int32))] [(.int (0 : Int32)), (.ref cl), (.int (0 : Int32)), (.ref cb), (.ref b106), (.ref b106)])) _
    refine st117.trans ?_
    show Steps p.tables e below (T117.setTop (mkF m 45 #[.val (.ref a1), .val (.int (0 : Int32)), .val (.int (0 : Int32)), .val (.int (0 : Int32))] [(.int v3), (.int (0 : Int32)), (.ref cb), (.ref b106), (.ref b106)])) _
    refine XS.iloadN X117.here hx rfl (hb hby d15_45) rfl ?_
    refine XS.isub X117.here hx rfl (hb hby d15_46) rfl ?_
    show Steps p.tables e below (T117.setTop (mkF m 47 #[.val (.ref a1), .val (.int (0 : Int32)), .val (.int (0 : Int32)), .val (.int (0 : Int32))] [(.int (v3 - (0 : Int32))), (.int (0 : Int32)), (.ref cb), (.ref b106), (.ref b106)])) _
    exact kt
  have hw121 : (v3 - (0 : Int32)) = v3 := (own_sub0 v3).symm
  have pre121 : ∀ t, Steps p.tables e below (T117.setTop (mkF m 47 #[.val (.ref a1), .val (.int (0 : Int32)), .val (.int (0 : Int32)), .val (.int (0 : Int32))] [(.int v3), (.int (0 : Int32)), (.ref cb), (.ref b106), (.ref b106)])) t → Steps p.tables e below (s₁.setTop (entryFrame m #[(.ref a1), (.int (0 : Int32))] 4)) t := fun t kt => pre120 t (by rw [hw121]; exact kt)
  have f122 := (H1.ext E106)
  have f123 := (H3.ext E106)
  have f124 := (H4.ext E106)
  have f125 := (H5.ext E106)
  have f126 := (H15.ext E106)
  have g127 : n0 ≤ b106 := Nat.le_trans Z0 (Nat.le_of_eq g106.symm)
  have f128 := (H6.ext E106)
  obtain ⟨_, _, ⟨T129, L129, k129, n129⟩, -, X129, hS129', hgr129, ⟨Lc129, hQ129, l129, y129, z129, Cq129⟩, st129⟩ := X117.specialBackS hx (y := (⟨"java/lang/String", "<init>", "([CII)V"⟩ : MethodName)) rfl hown (mvT hZ (own_w hw 143 rfl)) (mvT hZ (own_w hw 144 rfl)) (mvT hZ (own_w hw 145 rfl)) (by decide) (backOfSH (W := 1) (rm20g l Z a0 hw [] hEL b106 cb (0 : Int32) v3 cz ck x0 x1 sf h106 n0 z118 f122 H2 f123 f124 f125 f126 A106 F108 F109 g127 H17 H18 f128 H7 (Or.inl rfl) H19) hZ (own_w hw 145 rfl) (own_w hw 2 rfl) (by decide) (by decide) hEL Hc107) (g := (mkF m 47 #[.val (.ref a1), .val (.int (0 : Int32)), .val (.int (0 : Int32)), .val (.int (0 : Int32))] [(.int v3), (.int (0 : Int32)), (.ref cb), (.ref b106), (.ref b106)])) rfl (by rw [hml]; rfl) (Steps.refl _) (a := b106) (argsL := [(.ref cb), (.int (0 : Int32)), (.int v3)]) (rest := [(.ref b106)]) (lenOf pd_18 rfl) rfl (by show 2 * 0 + _ ≤ _; exact Nat.le_of_eq rfl) (hb hby d15_47) (fun _ _ => ⟨rfl, Heq117, (by decide : 1 + 4 ≤ _), (by decide : 4 + 8 ≤ _)⟩)
  dsimp only [Pt.U, Pt.locs, Pt.cells, Pt.slots] at X129 l129 y129 z129 st129 hQ129 hS129' hgr129 Cq129
  subst l129 y129 z129
  obtain ⟨X129, hS129, hZ, hown⟩ := rebS hS0 (by rw [Heq117]; exact (Nat.le_trans (Nat.zero_le _) E106.1)) X129 hS129' hgr129 hZ hown
  have Cr129 := Cr107.trans Cq129
  have Hc129 := Cq129.1
  obtain ⟨b129, k129, rfl, Nq129, K129, R129_1, R129_2, R129_3⟩ := hQ129
  have N129 := Fr.app N117 Nq129
  have f130 := (A106.keep K129)
  obtain ⟨fs, hr, hrun, hended, hEnd⟩ := X129.leaveW hS129 (Nat.le_refl _) (v := some (.ref b106)) (fun h => by rw [Bd.returns] at h; cases h)
  refine ⟨_, _, pre121 _ ?_, hrun, hended, _, _, rfl, ?_, (show CHr Z own_EL s.vm s.heap T129.vm T129.heap from by rw [hh]; exact Cr129.trans (CHv.at X129 hZ hEL Hc129)), hEnd.1, hEnd.2.1, hEnd.2.2.1, hEnd.2.2.2.mono (by decide) (by decide)⟩
  · skip
    show Steps p.tables e below (T117.setTop (mkF m 47 #[.val (.ref a1), .val (.int (0 : Int32)), .val (.int (0 : Int32)), .val (.int (0 : Int32))] [(.int v3), (.int (0 : Int32)), (.ref cb), (.ref b106), (.ref b106)])) _
    refine st129.trans ?_
    show Steps p.tables e below (T129.setTop (mkF m 50 #[.val (.ref a1), .val (.int (0 : Int32)), .val (.int (0 : Int32)), .val (.int (0 : Int32))] [(.ref b106)])) _
    jvm_step X129.here [X129.here.top, hx, (hb hby d15_50), X129.method', Bd.returns, Value.isRef, FieldType.isReference]
    first | (intro acts; rw [hr _ acts rfl rfl rfl]) | rw [hr _ _ rfl rfl rfl]
    exact Steps.refl _
  · show Q15g00 Z a1 cz sf cl cb ck x0 x1 wb wk w0 w1 v3 v5 to_ h0 n0 _ T129.heap _
    exact ⟨b106, b129, k129, rfl, N129, (((Keep.refl h0 []).ext E106).trans K129 (allS (P := (fun x => x ∈ [] ∨ h0.size ≤ x)) (Or.inr (Nat.le_trans (Nat.le_refl _) (Nat.le_of_eq g106.symm))) all0)), f130, (by rw [← own_at0 x0 x1]; exact R129_1), R129_2, (by rw [← own_at0 x0 x1]; exact R129_3)⟩
theorem ef_14x21 (m : MethodId) (ra0 : Addr) : entryFrame m #[(.ref ra0)] 1 = mkF m 0 #[.val (.ref ra0)] [] := by first | (simp [entryFrame, mkF, argsToLocals, Value.category]; done) | rfl
def Q14x21 (Z : State) (ra0 : Addr) (h0 : Heap) (n0 : Nat) (v : Option Value) (h : Heap) (L : List Loc) : Prop := v = some (.int (2 : Int32)) ∧ Fr n0 L ∧ h = h0
set_option maxRecDepth 65536 in
set_option maxHeartbeats 40000000 in
theorem rm14x21 (l : Launch) (Z : State) (a0 : Array Value) (hw : ∀ d ∈ tables_1, d.before a0 Z = true) (ws : List Jvm.Cond) (ra0 : Addr) (h0 : Heap) (n0 : Nat) (Z0 : n0 ≤ h0.size) (H0 : Fld Z h0 ra0 "com/example/rouse/rouse/shell/CommandLine$Words" "to" "I" (.int (2 : Int32))) (H1 : Fld Z h0 ra0 "com/example/rouse/rouse/shell/CommandLine$Words" "from" "I" (.int (0 : Int32))) :
    own_MF l (⟨"com/example/rouse/rouse/shell/CommandLine$Words", "size", "()I"⟩ : MethodName) (Jvm.Cond.code (⟨"com/example/rouse/rouse/shell/CommandLine$Words", "size", "()I"⟩ : MethodName) prog_66_method_3_code 1 (some .int) :: ws) ({ frames := 0, cells := 0, slots := 0, locals := 0 } : Room) #[(.ref ra0)] Z h0 (Q14x21 Z ra0 h0 n0) := by
  refine MetFree.of_bodySF (plainFor_of_name pn_com_example_rouse_rouse_shell_CommandLine_Words) hisR ?_
  intro p e s m args below meth c s₁ Bd hml0 hP hK
  obtain ⟨rfl, hZ, hh⟩ := hP
  have hx := Bd.exec
  have hby := Bd.bytes
  have hml : c.maxLocals = 1 := hml0
  have hown : s.vm.findClass "com/example/rouse/rouse/shell/CommandLine$Words" = some m.cls := findClass_of_methodNamed Bd.named
  have hnm := (name_of_methodNamed Bd.named Bd.method).1
  have X0 : Stand p l e ({ frames := 0, cells := 0, slots := 0, locals := 0 } : Room) s m #[(.ref ra0)] below meth c s₁ [] 0 0 := Stand.of_body Bd
  have e0 : s₁.heap = h0 := by rw [← hh, Bd.state]; rfl
  have N0 := Fr.nil n0
  have pre0 : ∀ t, Steps p.tables e below (s₁.setTop (mkF m 0 #[.val (.ref ra0)] [])) t → Steps p.tables e below (s₁.setTop (entryFrame m #[(.ref ra0)] 1)) t := fun t k => castTop (ef_14x21 m ra0) k
  obtain ⟨T101, X101, e101, st101⟩ := getF X0 hx hZ hown (host := "") (Or.inl (own_w hw 110 rfl)) Via.refl e0 H0 (g := (mkF m 1 #[.val (.ref ra0)] [(.ref ra0)])) rfl rfl (hb hby d14_1)
  obtain ⟨T102, X102, e102, st102⟩ := getF X101 hx hZ hown (host := "") (Or.inl (own_w hw 108 rfl)) Via.refl e101 H1 (g := (mkF m 5 #[.val (.ref ra0)] [(.ref ra0), (.int (2 : Int32))])) rfl rfl (hb hby d14_5)
  obtain ⟨fs, hr, hrun, hended, hW, hsame⟩ := X102.leave (v := some (.int (2 : Int32))) (fun h => by rw [Bd.returns] at h; cases h)
  refine ⟨_, _, pre0 _ ?_, hrun, hended, _, _, rfl, ?_, ⟨_, rfl⟩, hW, hsame.mono (by decide) (by decide)⟩
  · skip
    show Steps p.tables e below (s₁.setTop (mkF m 0 #[.val (.ref ra0)] [])) _
    refine XS.aloadN X0.here hx rfl (hb hby d14_0) rfl rfl ?_
    refine st101 _ ?_
    refine XS.aloadN X101.here hx rfl (hb hby d14_4) rfl rfl ?_
    refine st102 _ ?_
    refine XS.isub X102.here hx rfl (hb hby d14_8) rfl ?_
    show Steps p.tables e below (T102.setTop (mkF m 9 #[.val (.ref ra0)] [(.int ((2 : Int32) - (0 : Int32)))])) _
    rw [show ((2 : Int32) - (0 : Int32)) = (2 : Int32) from by decide]
    show Steps p.tables e below (T102.setTop (mkF m 9 #[.val (.ref ra0)] [(.int (2 : Int32))])) _
    exact retI X102 hx Bd.returns (hb hby d14_9) hr
  · show Q14x21 Z ra0 h0 n0 _ T102.heap _
    rw [e102]
    exact ⟨rfl, N0, rfl⟩
theorem ef_17x23 (m : MethodId)  : entryFrame m #[(.int (1 : Int32)), (.int (2 : Int32)), .null] 3 = mkF m 0 #[.val (.int (1 : Int32)), .val (.int (2 : Int32)), .val .null] [] := by first | (simp [entryFrame, mkF, argsToLocals, Value.category]; done) | rfl
def Q17x23 (Z : State)  (h0 : Heap) (n0 : Nat) (v : Option Value) (h : Heap) (L : List Loc) : Prop := v = some (.int (1 : Int32)) ∧ Fr n0 L ∧ h = h0
set_option maxRecDepth 65536 in
set_option maxHeartbeats 40000000 in
theorem rm17x23 (l : Launch) (Z : State) (a0 : Array Value) (hw : ∀ d ∈ tables_1, d.before a0 Z = true) (ws : List Jvm.Cond)  (h0 : Heap) (n0 : Nat) (Z0 : n0 ≤ h0.size) :
    own_MF l (⟨"jdk/internal/util/Preconditions", "checkIndex", "(IILjava/util/function/BiFunction;)I"⟩ : MethodName) (Jvm.Cond.code (⟨"jdk/internal/util/Preconditions", "checkIndex", "(IILjava/util/function/BiFunction;)I"⟩ : MethodName) jdk_41_method_11_code 3 (some .int) :: ws) ({ frames := 0, cells := 0, slots := 0, locals := 0 } : Room) #[(.int (1 : Int32)), (.int (2 : Int32)), .null] Z h0 (Q17x23 Z  h0 n0) := by
  refine MetFree.of_bodySF (plainFor_of_name pn_jdk_internal_util_Preconditions) hisR ?_
  intro p e s m args below meth c s₁ Bd hml0 hP hK
  obtain ⟨rfl, hZ, hh⟩ := hP
  have hx := Bd.exec
  have hby := Bd.bytes
  have hml : c.maxLocals = 3 := hml0
  have hown : s.vm.findClass "jdk/internal/util/Preconditions" = some m.cls := findClass_of_methodNamed Bd.named
  have hnm := (name_of_methodNamed Bd.named Bd.method).1
  have X0 : Stand p l e ({ frames := 0, cells := 0, slots := 0, locals := 0 } : Room) s m #[(.int (1 : Int32)), (.int (2 : Int32)), .null] below meth c s₁ [] 0 0 := Stand.of_body Bd
  have e0 : s₁.heap = h0 := by rw [← hh, Bd.state]; rfl
  have N0 := Fr.nil n0
  have pre0 : ∀ t, Steps p.tables e below (s₁.setTop (mkF m 0 #[.val (.int (1 : Int32)), .val (.int (2 : Int32)), .val .null] [])) t → Steps p.tables e below (s₁.setTop (entryFrame m #[(.int (1 : Int32)), (.int (2 : Int32)), .null] 3)) t := fun t k => castTop (ef_17x23 m ) k
  obtain ⟨fs, hr, hrun, hended, hW, hsame⟩ := X0.leave (v := some (.int (1 : Int32))) (fun h => by rw [Bd.returns] at h; cases h)
  refine ⟨_, _, pre0 _ ?_, hrun, hended, _, _, rfl, ?_, ⟨_, rfl⟩, hW, hsame.mono (by decide) (by decide)⟩
  · skip
    show Steps p.tables e below (s₁.setTop (mkF m 0 #[.val (.int (1 : Int32)), .val (.int (2 : Int32)), .val .null] [])) _
    refine XS.iloadN X0.here hx rfl (hb hby d17_0) rfl ?_
    refine XS.ifNo X0.here hx rfl (hb hby d17_1) rfl ((if0 _ _).trans (flt (by decide : ¬ ((1 : Int32) < (0 : Int32)))).1) ?_
    refine XS.iloadN X0.here hx rfl (hb hby d17_4) rfl ?_
    refine XS.iloadN X0.here hx rfl (hb hby d17_5) rfl ?_
    refine XS.icmpYes X0.here hx rfl (pc0 := 6) (pc' := 16) rfl (hb hby d17_6) rfl (tlt (by decide : (1 : Int32) < (2 : Int32))).1 (by decide) (by decide) ?_
    refine XS.iloadN X0.here hx rfl (hb hby d17_16) rfl ?_
    show Steps p.tables e below (s₁.setTop (mkF m 17 #[.val (.int (1 : Int32)), .val (.int (2 : Int32)), .val .null] [(.int (1 : Int32))])) _
    exact retI X0 hx Bd.returns (hb hby d17_17) hr
  · show Q17x23 Z  h0 n0 _ s₁.heap _
    rw [e0]
    exact ⟨rfl, N0, rfl⟩
theorem ef_16x22 (m : MethodId)  : entryFrame m #[(.int (1 : Int32)), (.int (2 : Int32))] 2 = mkF m 0 #[.val (.int (1 : Int32)), .val (.int (2 : Int32))] [] := by first | (simp [entryFrame, mkF, argsToLocals, Value.category]; done) | rfl
def Q16x22 (Z : State)  (h0 : Heap) (n0 : Nat) (v : Option Value) (h : Heap) (L : List Loc) : Prop := v = some (.int (1 : Int32)) ∧ Fr n0 L ∧ h = h0
set_option maxRecDepth 65536 in
set_option maxHeartbeats 40000000 in
theorem rm16x22 (l : Launch) (Z : State) (a0 : Array Value) (hw : ∀ d ∈ tables_1, d.before a0 Z = true) (ws : List Jvm.Cond)  (h0 : Heap) (n0 : Nat) (Z0 : n0 ≤ h0.size) :
    own_MF l (⟨"java/util/Objects", "checkIndex", "(II)I"⟩ : MethodName) (Jvm.Cond.code (⟨"java/util/Objects", "checkIndex", "(II)I"⟩ : MethodName) jdk_31_method_17_code 2 (some .int) :: ws) ({ frames := 1, cells := 0, slots := 0, locals := 14 } : Room) #[(.int (1 : Int32)), (.int (2 : Int32))] Z h0 (Q16x22 Z  h0 n0) := by
  refine MetFree.of_bodySF (plainFor_of_name pn_java_util_Objects) hisR ?_
  intro p e s m args below meth c s₁ Bd hml0 hP hK
  obtain ⟨rfl, hZ, hh⟩ := hP
  have hx := Bd.exec
  have hby := Bd.bytes
  have hml : c.maxLocals = 2 := hml0
  have hown : s.vm.findClass "java/util/Objects" = some m.cls := findClass_of_methodNamed Bd.named
  have hnm := (name_of_methodNamed Bd.named Bd.method).1
  have X0 : Stand p l e ({ frames := 1, cells := 0, slots := 0, locals := 14 } : Room) s m #[(.int (1 : Int32)), (.int (2 : Int32))] below meth c s₁ [] 0 0 := Stand.of_body Bd
  have e0 : s₁.heap = h0 := by rw [← hh, Bd.state]; rfl
  have N0 := Fr.nil n0
  have pre0 : ∀ t, Steps p.tables e below (s₁.setTop (mkF m 0 #[.val (.int (1 : Int32)), .val (.int (2 : Int32))] [])) t → Steps p.tables e below (s₁.setTop (entryFrame m #[(.int (1 : Int32)), (.int (2 : Int32))] 2)) t := fun t k => castTop (ef_16x22 m ) k
  obtain ⟨_, _, ⟨T101, L101, k101, n101⟩, -, X101, ⟨Lc101, hQ101, l101, y101, z101⟩, st101⟩ := Jvm.LawKit.callS X0 hx (y := (⟨"jdk/internal/util/Preconditions", "checkIndex", "(IILjava/util/function/BiFunction;)I"⟩ : MethodName)) hown (mvT hZ (own_w hw 129 rfl)) (mvT hZ (own_w hw 130 rfl)) (mvT hZ (own_w hw 131 rfl)) (mvT hZ (own_w hw 132 rfl)) (by decide) (backOf (W := 0) (rm17x23 l Z a0 hw []  h0 n0 Z0) hZ (own_w hw 132 rfl) (own_w hw 131 rfl) (by decide) (by decide)) (g := (mkF m 3 #[.val (.int (1 : Int32)), .val (.int (2 : Int32))] [.null, (.int (2 : Int32)), (.int (1 : Int32))])) rfl (by rw [hml]; rfl) (argsL := [(.int (1 : Int32)), (.int (2 : Int32)), .null]) (rest := []) (lenOf pd_16 rfl) rfl (by show 2 * 0 + _ ≤ _; exact Nat.le_of_eq rfl) (hb hby d16_3) (fun _ _ => ⟨rfl, e0, (by decide : 0 + 0 ≤ _), (by decide : 0 + 0 ≤ _)⟩)
  dsimp only [Pt.U, Pt.locs, Pt.cells, Pt.slots] at X101 l101 y101 z101 st101 hQ101
  subst l101 y101 z101
  obtain ⟨rfl, Nq101, Heq101⟩ := hQ101
  have N101 := Fr.app N0 Nq101
  obtain ⟨fs, hr, hrun, hended, hW, hsame⟩ := X101.leave (v := some (.int (1 : Int32))) (fun h => by rw [Bd.returns] at h; cases h)
  refine ⟨_, _, pre0 _ ?_, hrun, hended, _, _, rfl, ?_, ⟨_, rfl⟩, hW, hsame.mono (by decide) (by decide)⟩
  · skip
    show Steps p.tables e below (s₁.setTop (mkF m 0 #[.val (.int (1 : Int32)), .val (.int (2 : Int32))] [])) _
    refine XS.iloadN X0.here hx rfl (hb hby d16_0) rfl ?_
    refine XS.iloadN X0.here hx rfl (hb hby d16_1) rfl ?_
    refine XS.aconstNull X0.here hx rfl (hb hby d16_2) ?_
    refine st101 _ ?_
    show Steps p.tables e below (T101.setTop (mkF m 6 #[.val (.int (1 : Int32)), .val (.int (2 : Int32))] [(.int (1 : Int32))])) _
    exact retI X101 hx Bd.returns (hb hby d16_6) hr
  · show Q16x22 Z  h0 n0 _ T101.heap _
    rw [Heq101]
    exact ⟨rfl, N101, rfl⟩
theorem ef_15g01 (m : MethodId) (a1 : Addr) : entryFrame m #[(.ref a1), (.int (1 : Int32))] 4 = mkF m 0 #[.val (.ref a1), .val (.int (1 : Int32)), .unset, .unset] [] := by first | (simp [entryFrame, mkF, argsToLocals, Value.category]; done) | rfl
def Q15g01 (Z : State) (a1 : Addr) (cz : Int32) (sf : Value) (cl : Addr) (cb : Addr) (ck : ClassId) (x0 : Int32) (x1 : Int32) (wb : Addr) (wk : ClassId) (w0 : Int32) (w1 : Int32) (v3 : Int32) (v5 : Int32) (h0 : Heap) (n0 : Nat) (v : Option Value) (h : Heap) (L : List Loc) : Prop := ∃ (x : Addr) (b : Addr) (k : ClassId), v = some (.ref x) ∧ Fr n0 L ∧ Keep h0 h [] ∧ Exa Z h x "java/lang/String" ∧ Fld Z h x "java/lang/String" "coder" "B" (.int (own_cd v5 (own_at v3 x0 x1))) ∧ Fld Z h x "java/lang/String" "value" "[B" (.ref b) ∧ Arv Z h b k .byte (own_bn v5 (own_at v3 x0 x1)) (own_bs v5 (own_at v3 x0 x1)) (.int (0 : Int32))
set_option maxRecDepth 65536 in
set_option maxHeartbeats 40000000 in
theorem rm15g01 (l : Launch) (Z : State) (a0 : Array Value) (hw : ∀ d ∈ tables_1, d.before a0 Z = true) (ws : List Jvm.Cond) (hEL : EW Z a0 own_EL) (a1 : Addr) (cz : Int32) (sf : Value) (cl : Addr) (cb : Addr) (ck : ClassId) (x0 : Int32) (x1 : Int32) (wb : Addr) (wk : ClassId) (w0 : Int32) (w1 : Int32) (v3 : Int32) (v5 : Int32) (h0 : Heap) (n0 : Nat) (Z0 : n0 ≤ h0.size) (H0 : Sta Z h0 "java/lang/String" "COMPACT_STRINGS" "Z" (.int cz)) (H1 : ¬ (cz = (0 : Int32))) (H2 : Sta Z h0 "java/lang/StringUTF16" "$assertionsDisabled" "Z" (.int (1 : Int32))) (H3 : Sta Z h0 "java/lang/StringUTF16" "HI_BYTE_SHIFT" "I" (.int (0 : Int32))) (H4 : Sta Z h0 "java/lang/StringUTF16" "LO_BYTE_SHIFT" "I" (.int (8 : Int32))) (H5 : Sta Z h0 "jdk/internal/util/Preconditions" "SIOOBE_FORMATTER" "Ljava/util/function/BiFunction;" sf) (H6 : sf.category = 1) (H7 : Exa Z h0 a1 "com/example/rouse/rouse/shell/CommandLine$Words") (H8 : Fld Z h0 a1 "com/example/rouse/rouse/shell/CommandLine$Words" "this$0" "Lcom/example/rouse/rouse/shell/CommandLine;" (.ref cl)) (H9 : Fld Z h0 a1 "com/example/rouse/rouse/shell/CommandLine$Words" "from" "I" (.int (0 : Int32))) (H10 : Fld Z h0 a1 "com/example/rouse/rouse/shell/CommandLine$Words" "to" "I" (.int (2 : Int32))) (H11 : Exa Z h0 cl "com/example/rouse/rouse/shell/CommandLine") (H12 : Fld Z h0 cl "com/example/rouse/rouse/shell/CommandLine" "characters" "[C" (.ref cb)) (H13 : Fld Z h0 cl "com/example/rouse/rouse/shell/CommandLine" "wordEnds" "[I" (.ref wb)) (H14 : Arv Z h0 cb ck .char (16 : Int32) (own_zl (.int x0) (.int x1)) (.int (0 : Int32))) (H15 : Arv Z h0 wb wk .int (16 : Int32) (own_zl (.int w0) (.int w1)) (.int (0 : Int32))) (H16 : own_chr x0) (H17 : own_chr x1) (H18 : own_01 v3) (H19 : own_01 v5) (H20 : own_we w0 = v3) (H21 : own_we w1 = (v3 + v5)) :
    MetFree l (⟨"com/example/rouse/rouse/shell/CommandLine$Words", "get", "(I)Ljava/lang/String;"⟩ : MethodName) (head1 (Jvm.Cond.code (⟨"com/example/rouse/rouse/shell/CommandLine$Words", "get", "(I)Ljava/lang/String;"⟩ : MethodName) prog_66_method_2_code 4 (some (.object "java/lang/String")) :: ws) ({ frames := 6, cells := 5, slots := 12, locals := 92 } : Room)) (fun a U => a = #[(.ref a1), (.int (1 : Int32))] ∧ Z.Warmed39 U.vm ∧ U.heap = h0 ∧ CHv Z own_EL U.vm h0) (fun _ _ _ _ _ => True) (fun _ U o U' => ∃ v L, o = .returned v ∧ Q15g01 Z a1 cz sf cl cb ck x0 x1 wb wk w0 w1 v3 v5 h0 n0 v U'.heap L ∧ CHr Z own_EL U.vm U.heap U'.vm U'.heap ∧ ReturnedEndW U o U' L ({ frames := 6, cells := 5, slots := 12, locals := 92 } : Room).cells ({ frames := 6, cells := 5, slots := 12, locals := 92 } : Room).slots) := by
  refine MetFree.of_bodySF (plainFor_of_name pn_com_example_rouse_rouse_shell_CommandLine_Words) hisR ?_
  intro p e s m args below meth c s₁ Bd hml0 hP hK
  obtain ⟨rfl, hZ, hh, hH⟩ := hP
  have hx := Bd.exec
  have hby := Bd.bytes
  have hml : c.maxLocals = 4 := hml0
  have hown : s.vm.findClass "com/example/rouse/rouse/shell/CommandLine$Words" = some m.cls := findClass_of_methodNamed Bd.named
  have hnm := (name_of_methodNamed Bd.named Bd.method).1
  have X0 : Stand p l e ({ frames := 6, cells := 5, slots := 12, locals := 92 } : Room) s m #[(.ref a1), (.int (1 : Int32))] below meth c s₁ [] 0 0 := Stand.of_body Bd
  have e0 : s₁.heap = h0 := by rw [← hh, Bd.state]; rfl
  have N0 := Fr.nil n0
  have X0 : Stand p l e ({ frames := 6, cells := 5, slots := 12, locals := 92 } : Room) (s.setVm s.vm) m #[(.ref a1), (.int (1 : Int32))] below meth c s₁ [] 0 0 := X0
  have hZ : Z.Warmed39 (s.setVm s.vm).vm := hZ
  have hown : (s.setVm s.vm).vm.findClass "com/example/rouse/rouse/shell/CommandLine$Words" = some m.cls := hown
  have hS0 : s.Since s.vm 0 := State.WarmedH.since (State.WarmedH.refl s) 0
  have Cr0 : CHr Z own_EL s.vm h0 s.vm h0 := CHr.refl hH
  have pre0 : ∀ t, Steps p.tables e below (s₁.setTop (mkF m 0 #[.val (.ref a1), .val (.int (1 : Int32)), .unset, .unset] [])) t → Steps p.tables e below (s₁.setTop (entryFrame m #[(.ref a1), (.int (1 : Int32))] 4)) t := fun t k => castTop (ef_15g01 m a1) k
  obtain ⟨cq101, kq101, q101a, q101b, q101c⟩ := isOf hZ e0 H7
  obtain ⟨_, _, ⟨T101, L101, k101, n101⟩, -, X101, ⟨Lc101, hQ101, l101, y101, z101⟩, st101⟩ := X0.virtualBack hx (y := (⟨"com/example/rouse/rouse/shell/CommandLine$Words", "size", "()I"⟩ : MethodName)) (z := (⟨"com/example/rouse/rouse/shell/CommandLine$Words", "size", "()I"⟩ : MethodName)) hown (mvT hZ (own_w hw 124 rfl)) (mvT hZ (own_w hw 115 rfl)) (notFace_of_selects (args := #[]) (mvT hZ (own_w hw 117 rfl))) (mvT hZ (own_w hw 117 rfl)) (mvT hZ (own_w hw 116 rfl)) (by decide) (backOf (W := 1) (rm14x21 l Z a0 hw [] a1 h0 n0 Z0 H10 H9) hZ (own_w hw 118 rfl) (own_w hw 88 rfl) (by decide) (by decide)) q101a q101c (g := (mkF m 2 #[.val (.ref a1), .val (.int (1 : Int32)), .unset, .unset] [(.ref a1), (.int (1 : Int32))])) rfl (by rw [hml]; rfl) (Steps.refl _) (argsL := []) (rest := [(.int (1 : Int32))]) (lenOf pd_15 rfl) rfl (by show 2 * 0 + _ ≤ _; exact Nat.le_of_eq rfl) (hb hby d15_2) (fun _ _ => ⟨rfl, e0, (by decide : 0 + 0 ≤ _), (by decide : 0 + 0 ≤ _)⟩)
  dsimp only [Pt.U, Pt.locs, Pt.cells, Pt.slots] at X101 l101 y101 z101 st101 hQ101
  subst l101 y101 z101
  obtain ⟨rfl, Nq101, Heq101⟩ := hQ101
  have N101 := Fr.app N0 Nq101
  obtain ⟨_, _, ⟨T102, L102, k102, n102⟩, -, X102, ⟨Lc102, hQ102, l102, y102, z102⟩, st102⟩ := Jvm.LawKit.callS X101 hx (y := (⟨"java/util/Objects", "checkIndex", "(II)I"⟩ : MethodName)) hown (mvT hZ (own_w hw 125 rfl)) (mvT hZ (own_w hw 126 rfl)) (mvT hZ (own_w hw 127 rfl)) (mvT hZ (own_w hw 128 rfl)) (by decide) (backOf (W := 0) (rm16x22 l Z a0 hw []  h0 n0 Z0) hZ (own_w hw 128 rfl) (own_w hw 127 rfl) (by decide) (by decide)) (g := (mkF m 5 #[.val (.ref a1), .val (.int (1 : Int32)), .unset, .unset] [(.int (2 : Int32)), (.int (1 : Int32))])) rfl (by rw [hml]; rfl) (argsL := [(.int (1 : Int32)), (.int (2 : Int32))]) (rest := []) (lenOf pd_17 rfl) rfl (by show 2 * 0 + _ ≤ _; exact Nat.le_of_eq rfl) (hb hby d15_5) (fun _ _ => ⟨rfl, Heq101, (by decide : 0 + 0 ≤ _), (by decide : 0 + 0 ≤ _)⟩)
  dsimp only [Pt.U, Pt.locs, Pt.cells, Pt.slots] at X102 l102 y102 z102 st102 hQ102
  subst l102 y102 z102
  obtain ⟨rfl, Nq102, Heq102⟩ := hQ102
  have N102 := Fr.app N101 Nq102
  obtain ⟨T103, X103, e103, st103⟩ := getF X102 hx hZ hown (host := "") (Or.inl (own_w hw 108 rfl)) Via.refl Heq102 H9 (g := (mkF m 10 #[.val (.ref a1), .val (.int (1 : Int32)), .unset, .unset] [(.ref a1)])) rfl rfl (hb hby d15_10)
  obtain ⟨T104, X104, e104, st104⟩ := getF X103 hx hZ hown (host := "") (Or.inl (own_w hw 92 rfl)) Via.refl e103 H8 (g := (mkF m 17 #[.val (.ref a1), .val (.int (1 : Int32)), .val (.int (1 : Int32)), .unset] [(.ref a1)])) rfl rfl (hb hby d15_17)
  obtain ⟨cq105, q105, q105'⟩ := H11.cell
  obtain ⟨_, _, ⟨T105, L105, k105, n105⟩, -, X105, ⟨Lc105, hQ105, l105, y105, z105⟩, st105⟩ := own_privNest X104 hx (y := (⟨"com/example/rouse/rouse/shell/CommandLine", "wordStart", "(I)I"⟩ : MethodName)) hown (Cond.methodLinkNest_wide hZ (own_w hw 133 rfl) :) (mvT hZ (own_w hw 134 rfl)) (mvT hZ (own_selp (by decide) (own_w hw 10 rfl) (own_w hw 135 rfl) (own_w hw 134 rfl))) (Cond.privateMethod_at (mvP hZ (own_w hw 135 rfl) (args := #[]))) (mvT hZ (own_w hw 136 rfl)) (by decide) (backOf (W := 0) (rm18k1 l Z a0 hw [] cl wb wk w0 w1 v3 h0 n0 Z0 H13 H15 H20 H11) hZ (own_w hw 136 rfl) (own_w hw 11 rfl) (by decide) (by decide)) (g := (mkF m 21 #[.val (.ref a1), .val (.int (1 : Int32)), .val (.int (1 : Int32)), .unset] [(.int (1 : Int32)), (.ref cl)])) rfl (by rw [hml]; rfl) (Steps.refl _) (a := cl) (by rw [e104]; exact q105) q105' (argsL := [(.int (1 : Int32))]) (rest := []) (lenOf pd_4 rfl) rfl (by show 2 * 0 + _ ≤ _; exact Nat.le_of_eq rfl) (hb hby d15_21) (fun _ _ => ⟨rfl, e104, (by decide : 0 + 0 ≤ _), (by decide : 0 + 0 ≤ _)⟩)
  dsimp only [Pt.U, Pt.locs, Pt.cells, Pt.slots] at X105 l105 y105 z105 st105 hQ105
  subst l105 y105 z105
  obtain ⟨rfl, Nq105, Heq105⟩ := hQ105
  have N105 := Fr.app N102 Nq105
  obtain ⟨T106, h106, X106, e106, E106, A106, D106, -, st106⟩ := newO X105 hx hZ hown (own_w hw 137 rfl) (own_w hw 3 rfl) (own_w hw 2 rfl) Heq105 (g := (mkF m 25 #[.val (.ref a1), .val (.int (1 : Int32)), .val (.int (1 : Int32)), .val (.int v3)] [])) rfl (hb hby d15_25) (by decide) (by decide)
  obtain ⟨b106, g106⟩ : ∃ z, z = h0.size := ⟨_, rfl⟩
  rw [← g106] at A106 D106 st106
  have Hc107 := CHv.ext E106 hH
  have Cr107 := Cr0.trans (CHr.ext E106 hH)
  have F108 : Fld Z h106 b106 "java/lang/String" "value" "[B" .null := D106 (Or.inr (own_w hw 5 rfl)) (ty := (.array .byte)) (by decide)
  have F109 : Fld Z h106 b106 "java/lang/String" "coder" "B" (.int (0 : Int32)) := D106 (Or.inr (own_w hw 6 rfl)) (ty := .byte) (by decide)
  have f110 := (H8.ext E106)
  obtain ⟨T111, X111, e111, st111⟩ := getF X106 hx hZ hown (host := "") (Or.inl (own_w hw 92 rfl)) Via.refl e106 f110 (g := (mkF m 30 #[.val (.ref a1), .val (.int (1 : Int32)), .val (.int (1 : Int32)), .val (.int v3)] [(.ref a1), (.ref b106), (.ref b106)])) rfl rfl (hb hby d15_30)
  have f112 := (H12.ext E106)
  obtain ⟨T113, X113, e113, st113⟩ := getF X111 hx hZ hown (Or.inr (own_w hw 138 rfl)) Via.refl e111 f112 (g := (mkF m 33 #[.val (.ref a1), .val (.int (1 : Int32)), .val (.int (1 : Int32)), .val (.int v3)] [(.ref cl), (.ref b106), (.ref b106)])) rfl rfl (hb hby d15_33)
  obtain ⟨T114, X114, e114, st114⟩ := getF X113 hx hZ hown (host := "") (Or.inl (own_w hw 92 rfl)) Via.refl e113 f110 (g := (mkF m 38 #[.val (.ref a1), .val (.int (1 : Int32)), .val (.int (1 : Int32)), .val (.int v3)] [(.ref a1), (.int v3), (.ref cb), (.ref b106), (.ref b106)])) rfl rfl (hb hby d15_38)
  have f115 := (H13.ext E106)
  have f116 := (H15.ext E106)
  have z118 : n0 ≤ h106.size := (Nat.le_trans Z0 E106.1)
  have f119 := (H11.ext E106)
  obtain ⟨cq117, q117, q117'⟩ := f119.cell
  obtain ⟨_, _, ⟨T117, L117, k117, n117⟩, -, X117, ⟨Lc117, hQ117, l117, y117, z117⟩, st117⟩ := own_privNest X114 hx (y := (⟨"com/example/rouse/rouse/shell/CommandLine", "wordEnd", "(I)I"⟩ : MethodName)) hown (Cond.methodLinkNest_wide hZ (own_w hw 139 rfl) :) (mvT hZ (own_w hw 140 rfl)) (mvT hZ (own_selp (by decide) (own_w hw 10 rfl) (own_w hw 141 rfl) (own_w hw 140 rfl))) (Cond.privateMethod_at (mvP hZ (own_w hw 141 rfl) (args := #[]))) (mvT hZ (own_w hw 142 rfl)) (by decide) (backOf (W := 4) (rm19k1 l Z a0 hw [] cl wb wk w0 w1 (v3 + v5) h106 n0 z118 f115 f116 H21) hZ (own_w hw 142 rfl) (own_w hw 11 rfl) (by decide) (by decide)) (g := (mkF m 42 #[.val (.ref a1), .val (.int (1 : Int32)), .val (.int (1 : Int32)), .val (.int v3)] [(.int (1 : Int32)), (.ref cl), (.int v3), (.ref cb), (.ref b106), (.ref b106)])) rfl (by rw [hml]; rfl) (Steps.refl _) (a := cl) (by rw [e114]; exact q117) q117' (argsL := [(.int (1 : Int32))]) (rest := [(.int v3), (.ref cb), (.ref b106), (.ref b106)]) (lenOf pd_4 rfl) rfl (by show 2 * 0 + _ ≤ _; exact Nat.le_of_eq rfl) (hb hby d15_42) (fun _ _ => ⟨rfl, e114, (by decide : 1 + 0 ≤ _), (by decide : 4 + 0 ≤ _)⟩)
  dsimp only [Pt.U, Pt.locs, Pt.cells, Pt.slots] at X117 l117 y117 z117 st117 hQ117
  subst l117 y117 z117
  obtain ⟨rfl, Nq117, Heq117⟩ := hQ117
  have N117 := Fr.app N105 Nq117
  have pre120 : ∀ t, Steps p.tables e below (T117.setTop (mkF m 47 #[.val (.ref a1), .val (.int (1 : Int32)), .val (.int (1 : Int32)), .val (.int v3)] [(.int ((v3 + v5) - v3)), (.int v3), (.ref cb), (.ref b106), (.ref b106)])) t → Steps p.tables e below (s₁.setTop (entryFrame m #[(.ref a1), (.int (1 : Int32))] 4)) t := fun t kt => by
    refine pre0 t ?_
    show Steps p.tables e below (s₁.setTop (mkF m 0 #[.val (.ref a1), .val (.int (1 : Int32)), .unset, .unset] [])) _
    refine XS.iloadN X0.here hx rfl (hb hby d15_0) rfl ?_
    refine XS.aloadN X0.here hx rfl (hb hby d15_1) rfl rfl ?_
    show Steps p.tables e below (s₁.setTop (mkF m 2 #[.val (.ref a1), .val (.int (1 : Int32)), .unset, .unset] [(.ref a1), (.int (1 : Int32))])) _
    refine st101.trans ?_
    show Steps p.tables e below (T101.setTop (mkF m 5 #[.val (.ref a1), .val (.int (1 : Int32)), .unset, .unset] [(.int (2 : Int32)), (.int (1 : Int32))])) _
    refine st102 _ ?_
    refine XS.pop X102.here hx rfl (hb hby d15_8) rfl rfl ?_
    refine XS.aloadN X102.here hx rfl (hb hby d15_9) rfl rfl ?_
    refine st103 _ ?_
    refine XS.iloadN X103.here hx rfl (hb hby d15_13) rfl ?_
    refine XS.iadd X103.here hx rfl (hb hby d15_14) rfl ?_
    show Steps p.tables e below (T103.setTop (mkF m 15 #[.val (.ref a1), .val (.int (1 : Int32)), .unset, .unset] [(.int ((0 : Int32) + (1 : Int32)))])) _
    rw [show ((0 : Int32) + (1 : Int32)) = (1 : Int32) from by decide]
    show Steps p.tables e below (T103.setTop (mkF m 15 #[.val (.ref a1), .val (.int (1 : Int32)), .unset, .unset] [(.int (1 : Int32))])) _
    refine XS.istoreN X103.here hx rfl (hb hby d15_15) rfl (l' := #[.val (.ref a1), .val (.int (1 : Int32)), .val (.int (1 : Int32)), .unset]) rfl ?_
    refine XS.aloadN X103.here hx rfl (hb hby d15_16) rfl rfl ?_
    refine st104 _ ?_
    refine XS.iloadN X104.here hx rfl (hb hby d15_20) rfl ?_
    show Steps p.tables e below (T104.setTop (mkF m 21 #[.val (.ref a1), .val (.int (1 : Int32)), .val (.int (1 : Int32)), .unset] [(.int (1 : Int32)), (.ref cl)])) _
    refine st105.trans ?_
    show Steps p.tables e below (T105.setTop (mkF m 24 #[.val (.ref a1), .val (.int (1 : Int32)), .val (.int (1 : Int32)), .unset] [(.int v3)])) _
    refine XS.istoreN X105.here hx rfl (hb hby d15_24) rfl (l' := #[.val (.ref a1), .val (.int (1 : Int32)), .val (.int (1 : Int32)), .val (.int v3)]) rfl ?_
    refine st106 _ ?_
    refine XS.dup X106.here hx rfl (hb hby d15_28) rfl rfl ?_
    refine XS.aloadN X106.here hx rfl (hb hby d15_29) rfl rfl ?_
    refine st111 _ ?_
    refine st113 _ ?_
    refine XS.iloadN X113.here hx rfl (hb hby d15_36) rfl ?_
    refine XS.aloadN X113.here hx rfl (hb hby d15_37) rfl rfl ?_
    refine st114 _ ?_
    refine XS.iloadN X114.here hx rfl (hb hby d15_41) rfl ?_
    show Steps p.tables e below (T114.setTop (mkF m 42 #[.val (.ref a1), .val (.int (1 : Int32)), .val (.int (1 : Int32)), .val (.int v3)] [(.int (1 : Int32)), (.ref cl), (.int v3), (.ref cb), (.ref b106), (.ref b106)])) _
    refine st117.trans ?_
    show Steps p.tables e below (T117.setTop (mkF m 45 #[.val (.ref a1), .val (.int (1 : Int32)), .val (.int (1 : Int32)), .val (.int v3)] [(.int (v3 + v5)), (.int v3), (.ref cb), (.ref b106), (.ref b106)])) _
    refine XS.iloadN X117.here hx rfl (hb hby d15_45) rfl ?_
    refine XS.isub X117.here hx rfl (hb hby d15_46) rfl ?_
    show Steps p.tables e below (T117.setTop (mkF m 47 #[.val (.ref a1), .val (.int (1 : Int32)), .val (.int (1 : Int32)), .val (.int v3)] [(.int ((v3 + v5) - v3)), (.int v3), (.ref cb), (.ref b106), (.ref b106)])) _
    exact kt
  have hw121 : ((v3 + v5) - v3) = v5 := (own_sub v3 v5).symm
  have pre121 : ∀ t, Steps p.tables e below (T117.setTop (mkF m 47 #[.val (.ref a1), .val (.int (1 : Int32)), .val (.int (1 : Int32)), .val (.int v3)] [(.int v5), (.int v3), (.ref cb), (.ref b106), (.ref b106)])) t → Steps p.tables e below (s₁.setTop (entryFrame m #[(.ref a1), (.int (1 : Int32))] 4)) t := fun t kt => pre120 t (by rw [hw121]; exact kt)
  have f122 := (H0.ext E106)
  have f123 := (H2.ext E106)
  have f124 := (H3.ext E106)
  have f125 := (H4.ext E106)
  have f126 := (H14.ext E106)
  have g127 : n0 ≤ b106 := Nat.le_trans Z0 (Nat.le_of_eq g106.symm)
  have f128 := (H5.ext E106)
  obtain ⟨_, _, ⟨T129, L129, k129, n129⟩, -, X129, hS129', hgr129, ⟨Lc129, hQ129, l129, y129, z129, Cq129⟩, st129⟩ := X117.specialBackS hx (y := (⟨"java/lang/String", "<init>", "([CII)V"⟩ : MethodName)) rfl hown (mvT hZ (own_w hw 143 rfl)) (mvT hZ (own_w hw 144 rfl)) (mvT hZ (own_w hw 145 rfl)) (by decide) (backOfSH (W := 1) (rm20g l Z a0 hw [] hEL b106 cb v3 v5 cz ck x0 x1 sf h106 n0 z118 f122 H1 f123 f124 f125 f126 A106 F108 F109 g127 H16 H17 f128 H6 H18 H19) hZ (own_w hw 145 rfl) (own_w hw 2 rfl) (by decide) (by decide) hEL Hc107) (g := (mkF m 47 #[.val (.ref a1), .val (.int (1 : Int32)), .val (.int (1 : Int32)), .val (.int v3)] [(.int v5), (.int v3), (.ref cb), (.ref b106), (.ref b106)])) rfl (by rw [hml]; rfl) (Steps.refl _) (a := b106) (argsL := [(.ref cb), (.int v3), (.int v5)]) (rest := [(.ref b106)]) (lenOf pd_18 rfl) rfl (by show 2 * 0 + _ ≤ _; exact Nat.le_of_eq rfl) (hb hby d15_47) (fun _ _ => ⟨rfl, Heq117, (by decide : 1 + 4 ≤ _), (by decide : 4 + 8 ≤ _)⟩)
  dsimp only [Pt.U, Pt.locs, Pt.cells, Pt.slots] at X129 l129 y129 z129 st129 hQ129 hS129' hgr129 Cq129
  subst l129 y129 z129
  obtain ⟨X129, hS129, hZ, hown⟩ := rebS hS0 (by rw [Heq117]; exact (Nat.le_trans (Nat.zero_le _) E106.1)) X129 hS129' hgr129 hZ hown
  have Cr129 := Cr107.trans Cq129
  have Hc129 := Cq129.1
  obtain ⟨b129, k129, rfl, Nq129, K129, R129_1, R129_2, R129_3⟩ := hQ129
  have N129 := Fr.app N117 Nq129
  have f130 := (A106.keep K129)
  obtain ⟨fs, hr, hrun, hended, hEnd⟩ := X129.leaveW hS129 (Nat.le_refl _) (v := some (.ref b106)) (fun h => by rw [Bd.returns] at h; cases h)
  refine ⟨_, _, pre121 _ ?_, hrun, hended, _, _, rfl, ?_, (show CHr Z own_EL s.vm s.heap T129.vm T129.heap from by rw [hh]; exact Cr129.trans (CHv.at X129 hZ hEL Hc129)), hEnd.1, hEnd.2.1, hEnd.2.2.1, hEnd.2.2.2.mono (by decide) (by decide)⟩
  · skip
    show Steps p.tables e below (T117.setTop (mkF m 47 #[.val (.ref a1), .val (.int (1 : Int32)), .val (.int (1 : Int32)), .val (.int v3)] [(.int v5), (.int v3), (.ref cb), (.ref b106), (.ref b106)])) _
    refine st129.trans ?_
    show Steps p.tables e below (T129.setTop (mkF m 50 #[.val (.ref a1), .val (.int (1 : Int32)), .val (.int (1 : Int32)), .val (.int v3)] [(.ref b106)])) _
    jvm_step X129.here [X129.here.top, hx, (hb hby d15_50), X129.method', Bd.returns, Value.isRef, FieldType.isReference]
    first | (intro acts; rw [hr _ acts rfl rfl rfl]) | rw [hr _ _ rfl rfl rfl]
    exact Steps.refl _
  · show Q15g01 Z a1 cz sf cl cb ck x0 x1 wb wk w0 w1 v3 v5 h0 n0 _ T129.heap _
    exact ⟨b106, b129, k129, rfl, N129, (((Keep.refl h0 []).ext E106).trans K129 (allS (P := (fun x => x ∈ [] ∨ h0.size ≤ x)) (Or.inr (Nat.le_trans (Nat.le_refl _) (Nat.le_of_eq g106.symm))) all0)), f130, R129_1, R129_2, R129_3⟩
theorem ef_14x24 (m : MethodId) (ra0 : Addr) : entryFrame m #[(.ref ra0)] 1 = mkF m 0 #[.val (.ref ra0)] [] := by first | (simp [entryFrame, mkF, argsToLocals, Value.category]; done) | rfl
def Q14x24 (Z : State) (ra0 : Addr) (h0 : Heap) (n0 : Nat) (v : Option Value) (h : Heap) (L : List Loc) : Prop := v = some (.int (1 : Int32)) ∧ Fr n0 L ∧ h = h0
set_option maxRecDepth 65536 in
set_option maxHeartbeats 40000000 in
theorem rm14x24 (l : Launch) (Z : State) (a0 : Array Value) (hw : ∀ d ∈ tables_1, d.before a0 Z = true) (ws : List Jvm.Cond) (ra0 : Addr) (h0 : Heap) (n0 : Nat) (Z0 : n0 ≤ h0.size) (H0 : Fld Z h0 ra0 "com/example/rouse/rouse/shell/CommandLine$Words" "to" "I" (.int (2 : Int32))) (H1 : Fld Z h0 ra0 "com/example/rouse/rouse/shell/CommandLine$Words" "from" "I" (.int (1 : Int32))) :
    own_MF l (⟨"com/example/rouse/rouse/shell/CommandLine$Words", "size", "()I"⟩ : MethodName) (Jvm.Cond.code (⟨"com/example/rouse/rouse/shell/CommandLine$Words", "size", "()I"⟩ : MethodName) prog_66_method_3_code 1 (some .int) :: ws) ({ frames := 0, cells := 0, slots := 0, locals := 0 } : Room) #[(.ref ra0)] Z h0 (Q14x24 Z ra0 h0 n0) := by
  refine MetFree.of_bodySF (plainFor_of_name pn_com_example_rouse_rouse_shell_CommandLine_Words) hisR ?_
  intro p e s m args below meth c s₁ Bd hml0 hP hK
  obtain ⟨rfl, hZ, hh⟩ := hP
  have hx := Bd.exec
  have hby := Bd.bytes
  have hml : c.maxLocals = 1 := hml0
  have hown : s.vm.findClass "com/example/rouse/rouse/shell/CommandLine$Words" = some m.cls := findClass_of_methodNamed Bd.named
  have hnm := (name_of_methodNamed Bd.named Bd.method).1
  have X0 : Stand p l e ({ frames := 0, cells := 0, slots := 0, locals := 0 } : Room) s m #[(.ref ra0)] below meth c s₁ [] 0 0 := Stand.of_body Bd
  have e0 : s₁.heap = h0 := by rw [← hh, Bd.state]; rfl
  have N0 := Fr.nil n0
  have pre0 : ∀ t, Steps p.tables e below (s₁.setTop (mkF m 0 #[.val (.ref ra0)] [])) t → Steps p.tables e below (s₁.setTop (entryFrame m #[(.ref ra0)] 1)) t := fun t k => castTop (ef_14x24 m ra0) k
  obtain ⟨T101, X101, e101, st101⟩ := getF X0 hx hZ hown (host := "") (Or.inl (own_w hw 110 rfl)) Via.refl e0 H0 (g := (mkF m 1 #[.val (.ref ra0)] [(.ref ra0)])) rfl rfl (hb hby d14_1)
  obtain ⟨T102, X102, e102, st102⟩ := getF X101 hx hZ hown (host := "") (Or.inl (own_w hw 108 rfl)) Via.refl e101 H1 (g := (mkF m 5 #[.val (.ref ra0)] [(.ref ra0), (.int (2 : Int32))])) rfl rfl (hb hby d14_5)
  obtain ⟨fs, hr, hrun, hended, hW, hsame⟩ := X102.leave (v := some (.int (1 : Int32))) (fun h => by rw [Bd.returns] at h; cases h)
  refine ⟨_, _, pre0 _ ?_, hrun, hended, _, _, rfl, ?_, ⟨_, rfl⟩, hW, hsame.mono (by decide) (by decide)⟩
  · skip
    show Steps p.tables e below (s₁.setTop (mkF m 0 #[.val (.ref ra0)] [])) _
    refine XS.aloadN X0.here hx rfl (hb hby d14_0) rfl rfl ?_
    refine st101 _ ?_
    refine XS.aloadN X101.here hx rfl (hb hby d14_4) rfl rfl ?_
    refine st102 _ ?_
    refine XS.isub X102.here hx rfl (hb hby d14_8) rfl ?_
    show Steps p.tables e below (T102.setTop (mkF m 9 #[.val (.ref ra0)] [(.int ((2 : Int32) - (1 : Int32)))])) _
    rw [show ((2 : Int32) - (1 : Int32)) = (1 : Int32) from by decide]
    show Steps p.tables e below (T102.setTop (mkF m 9 #[.val (.ref ra0)] [(.int (1 : Int32))])) _
    exact retI X102 hx Bd.returns (hb hby d14_9) hr
  · show Q14x24 Z ra0 h0 n0 _ T102.heap _
    rw [e102]
    exact ⟨rfl, N0, rfl⟩
theorem ef_17x26 (m : MethodId)  : entryFrame m #[(.int (0 : Int32)), (.int (1 : Int32)), .null] 3 = mkF m 0 #[.val (.int (0 : Int32)), .val (.int (1 : Int32)), .val .null] [] := by first | (simp [entryFrame, mkF, argsToLocals, Value.category]; done) | rfl
def Q17x26 (Z : State)  (h0 : Heap) (n0 : Nat) (v : Option Value) (h : Heap) (L : List Loc) : Prop := v = some (.int (0 : Int32)) ∧ Fr n0 L ∧ h = h0
set_option maxRecDepth 65536 in
set_option maxHeartbeats 40000000 in
theorem rm17x26 (l : Launch) (Z : State) (a0 : Array Value) (hw : ∀ d ∈ tables_1, d.before a0 Z = true) (ws : List Jvm.Cond)  (h0 : Heap) (n0 : Nat) (Z0 : n0 ≤ h0.size) :
    own_MF l (⟨"jdk/internal/util/Preconditions", "checkIndex", "(IILjava/util/function/BiFunction;)I"⟩ : MethodName) (Jvm.Cond.code (⟨"jdk/internal/util/Preconditions", "checkIndex", "(IILjava/util/function/BiFunction;)I"⟩ : MethodName) jdk_41_method_11_code 3 (some .int) :: ws) ({ frames := 0, cells := 0, slots := 0, locals := 0 } : Room) #[(.int (0 : Int32)), (.int (1 : Int32)), .null] Z h0 (Q17x26 Z  h0 n0) := by
  refine MetFree.of_bodySF (plainFor_of_name pn_jdk_internal_util_Preconditions) hisR ?_
  intro p e s m args below meth c s₁ Bd hml0 hP hK
  obtain ⟨rfl, hZ, hh⟩ := hP
  have hx := Bd.exec
  have hby := Bd.bytes
  have hml : c.maxLocals = 3 := hml0
  have hown : s.vm.findClass "jdk/internal/util/Preconditions" = some m.cls := findClass_of_methodNamed Bd.named
  have hnm := (name_of_methodNamed Bd.named Bd.method).1
  have X0 : Stand p l e ({ frames := 0, cells := 0, slots := 0, locals := 0 } : Room) s m #[(.int (0 : Int32)), (.int (1 : Int32)), .null] below meth c s₁ [] 0 0 := Stand.of_body Bd
  have e0 : s₁.heap = h0 := by rw [← hh, Bd.state]; rfl
  have N0 := Fr.nil n0
  have pre0 : ∀ t, Steps p.tables e below (s₁.setTop (mkF m 0 #[.val (.int (0 : Int32)), .val (.int (1 : Int32)), .val .null] [])) t → Steps p.tables e below (s₁.setTop (entryFrame m #[(.int (0 : Int32)), (.int (1 : Int32)), .null] 3)) t := fun t k => castTop (ef_17x26 m ) k
  obtain ⟨fs, hr, hrun, hended, hW, hsame⟩ := X0.leave (v := some (.int (0 : Int32))) (fun h => by rw [Bd.returns] at h; cases h)
  refine ⟨_, _, pre0 _ ?_, hrun, hended, _, _, rfl, ?_, ⟨_, rfl⟩, hW, hsame.mono (by decide) (by decide)⟩
  · skip
    show Steps p.tables e below (s₁.setTop (mkF m 0 #[.val (.int (0 : Int32)), .val (.int (1 : Int32)), .val .null] [])) _
    refine XS.iloadN X0.here hx rfl (hb hby d17_0) rfl ?_
    refine XS.ifNo X0.here hx rfl (hb hby d17_1) rfl ((if0 _ _).trans (flt (by decide : ¬ ((0 : Int32) < (0 : Int32)))).1) ?_
    refine XS.iloadN X0.here hx rfl (hb hby d17_4) rfl ?_
    refine XS.iloadN X0.here hx rfl (hb hby d17_5) rfl ?_
    refine XS.icmpYes X0.here hx rfl (pc0 := 6) (pc' := 16) rfl (hb hby d17_6) rfl (tlt (by decide : (0 : Int32) < (1 : Int32))).1 (by decide) (by decide) ?_
    refine XS.iloadN X0.here hx rfl (hb hby d17_16) rfl ?_
    show Steps p.tables e below (s₁.setTop (mkF m 17 #[.val (.int (0 : Int32)), .val (.int (1 : Int32)), .val .null] [(.int (0 : Int32))])) _
    exact retI X0 hx Bd.returns (hb hby d17_17) hr
  · show Q17x26 Z  h0 n0 _ s₁.heap _
    rw [e0]
    exact ⟨rfl, N0, rfl⟩
theorem ef_16x25 (m : MethodId)  : entryFrame m #[(.int (0 : Int32)), (.int (1 : Int32))] 2 = mkF m 0 #[.val (.int (0 : Int32)), .val (.int (1 : Int32))] [] := by first | (simp [entryFrame, mkF, argsToLocals, Value.category]; done) | rfl
def Q16x25 (Z : State)  (h0 : Heap) (n0 : Nat) (v : Option Value) (h : Heap) (L : List Loc) : Prop := v = some (.int (0 : Int32)) ∧ Fr n0 L ∧ h = h0
set_option maxRecDepth 65536 in
set_option maxHeartbeats 40000000 in
theorem rm16x25 (l : Launch) (Z : State) (a0 : Array Value) (hw : ∀ d ∈ tables_1, d.before a0 Z = true) (ws : List Jvm.Cond)  (h0 : Heap) (n0 : Nat) (Z0 : n0 ≤ h0.size) :
    own_MF l (⟨"java/util/Objects", "checkIndex", "(II)I"⟩ : MethodName) (Jvm.Cond.code (⟨"java/util/Objects", "checkIndex", "(II)I"⟩ : MethodName) jdk_31_method_17_code 2 (some .int) :: ws) ({ frames := 1, cells := 0, slots := 0, locals := 14 } : Room) #[(.int (0 : Int32)), (.int (1 : Int32))] Z h0 (Q16x25 Z  h0 n0) := by
  refine MetFree.of_bodySF (plainFor_of_name pn_java_util_Objects) hisR ?_
  intro p e s m args below meth c s₁ Bd hml0 hP hK
  obtain ⟨rfl, hZ, hh⟩ := hP
  have hx := Bd.exec
  have hby := Bd.bytes
  have hml : c.maxLocals = 2 := hml0
  have hown : s.vm.findClass "java/util/Objects" = some m.cls := findClass_of_methodNamed Bd.named
  have hnm := (name_of_methodNamed Bd.named Bd.method).1
  have X0 : Stand p l e ({ frames := 1, cells := 0, slots := 0, locals := 14 } : Room) s m #[(.int (0 : Int32)), (.int (1 : Int32))] below meth c s₁ [] 0 0 := Stand.of_body Bd
  have e0 : s₁.heap = h0 := by rw [← hh, Bd.state]; rfl
  have N0 := Fr.nil n0
  have pre0 : ∀ t, Steps p.tables e below (s₁.setTop (mkF m 0 #[.val (.int (0 : Int32)), .val (.int (1 : Int32))] [])) t → Steps p.tables e below (s₁.setTop (entryFrame m #[(.int (0 : Int32)), (.int (1 : Int32))] 2)) t := fun t k => castTop (ef_16x25 m ) k
  obtain ⟨_, _, ⟨T101, L101, k101, n101⟩, -, X101, ⟨Lc101, hQ101, l101, y101, z101⟩, st101⟩ := Jvm.LawKit.callS X0 hx (y := (⟨"jdk/internal/util/Preconditions", "checkIndex", "(IILjava/util/function/BiFunction;)I"⟩ : MethodName)) hown (mvT hZ (own_w hw 129 rfl)) (mvT hZ (own_w hw 130 rfl)) (mvT hZ (own_w hw 131 rfl)) (mvT hZ (own_w hw 132 rfl)) (by decide) (backOf (W := 0) (rm17x26 l Z a0 hw []  h0 n0 Z0) hZ (own_w hw 132 rfl) (own_w hw 131 rfl) (by decide) (by decide)) (g := (mkF m 3 #[.val (.int (0 : Int32)), .val (.int (1 : Int32))] [.null, (.int (1 : Int32)), (.int (0 : Int32))])) rfl (by rw [hml]; rfl) (argsL := [(.int (0 : Int32)), (.int (1 : Int32)), .null]) (rest := []) (lenOf pd_16 rfl) rfl (by show 2 * 0 + _ ≤ _; exact Nat.le_of_eq rfl) (hb hby d16_3) (fun _ _ => ⟨rfl, e0, (by decide : 0 + 0 ≤ _), (by decide : 0 + 0 ≤ _)⟩)
  dsimp only [Pt.U, Pt.locs, Pt.cells, Pt.slots] at X101 l101 y101 z101 st101 hQ101
  subst l101 y101 z101
  obtain ⟨rfl, Nq101, Heq101⟩ := hQ101
  have N101 := Fr.app N0 Nq101
  obtain ⟨fs, hr, hrun, hended, hW, hsame⟩ := X101.leave (v := some (.int (0 : Int32))) (fun h => by rw [Bd.returns] at h; cases h)
  refine ⟨_, _, pre0 _ ?_, hrun, hended, _, _, rfl, ?_, ⟨_, rfl⟩, hW, hsame.mono (by decide) (by decide)⟩
  · skip
    show Steps p.tables e below (s₁.setTop (mkF m 0 #[.val (.int (0 : Int32)), .val (.int (1 : Int32))] [])) _
    refine XS.iloadN X0.here hx rfl (hb hby d16_0) rfl ?_
    refine XS.iloadN X0.here hx rfl (hb hby d16_1) rfl ?_
    refine XS.aconstNull X0.here hx rfl (hb hby d16_2) ?_
    refine st101 _ ?_
    show Steps p.tables e below (T101.setTop (mkF m 6 #[.val (.int (0 : Int32)), .val (.int (1 : Int32))] [(.int (0 : Int32))])) _
    exact retI X101 hx Bd.returns (hb hby d16_6) hr
  · show Q16x25 Z  h0 n0 _ T101.heap _
    rw [Heq101]
    exact ⟨rfl, N101, rfl⟩
theorem ef_15g10 (m : MethodId) (a1 : Addr) : entryFrame m #[(.ref a1), (.int (0 : Int32))] 4 = mkF m 0 #[.val (.ref a1), .val (.int (0 : Int32)), .unset, .unset] [] := by first | (simp [entryFrame, mkF, argsToLocals, Value.category]; done) | rfl
def Q15g10 (Z : State) (a1 : Addr) (cz : Int32) (sf : Value) (cl : Addr) (cb : Addr) (ck : ClassId) (x0 : Int32) (x1 : Int32) (wb : Addr) (wk : ClassId) (w0 : Int32) (w1 : Int32) (v3 : Int32) (v5 : Int32) (h0 : Heap) (n0 : Nat) (v : Option Value) (h : Heap) (L : List Loc) : Prop := ∃ (x : Addr) (b : Addr) (k : ClassId), v = some (.ref x) ∧ Fr n0 L ∧ Keep h0 h [] ∧ Exa Z h x "java/lang/String" ∧ Fld Z h x "java/lang/String" "coder" "B" (.int (own_cd v5 (own_at v3 x0 x1))) ∧ Fld Z h x "java/lang/String" "value" "[B" (.ref b) ∧ Arv Z h b k .byte (own_bn v5 (own_at v3 x0 x1)) (own_bs v5 (own_at v3 x0 x1)) (.int (0 : Int32))
set_option maxRecDepth 65536 in
set_option maxHeartbeats 40000000 in
theorem rm15g10 (l : Launch) (Z : State) (a0 : Array Value) (hw : ∀ d ∈ tables_1, d.before a0 Z = true) (ws : List Jvm.Cond) (hEL : EW Z a0 own_EL) (a1 : Addr) (cz : Int32) (sf : Value) (cl : Addr) (cb : Addr) (ck : ClassId) (x0 : Int32) (x1 : Int32) (wb : Addr) (wk : ClassId) (w0 : Int32) (w1 : Int32) (v3 : Int32) (v5 : Int32) (h0 : Heap) (n0 : Nat) (Z0 : n0 ≤ h0.size) (H0 : Sta Z h0 "java/lang/String" "COMPACT_STRINGS" "Z" (.int cz)) (H1 : ¬ (cz = (0 : Int32))) (H2 : Sta Z h0 "java/lang/StringUTF16" "$assertionsDisabled" "Z" (.int (1 : Int32))) (H3 : Sta Z h0 "java/lang/StringUTF16" "HI_BYTE_SHIFT" "I" (.int (0 : Int32))) (H4 : Sta Z h0 "java/lang/StringUTF16" "LO_BYTE_SHIFT" "I" (.int (8 : Int32))) (H5 : Sta Z h0 "jdk/internal/util/Preconditions" "SIOOBE_FORMATTER" "Ljava/util/function/BiFunction;" sf) (H6 : sf.category = 1) (H7 : Exa Z h0 a1 "com/example/rouse/rouse/shell/CommandLine$Words") (H8 : Fld Z h0 a1 "com/example/rouse/rouse/shell/CommandLine$Words" "this$0" "Lcom/example/rouse/rouse/shell/CommandLine;" (.ref cl)) (H9 : Fld Z h0 a1 "com/example/rouse/rouse/shell/CommandLine$Words" "from" "I" (.int (1 : Int32))) (H10 : Fld Z h0 a1 "com/example/rouse/rouse/shell/CommandLine$Words" "to" "I" (.int (2 : Int32))) (H11 : Exa Z h0 cl "com/example/rouse/rouse/shell/CommandLine") (H12 : Fld Z h0 cl "com/example/rouse/rouse/shell/CommandLine" "characters" "[C" (.ref cb)) (H13 : Fld Z h0 cl "com/example/rouse/rouse/shell/CommandLine" "wordEnds" "[I" (.ref wb)) (H14 : Arv Z h0 cb ck .char (16 : Int32) (own_zl (.int x0) (.int x1)) (.int (0 : Int32))) (H15 : Arv Z h0 wb wk .int (16 : Int32) (own_zl (.int w0) (.int w1)) (.int (0 : Int32))) (H16 : own_chr x0) (H17 : own_chr x1) (H18 : own_01 v3) (H19 : own_01 v5) (H20 : own_we w0 = v3) (H21 : own_we w1 = (v3 + v5)) :
    MetFree l (⟨"com/example/rouse/rouse/shell/CommandLine$Words", "get", "(I)Ljava/lang/String;"⟩ : MethodName) (head1 (Jvm.Cond.code (⟨"com/example/rouse/rouse/shell/CommandLine$Words", "get", "(I)Ljava/lang/String;"⟩ : MethodName) prog_66_method_2_code 4 (some (.object "java/lang/String")) :: ws) ({ frames := 6, cells := 5, slots := 12, locals := 92 } : Room)) (fun a U => a = #[(.ref a1), (.int (0 : Int32))] ∧ Z.Warmed39 U.vm ∧ U.heap = h0 ∧ CHv Z own_EL U.vm h0) (fun _ _ _ _ _ => True) (fun _ U o U' => ∃ v L, o = .returned v ∧ Q15g10 Z a1 cz sf cl cb ck x0 x1 wb wk w0 w1 v3 v5 h0 n0 v U'.heap L ∧ CHr Z own_EL U.vm U.heap U'.vm U'.heap ∧ ReturnedEndW U o U' L ({ frames := 6, cells := 5, slots := 12, locals := 92 } : Room).cells ({ frames := 6, cells := 5, slots := 12, locals := 92 } : Room).slots) := by
  refine MetFree.of_bodySF (plainFor_of_name pn_com_example_rouse_rouse_shell_CommandLine_Words) hisR ?_
  intro p e s m args below meth c s₁ Bd hml0 hP hK
  obtain ⟨rfl, hZ, hh, hH⟩ := hP
  have hx := Bd.exec
  have hby := Bd.bytes
  have hml : c.maxLocals = 4 := hml0
  have hown : s.vm.findClass "com/example/rouse/rouse/shell/CommandLine$Words" = some m.cls := findClass_of_methodNamed Bd.named
  have hnm := (name_of_methodNamed Bd.named Bd.method).1
  have X0 : Stand p l e ({ frames := 6, cells := 5, slots := 12, locals := 92 } : Room) s m #[(.ref a1), (.int (0 : Int32))] below meth c s₁ [] 0 0 := Stand.of_body Bd
  have e0 : s₁.heap = h0 := by rw [← hh, Bd.state]; rfl
  have N0 := Fr.nil n0
  have X0 : Stand p l e ({ frames := 6, cells := 5, slots := 12, locals := 92 } : Room) (s.setVm s.vm) m #[(.ref a1), (.int (0 : Int32))] below meth c s₁ [] 0 0 := X0
  have hZ : Z.Warmed39 (s.setVm s.vm).vm := hZ
  have hown : (s.setVm s.vm).vm.findClass "com/example/rouse/rouse/shell/CommandLine$Words" = some m.cls := hown
  have hS0 : s.Since s.vm 0 := State.WarmedH.since (State.WarmedH.refl s) 0
  have Cr0 : CHr Z own_EL s.vm h0 s.vm h0 := CHr.refl hH
  have pre0 : ∀ t, Steps p.tables e below (s₁.setTop (mkF m 0 #[.val (.ref a1), .val (.int (0 : Int32)), .unset, .unset] [])) t → Steps p.tables e below (s₁.setTop (entryFrame m #[(.ref a1), (.int (0 : Int32))] 4)) t := fun t k => castTop (ef_15g10 m a1) k
  obtain ⟨cq101, kq101, q101a, q101b, q101c⟩ := isOf hZ e0 H7
  obtain ⟨_, _, ⟨T101, L101, k101, n101⟩, -, X101, ⟨Lc101, hQ101, l101, y101, z101⟩, st101⟩ := X0.virtualBack hx (y := (⟨"com/example/rouse/rouse/shell/CommandLine$Words", "size", "()I"⟩ : MethodName)) (z := (⟨"com/example/rouse/rouse/shell/CommandLine$Words", "size", "()I"⟩ : MethodName)) hown (mvT hZ (own_w hw 124 rfl)) (mvT hZ (own_w hw 115 rfl)) (notFace_of_selects (args := #[]) (mvT hZ (own_w hw 117 rfl))) (mvT hZ (own_w hw 117 rfl)) (mvT hZ (own_w hw 116 rfl)) (by decide) (backOf (W := 1) (rm14x24 l Z a0 hw [] a1 h0 n0 Z0 H10 H9) hZ (own_w hw 118 rfl) (own_w hw 88 rfl) (by decide) (by decide)) q101a q101c (g := (mkF m 2 #[.val (.ref a1), .val (.int (0 : Int32)), .unset, .unset] [(.ref a1), (.int (0 : Int32))])) rfl (by rw [hml]; rfl) (Steps.refl _) (argsL := []) (rest := [(.int (0 : Int32))]) (lenOf pd_15 rfl) rfl (by show 2 * 0 + _ ≤ _; exact Nat.le_of_eq rfl) (hb hby d15_2) (fun _ _ => ⟨rfl, e0, (by decide : 0 + 0 ≤ _), (by decide : 0 + 0 ≤ _)⟩)
  dsimp only [Pt.U, Pt.locs, Pt.cells, Pt.slots] at X101 l101 y101 z101 st101 hQ101
  subst l101 y101 z101
  obtain ⟨rfl, Nq101, Heq101⟩ := hQ101
  have N101 := Fr.app N0 Nq101
  obtain ⟨_, _, ⟨T102, L102, k102, n102⟩, -, X102, ⟨Lc102, hQ102, l102, y102, z102⟩, st102⟩ := Jvm.LawKit.callS X101 hx (y := (⟨"java/util/Objects", "checkIndex", "(II)I"⟩ : MethodName)) hown (mvT hZ (own_w hw 125 rfl)) (mvT hZ (own_w hw 126 rfl)) (mvT hZ (own_w hw 127 rfl)) (mvT hZ (own_w hw 128 rfl)) (by decide) (backOf (W := 0) (rm16x25 l Z a0 hw []  h0 n0 Z0) hZ (own_w hw 128 rfl) (own_w hw 127 rfl) (by decide) (by decide)) (g := (mkF m 5 #[.val (.ref a1), .val (.int (0 : Int32)), .unset, .unset] [(.int (1 : Int32)), (.int (0 : Int32))])) rfl (by rw [hml]; rfl) (argsL := [(.int (0 : Int32)), (.int (1 : Int32))]) (rest := []) (lenOf pd_17 rfl) rfl (by show 2 * 0 + _ ≤ _; exact Nat.le_of_eq rfl) (hb hby d15_5) (fun _ _ => ⟨rfl, Heq101, (by decide : 0 + 0 ≤ _), (by decide : 0 + 0 ≤ _)⟩)
  dsimp only [Pt.U, Pt.locs, Pt.cells, Pt.slots] at X102 l102 y102 z102 st102 hQ102
  subst l102 y102 z102
  obtain ⟨rfl, Nq102, Heq102⟩ := hQ102
  have N102 := Fr.app N101 Nq102
  obtain ⟨T103, X103, e103, st103⟩ := getF X102 hx hZ hown (host := "") (Or.inl (own_w hw 108 rfl)) Via.refl Heq102 H9 (g := (mkF m 10 #[.val (.ref a1), .val (.int (0 : Int32)), .unset, .unset] [(.ref a1)])) rfl rfl (hb hby d15_10)
  obtain ⟨T104, X104, e104, st104⟩ := getF X103 hx hZ hown (host := "") (Or.inl (own_w hw 92 rfl)) Via.refl e103 H8 (g := (mkF m 17 #[.val (.ref a1), .val (.int (0 : Int32)), .val (.int (1 : Int32)), .unset] [(.ref a1)])) rfl rfl (hb hby d15_17)
  obtain ⟨cq105, q105, q105'⟩ := H11.cell
  obtain ⟨_, _, ⟨T105, L105, k105, n105⟩, -, X105, ⟨Lc105, hQ105, l105, y105, z105⟩, st105⟩ := own_privNest X104 hx (y := (⟨"com/example/rouse/rouse/shell/CommandLine", "wordStart", "(I)I"⟩ : MethodName)) hown (Cond.methodLinkNest_wide hZ (own_w hw 133 rfl) :) (mvT hZ (own_w hw 134 rfl)) (mvT hZ (own_selp (by decide) (own_w hw 10 rfl) (own_w hw 135 rfl) (own_w hw 134 rfl))) (Cond.privateMethod_at (mvP hZ (own_w hw 135 rfl) (args := #[]))) (mvT hZ (own_w hw 136 rfl)) (by decide) (backOf (W := 0) (rm18k1 l Z a0 hw [] cl wb wk w0 w1 v3 h0 n0 Z0 H13 H15 H20 H11) hZ (own_w hw 136 rfl) (own_w hw 11 rfl) (by decide) (by decide)) (g := (mkF m 21 #[.val (.ref a1), .val (.int (0 : Int32)), .val (.int (1 : Int32)), .unset] [(.int (1 : Int32)), (.ref cl)])) rfl (by rw [hml]; rfl) (Steps.refl _) (a := cl) (by rw [e104]; exact q105) q105' (argsL := [(.int (1 : Int32))]) (rest := []) (lenOf pd_4 rfl) rfl (by show 2 * 0 + _ ≤ _; exact Nat.le_of_eq rfl) (hb hby d15_21) (fun _ _ => ⟨rfl, e104, (by decide : 0 + 0 ≤ _), (by decide : 0 + 0 ≤ _)⟩)
  dsimp only [Pt.U, Pt.locs, Pt.cells, Pt.slots] at X105 l105 y105 z105 st105 hQ105
  subst l105 y105 z105
  obtain ⟨rfl, Nq105, Heq105⟩ := hQ105
  have N105 := Fr.app N102 Nq105
  obtain ⟨T106, h106, X106, e106, E106, A106, D106, -, st106⟩ := newO X105 hx hZ hown (own_w hw 137 rfl) (own_w hw 3 rfl) (own_w hw 2 rfl) Heq105 (g := (mkF m 25 #[.val (.ref a1), .val (.int (0 : Int32)), .val (.int (1 : Int32)), .val (.int v3)] [])) rfl (hb hby d15_25) (by decide) (by decide)
  obtain ⟨b106, g106⟩ : ∃ z, z = h0.size := ⟨_, rfl⟩
  rw [← g106] at A106 D106 st106
  have Hc107 := CHv.ext E106 hH
  have Cr107 := Cr0.trans (CHr.ext E106 hH)
  have F108 : Fld Z h106 b106 "java/lang/String" "value" "[B" .null := D106 (Or.inr (own_w hw 5 rfl)) (ty := (.array .byte)) (by decide)
  have F109 : Fld Z h106 b106 "java/lang/String" "coder" "B" (.int (0 : Int32)) := D106 (Or.inr (own_w hw 6 rfl)) (ty := .byte) (by decide)
  have f110 := (H8.ext E106)
  obtain ⟨T111, X111, e111, st111⟩ := getF X106 hx hZ hown (host := "") (Or.inl (own_w hw 92 rfl)) Via.refl e106 f110 (g := (mkF m 30 #[.val (.ref a1), .val (.int (0 : Int32)), .val (.int (1 : Int32)), .val (.int v3)] [(.ref a1), (.ref b106), (.ref b106)])) rfl rfl (hb hby d15_30)
  have f112 := (H12.ext E106)
  obtain ⟨T113, X113, e113, st113⟩ := getF X111 hx hZ hown (Or.inr (own_w hw 138 rfl)) Via.refl e111 f112 (g := (mkF m 33 #[.val (.ref a1), .val (.int (0 : Int32)), .val (.int (1 : Int32)), .val (.int v3)] [(.ref cl), (.ref b106), (.ref b106)])) rfl rfl (hb hby d15_33)
  obtain ⟨T114, X114, e114, st114⟩ := getF X113 hx hZ hown (host := "") (Or.inl (own_w hw 92 rfl)) Via.refl e113 f110 (g := (mkF m 38 #[.val (.ref a1), .val (.int (0 : Int32)), .val (.int (1 : Int32)), .val (.int v3)] [(.ref a1), (.int v3), (.ref cb), (.ref b106), (.ref b106)])) rfl rfl (hb hby d15_38)
  have f115 := (H13.ext E106)
  have f116 := (H15.ext E106)
  have z118 : n0 ≤ h106.size := (Nat.le_trans Z0 E106.1)
  have f119 := (H11.ext E106)
  obtain ⟨cq117, q117, q117'⟩ := f119.cell
  obtain ⟨_, _, ⟨T117, L117, k117, n117⟩, -, X117, ⟨Lc117, hQ117, l117, y117, z117⟩, st117⟩ := own_privNest X114 hx (y := (⟨"com/example/rouse/rouse/shell/CommandLine", "wordEnd", "(I)I"⟩ : MethodName)) hown (Cond.methodLinkNest_wide hZ (own_w hw 139 rfl) :) (mvT hZ (own_w hw 140 rfl)) (mvT hZ (own_selp (by decide) (own_w hw 10 rfl) (own_w hw 141 rfl) (own_w hw 140 rfl))) (Cond.privateMethod_at (mvP hZ (own_w hw 141 rfl) (args := #[]))) (mvT hZ (own_w hw 142 rfl)) (by decide) (backOf (W := 4) (rm19k1 l Z a0 hw [] cl wb wk w0 w1 (v3 + v5) h106 n0 z118 f115 f116 H21) hZ (own_w hw 142 rfl) (own_w hw 11 rfl) (by decide) (by decide)) (g := (mkF m 42 #[.val (.ref a1), .val (.int (0 : Int32)), .val (.int (1 : Int32)), .val (.int v3)] [(.int (1 : Int32)), (.ref cl), (.int v3), (.ref cb), (.ref b106), (.ref b106)])) rfl (by rw [hml]; rfl) (Steps.refl _) (a := cl) (by rw [e114]; exact q117) q117' (argsL := [(.int (1 : Int32))]) (rest := [(.int v3), (.ref cb), (.ref b106), (.ref b106)]) (lenOf pd_4 rfl) rfl (by show 2 * 0 + _ ≤ _; exact Nat.le_of_eq rfl) (hb hby d15_42) (fun _ _ => ⟨rfl, e114, (by decide : 1 + 0 ≤ _), (by decide : 4 + 0 ≤ _)⟩)
  dsimp only [Pt.U, Pt.locs, Pt.cells, Pt.slots] at X117 l117 y117 z117 st117 hQ117
  subst l117 y117 z117
  obtain ⟨rfl, Nq117, Heq117⟩ := hQ117
  have N117 := Fr.app N105 Nq117
  have pre120 : ∀ t, Steps p.tables e below (T117.setTop (mkF m 47 #[.val (.ref a1), .val (.int (0 : Int32)), .val (.int (1 : Int32)), .val (.int v3)] [(.int ((v3 + v5) - v3)), (.int v3), (.ref cb), (.ref b106), (.ref b106)])) t → Steps p.tables e below (s₁.setTop (entryFrame m #[(.ref a1), (.int (0 : Int32))] 4)) t := fun t kt => by
    refine pre0 t ?_
    show Steps p.tables e below (s₁.setTop (mkF m 0 #[.val (.ref a1), .val (.int (0 : Int32)), .unset, .unset] [])) _
    refine XS.iloadN X0.here hx rfl (hb hby d15_0) rfl ?_
    refine XS.aloadN X0.here hx rfl (hb hby d15_1) rfl rfl ?_
    show Steps p.tables e below (s₁.setTop (mkF m 2 #[.val (.ref a1), .val (.int (0 : Int32)), .unset, .unset] [(.ref a1), (.int (0 : Int32))])) _
    refine st101.trans ?_
    show Steps p.tables e below (T101.setTop (mkF m 5 #[.val (.ref a1), .val (.int (0 : Int32)), .unset, .unset] [(.int (1 : Int32)), (.int (0 : Int32))])) _
    refine st102 _ ?_
    refine XS.pop X102.here hx rfl (hb hby d15_8) rfl rfl ?_
    refine XS.aloadN X102.here hx rfl (hb hby d15_9) rfl rfl ?_
    refine st103 _ ?_
    refine XS.iloadN X103.here hx rfl (hb hby d15_13) rfl ?_
    refine XS.iadd X103.here hx rfl (hb hby d15_14) rfl ?_
    show Steps p.tables e below (T103.setTop (mkF m 15 #[.val (.ref a1), .val (.int (0 : Int32)), .unset, .unset] [(.int ((1 : Int32) + (0 : Int32)))])) _
    rw [show ((1 : Int32) + (0 : Int32)) = (1 : Int32) from by decide]
    show Steps p.tables e below (T103.setTop (mkF m 15 #[.val (.ref a1), .val (.int (0 : Int32)), .unset, .unset] [(.int (1 : Int32))])) _
    refine XS.istoreN X103.here hx rfl (hb hby d15_15) rfl (l' := #[.val (.ref a1), .val (.int (0 : Int32)), .val (.int (1 : Int32)), .unset]) rfl ?_
    refine XS.aloadN X103.here hx rfl (hb hby d15_16) rfl rfl ?_
    refine st104 _ ?_
    refine XS.iloadN X104.here hx rfl (hb hby d15_20) rfl ?_
    show Steps p.tables e below (T104.setTop (mkF m 21 #[.val (.ref a1), .val (.int (0 : Int32)), .val (.int (1 : Int32)), .unset] [(.int (1 : Int32)), (.ref cl)])) _
    refine st105.trans ?_
    show Steps p.tables e below (T105.setTop (mkF m 24 #[.val (.ref a1), .val (.int (0 : Int32)), .val (.int (1 : Int32)), .unset] [(.int v3)])) _
    refine XS.istoreN X105.here hx rfl (hb hby d15_24) rfl (l' := #[.val (.ref a1), .val (.int (0 : Int32)), .val (.int (1 : Int32)), .val (.int v3)]) rfl ?_
    refine st106 _ ?_
    refine XS.dup X106.here hx rfl (hb hby d15_28) rfl rfl ?_
    refine XS.aloadN X106.here hx rfl (hb hby d15_29) rfl rfl ?_
    refine st111 _ ?_
    refine st113 _ ?_
    refine XS.iloadN X113.here hx rfl (hb hby d15_36) rfl ?_
    refine XS.aloadN X113.here hx rfl (hb hby d15_37) rfl rfl ?_
    refine st114 _ ?_
    refine XS.iloadN X114.here hx rfl (hb hby d15_41) rfl ?_
    show Steps p.tables e below (T114.setTop (mkF m 42 #[.val (.ref a1), .val (.int (0 : Int32)), .val (.int (1 : Int32)), .val (.int v3)] [(.int (1 : Int32)), (.ref cl), (.int v3), (.ref cb), (.ref b106), (.ref b106)])) _
    refine st117.trans ?_
    show Steps p.tables e below (T117.setTop (mkF m 45 #[.val (.ref a1), .val (.int (0 : Int32)), .val (.int (1 : Int32)), .val (.int v3)] [(.int (v3 + v5)), (.int v3), (.ref cb), (.ref b106), (.ref b106)])) _
    refine XS.iloadN X117.here hx rfl (hb hby d15_45) rfl ?_
    refine XS.isub X117.here hx rfl (hb hby d15_46) rfl ?_
    show Steps p.tables e below (T117.setTop (mkF m 47 #[.val (.ref a1), .val (.int (0 : Int32)), .val (.int (1 : Int32)), .val (.int v3)] [(.int ((v3 + v5) - v3)), (.int v3), (.ref cb), (.ref b106), (.ref b106)])) _
    exact kt
  have hw121 : ((v3 + v5) - v3) = v5 := (own_sub v3 v5).symm
  have pre121 : ∀ t, Steps p.tables e below (T117.setTop (mkF m 47 #[.val (.ref a1), .val (.int (0 : Int32)), .val (.int (1 : Int32)), .val (.int v3)] [(.int v5), (.int v3), (.ref cb), (.ref b106), (.ref b106)])) t → Steps p.tables e below (s₁.setTop (entryFrame m #[(.ref a1), (.int (0 : Int32))] 4)) t := fun t kt => pre120 t (by rw [hw121]; exact kt)
  have f122 := (H0.ext E106)
  have f123 := (H2.ext E106)
  have f124 := (H3.ext E106)
  have f125 := (H4.ext E106)
  have f126 := (H14.ext E106)
  have g127 : n0 ≤ b106 := Nat.le_trans Z0 (Nat.le_of_eq g106.symm)
  have f128 := (H5.ext E106)
  obtain ⟨_, _, ⟨T129, L129, k129, n129⟩, -, X129, hS129', hgr129, ⟨Lc129, hQ129, l129, y129, z129, Cq129⟩, st129⟩ := X117.specialBackS hx (y := (⟨"java/lang/String", "<init>", "([CII)V"⟩ : MethodName)) rfl hown (mvT hZ (own_w hw 143 rfl)) (mvT hZ (own_w hw 144 rfl)) (mvT hZ (own_w hw 145 rfl)) (by decide) (backOfSH (W := 1) (rm20g l Z a0 hw [] hEL b106 cb v3 v5 cz ck x0 x1 sf h106 n0 z118 f122 H1 f123 f124 f125 f126 A106 F108 F109 g127 H16 H17 f128 H6 H18 H19) hZ (own_w hw 145 rfl) (own_w hw 2 rfl) (by decide) (by decide) hEL Hc107) (g := (mkF m 47 #[.val (.ref a1), .val (.int (0 : Int32)), .val (.int (1 : Int32)), .val (.int v3)] [(.int v5), (.int v3), (.ref cb), (.ref b106), (.ref b106)])) rfl (by rw [hml]; rfl) (Steps.refl _) (a := b106) (argsL := [(.ref cb), (.int v3), (.int v5)]) (rest := [(.ref b106)]) (lenOf pd_18 rfl) rfl (by show 2 * 0 + _ ≤ _; exact Nat.le_of_eq rfl) (hb hby d15_47) (fun _ _ => ⟨rfl, Heq117, (by decide : 1 + 4 ≤ _), (by decide : 4 + 8 ≤ _)⟩)
  dsimp only [Pt.U, Pt.locs, Pt.cells, Pt.slots] at X129 l129 y129 z129 st129 hQ129 hS129' hgr129 Cq129
  subst l129 y129 z129
  obtain ⟨X129, hS129, hZ, hown⟩ := rebS hS0 (by rw [Heq117]; exact (Nat.le_trans (Nat.zero_le _) E106.1)) X129 hS129' hgr129 hZ hown
  have Cr129 := Cr107.trans Cq129
  have Hc129 := Cq129.1
  obtain ⟨b129, k129, rfl, Nq129, K129, R129_1, R129_2, R129_3⟩ := hQ129
  have N129 := Fr.app N117 Nq129
  have f130 := (A106.keep K129)
  obtain ⟨fs, hr, hrun, hended, hEnd⟩ := X129.leaveW hS129 (Nat.le_refl _) (v := some (.ref b106)) (fun h => by rw [Bd.returns] at h; cases h)
  refine ⟨_, _, pre121 _ ?_, hrun, hended, _, _, rfl, ?_, (show CHr Z own_EL s.vm s.heap T129.vm T129.heap from by rw [hh]; exact Cr129.trans (CHv.at X129 hZ hEL Hc129)), hEnd.1, hEnd.2.1, hEnd.2.2.1, hEnd.2.2.2.mono (by decide) (by decide)⟩
  · skip
    show Steps p.tables e below (T117.setTop (mkF m 47 #[.val (.ref a1), .val (.int (0 : Int32)), .val (.int (1 : Int32)), .val (.int v3)] [(.int v5), (.int v3), (.ref cb), (.ref b106), (.ref b106)])) _
    refine st129.trans ?_
    show Steps p.tables e below (T129.setTop (mkF m 50 #[.val (.ref a1), .val (.int (0 : Int32)), .val (.int (1 : Int32)), .val (.int v3)] [(.ref b106)])) _
    jvm_step X129.here [X129.here.top, hx, (hb hby d15_50), X129.method', Bd.returns, Value.isRef, FieldType.isReference]
    first | (intro acts; rw [hr _ acts rfl rfl rfl]) | rw [hr _ _ rfl rfl rfl]
    exact Steps.refl _
  · show Q15g10 Z a1 cz sf cl cb ck x0 x1 wb wk w0 w1 v3 v5 h0 n0 _ T129.heap _
    exact ⟨b106, b129, k129, rfl, N129, (((Keep.refl h0 []).ext E106).trans K129 (allS (P := (fun x => x ∈ [] ∨ h0.size ≤ x)) (Or.inr (Nat.le_trans (Nat.le_refl _) (Nat.le_of_eq g106.symm))) all0)), f130, R129_1, R129_2, R129_3⟩
theorem d26_0 : decode jdk_43_method_13_code 0 = .ok (.aload_n 0, 1) := by decide +kernel
theorem d26_1 : decode jdk_43_method_13_code 1 = .ok (.arraylength, 1) := by decide +kernel
theorem d26_2 : decode jdk_43_method_13_code 2 = .ok (.aload_n 1, 1) := by decide +kernel
theorem d26_3 : decode jdk_43_method_13_code 3 = .ok (.arraylength, 1) := by decide +kernel
theorem d26_4 : decode jdk_43_method_13_code 4 = .ok (.if_icmp .ne 30, 3) := by decide +kernel
theorem d26_7 : decode jdk_43_method_13_code 7 = .ok (.iconst 0, 1) := by decide +kernel
theorem d26_8 : decode jdk_43_method_13_code 8 = .ok (.istore_n 2, 1) := by decide +kernel
theorem d26_9 : decode jdk_43_method_13_code 9 = .ok (.iload_n 2, 1) := by decide +kernel
theorem d26_10 : decode jdk_43_method_13_code 10 = .ok (.aload_n 0, 1) := by decide +kernel
theorem d26_11 : decode jdk_43_method_13_code 11 = .ok (.arraylength, 1) := by decide +kernel
theorem d26_12 : decode jdk_43_method_13_code 12 = .ok (.if_icmp .ge 20, 3) := by decide +kernel
theorem d26_32 : decode jdk_43_method_13_code 32 = .ok (.iconst 1, 1) := by decide +kernel
theorem d26_33 : decode jdk_43_method_13_code 33 = .ok (.ireturn, 1) := by decide +kernel
theorem ef_26x27 (m : MethodId) (ra0 : Addr) (ra1 : Addr) : entryFrame m #[(.ref ra0), (.ref ra1)] 3 = mkF m 0 #[.val (.ref ra0), .val (.ref ra1), .unset] [] := by first | (simp [entryFrame, mkF, argsToLocals, Value.category]; done) | rfl
def Q26x27 (Z : State) (ra0 : Addr) (ra1 : Addr) (uk1 : ClassId) (uk2 : ClassId) (h0 : Heap) (n0 : Nat) (v : Option Value) (h : Heap) (L : List Loc) : Prop := v = some (.int (1 : Int32)) ∧ Fr n0 L ∧ h = h0
set_option maxRecDepth 65536 in
set_option maxHeartbeats 40000000 in
theorem rm26x27 (l : Launch) (Z : State) (a0 : Array Value) (hw : ∀ d ∈ tables_1, d.before a0 Z = true) (ws : List Jvm.Cond) (ra0 : Addr) (ra1 : Addr) (uk1 : ClassId) (uk2 : ClassId) (h0 : Heap) (n0 : Nat) (Z0 : n0 ≤ h0.size) (H0 : Arv Z h0 ra0 uk1 .byte (0 : Int32) [] (.int (0 : Int32))) (H1 : Arv Z h0 ra1 uk2 .byte (0 : Int32) [] (.int (0 : Int32))) :
    own_MF l (⟨"java/lang/StringLatin1", "equals", "([B[B)Z"⟩ : MethodName) (Jvm.Cond.code (⟨"java/lang/StringLatin1", "equals", "([B[B)Z"⟩ : MethodName) jdk_43_method_13_code 3 (some .boolean) :: ws) ({ frames := 0, cells := 0, slots := 0, locals := 0 } : Room) #[(.ref ra0), (.ref ra1)] Z h0 (Q26x27 Z ra0 ra1 uk1 uk2 h0 n0) := by
  refine MetFree.of_bodySF (plainFor_of_name pn_java_lang_StringLatin1) hisR ?_
  intro p e s m args below meth c s₁ Bd hml0 hP hK
  obtain ⟨rfl, hZ, hh⟩ := hP
  have hx := Bd.exec
  have hby := Bd.bytes
  have hml : c.maxLocals = 3 := hml0
  have hown : s.vm.findClass "java/lang/StringLatin1" = some m.cls := findClass_of_methodNamed Bd.named
  have hnm := (name_of_methodNamed Bd.named Bd.method).1
  have X0 : Stand p l e ({ frames := 0, cells := 0, slots := 0, locals := 0 } : Room) s m #[(.ref ra0), (.ref ra1)] below meth c s₁ [] 0 0 := Stand.of_body Bd
  have e0 : s₁.heap = h0 := by rw [← hh, Bd.state]; rfl
  have N0 := Fr.nil n0
  have pre0 : ∀ t, Steps p.tables e below (s₁.setTop (mkF m 0 #[.val (.ref ra0), .val (.ref ra1), .unset] [])) t → Steps p.tables e below (s₁.setTop (entryFrame m #[(.ref ra0), (.ref ra1)] 3)) t := fun t k => castTop (ef_26x27 m ra0 ra1) k
  obtain ⟨cl101, Ar101, -, S101, M101, -, -⟩ := id H0
  obtain ⟨cl102, Ar102, -, S102, M102, -, -⟩ := id H1
  obtain ⟨cl103, Ar103, -, S103, M103, -, -⟩ := id H0
  obtain ⟨fs, hr, hrun, hended, hW, hsame⟩ := X0.leave (v := some (.int (1 : Int32))) (fun h => by rw [Bd.returns] at h; cases h)
  refine ⟨_, _, pre0 _ ?_, hrun, hended, _, _, rfl, ?_, ⟨_, rfl⟩, hW, hsame.mono (by decide) (by decide)⟩
  · skip
    show Steps p.tables e below (s₁.setTop (mkF m 0 #[.val (.ref ra0), .val (.ref ra1), .unset] [])) _
    refine XS.aloadN X0.here hx rfl (hb hby d26_0) rfl rfl ?_
    show Steps p.tables e below (s₁.setTop (mkF m 1 #[.val (.ref ra0), .val (.ref ra1), .unset] [(.ref ra0)])) _
    refine X0.arraylength hx (by rw [e0]; exact Ar101.1) (State.isArrayOf_alike hZ.alike Ar101.2.1) (g := (mkF m 1 #[.val (.ref ra0), .val (.ref ra1), .unset] [(.ref ra0)])) rfl rfl (hb hby d26_1) _ ?_
    rw [len_of S101 M101]
    show Steps p.tables e below (s₁.setTop (mkF m 2 #[.val (.ref ra0), .val (.ref ra1), .unset] [(.int (0 : Int32))])) _
    refine XS.aloadN X0.here hx rfl (hb hby d26_2) rfl rfl ?_
    show Steps p.tables e below (s₁.setTop (mkF m 3 #[.val (.ref ra0), .val (.ref ra1), .unset] [(.ref ra1), (.int (0 : Int32))])) _
    refine X0.arraylength hx (by rw [e0]; exact Ar102.1) (State.isArrayOf_alike hZ.alike Ar102.2.1) (g := (mkF m 3 #[.val (.ref ra0), .val (.ref ra1), .unset] [(.ref ra1), (.int (0 : Int32))])) rfl rfl (hb hby d26_3) _ ?_
    rw [len_of S102 M102]
    show Steps p.tables e below (s₁.setTop (mkF m 4 #[.val (.ref ra0), .val (.ref ra1), .unset] [(.int (0 : Int32)), (.int (0 : Int32))])) _
    refine XS.icmpNo X0.here hx rfl (hb hby d26_4) rfl (teq (by decide : (0 : Int32) = (0 : Int32))).2 ?_
    refine XS.iconst X0.here hx rfl (hb hby d26_7) ?_
    refine XS.istoreN X0.here hx rfl (hb hby d26_8) rfl (l' := #[.val (.ref ra0), .val (.ref ra1), .val (.int (0 : Int32))]) rfl ?_
    refine XS.iloadN X0.here hx rfl (hb hby d26_9) rfl ?_
    refine XS.aloadN X0.here hx rfl (hb hby d26_10) rfl rfl ?_
    show Steps p.tables e below (s₁.setTop (mkF m 11 #[.val (.ref ra0), .val (.ref ra1), .val (.int (0 : Int32))] [(.ref ra0), (.int (0 : Int32))])) _
    refine X0.arraylength hx (by rw [e0]; exact Ar103.1) (State.isArrayOf_alike hZ.alike Ar103.2.1) (g := (mkF m 11 #[.val (.ref ra0), .val (.ref ra1), .val (.int (0 : Int32))] [(.ref ra0), (.int (0 : Int32))])) rfl rfl (hb hby d26_11) _ ?_
    rw [len_of S103 M103]
    show Steps p.tables e below (s₁.setTop (mkF m 12 #[.val (.ref ra0), .val (.ref ra1), .val (.int (0 : Int32))] [(.int (0 : Int32)), (.int (0 : Int32))])) _
    refine XS.icmpYes X0.here hx rfl (pc0 := 12) (pc' := 32) rfl (hb hby d26_12) rfl (flt (by decide : ¬ ((0 : Int32) < (0 : Int32)))).2.1 (by decide) (by decide) ?_
    refine XS.iconst X0.here hx rfl (hb hby d26_32) ?_
    show Steps p.tables e below (s₁.setTop (mkF m 33 #[.val (.ref ra0), .val (.ref ra1), .val (.int (0 : Int32))] [(.int (1 : Int32))])) _
    exact retN X0 hx (t := .boolean) Bd.returns (by simp) (hb hby d26_33) hr
  · show Q26x27 Z ra0 ra1 uk1 uk2 h0 n0 _ s₁.heap _
    rw [e0]
    exact ⟨rfl, N0, rfl⟩
theorem d25_0 : decode jdk_42_method_66_code 0 = .ok (.aload_n 0, 1) := by decide +kernel
theorem d25_1 : decode jdk_42_method_66_code 1 = .ok (.aload_n 1, 1) := by decide +kernel
theorem d25_2 : decode jdk_42_method_66_code 2 = .ok (.if_acmp .ne 5, 3) := by decide +kernel
theorem d25_5 : decode jdk_42_method_66_code 5 = .ok (.iconst 1, 1) := by decide +kernel
theorem d25_6 : decode jdk_42_method_66_code 6 = .ok (.ireturn, 1) := by decide +kernel
theorem d25_7 : decode jdk_42_method_66_code 7 = .ok (.aload_n 1, 1) := by decide +kernel
theorem d25_8 : decode jdk_42_method_66_code 8 = .ok (.instanceof 10, 3) := by decide +kernel
theorem d25_11 : decode jdk_42_method_66_code 11 = .ok (.ifCond .eq 43, 3) := by decide +kernel
theorem d25_14 : decode jdk_42_method_66_code 14 = .ok (.aload_n 1, 1) := by decide +kernel
theorem d25_15 : decode jdk_42_method_66_code 15 = .ok (.checkcast 10, 3) := by decide +kernel
theorem d25_18 : decode jdk_42_method_66_code 18 = .ok (.astore_n 2, 1) := by decide +kernel
theorem d25_19 : decode jdk_42_method_66_code 19 = .ok (.getstatic 38, 3) := by decide +kernel
theorem d25_22 : decode jdk_42_method_66_code 22 = .ok (.ifCond .eq 14, 3) := by decide +kernel
theorem d25_25 : decode jdk_42_method_66_code 25 = .ok (.aload_n 0, 1) := by decide +kernel
theorem d25_26 : decode jdk_42_method_66_code 26 = .ok (.getfield 15, 3) := by decide +kernel
theorem d25_29 : decode jdk_42_method_66_code 29 = .ok (.aload_n 2, 1) := by decide +kernel
theorem d25_30 : decode jdk_42_method_66_code 30 = .ok (.getfield 15, 3) := by decide +kernel
theorem d25_33 : decode jdk_42_method_66_code 33 = .ok (.if_icmp .ne 21, 3) := by decide +kernel
theorem d25_36 : decode jdk_42_method_66_code 36 = .ok (.aload_n 0, 1) := by decide +kernel
theorem d25_37 : decode jdk_42_method_66_code 37 = .ok (.getfield 9, 3) := by decide +kernel
theorem d25_40 : decode jdk_42_method_66_code 40 = .ok (.aload_n 2, 1) := by decide +kernel
theorem d25_41 : decode jdk_42_method_66_code 41 = .ok (.getfield 9, 3) := by decide +kernel
theorem d25_44 : decode jdk_42_method_66_code 44 = .ok (.invokestatic 541, 3) := by decide +kernel
theorem d25_47 : decode jdk_42_method_66_code 47 = .ok (.ifCond .eq 7, 3) := by decide +kernel
theorem d25_50 : decode jdk_42_method_66_code 50 = .ok (.iconst 1, 1) := by decide +kernel
theorem d25_51 : decode jdk_42_method_66_code 51 = .ok (.goto 4, 3) := by decide +kernel
theorem d25_55 : decode jdk_42_method_66_code 55 = .ok (.ireturn, 1) := by decide +kernel
theorem ef_25e0 (m : MethodId) (a1 : Addr) (a2 : Addr) : entryFrame m #[(.ref a1), (.ref a2)] 3 = mkF m 0 #[.val (.ref a1), .val (.ref a2), .unset] [] := by first | (simp [entryFrame, mkF, argsToLocals, Value.category]; done) | rfl
def Q25e0 (Z : State) (a1 : Addr) (a2 : Addr) (cz : Int32) (b1 : Addr) (k1 : ClassId) (b2 : Addr) (k2 : ClassId) (h0 : Heap) (n0 : Nat) (v : Option Value) (h : Heap) (L : List Loc) : Prop := v = some (.int (1 : Int32)) ∧ Fr n0 L ∧ h = h0
set_option maxRecDepth 65536 in
set_option maxHeartbeats 40000000 in
theorem rm25e0 (l : Launch) (Z : State) (a0 : Array Value) (hw : ∀ d ∈ tables_1, d.before a0 Z = true) (ws : List Jvm.Cond) (a1 : Addr) (a2 : Addr) (cz : Int32) (b1 : Addr) (k1 : ClassId) (b2 : Addr) (k2 : ClassId) (h0 : Heap) (n0 : Nat) (Z0 : n0 ≤ h0.size) (H0 : Sta Z h0 "java/lang/String" "COMPACT_STRINGS" "Z" (.int cz)) (H1 : ¬ (cz = (0 : Int32))) (H2 : Exa Z h0 a1 "java/lang/String") (H3 : Fld Z h0 a1 "java/lang/String" "coder" "B" (.int (0 : Int32))) (H4 : Fld Z h0 a1 "java/lang/String" "value" "[B" (.ref b1)) (H5 : Arv Z h0 b1 k1 .byte (0 : Int32) [] (.int (0 : Int32))) (H6 : Exa Z h0 a2 "java/lang/String") (H7 : Fld Z h0 a2 "java/lang/String" "coder" "B" (.int (0 : Int32))) (H8 : Fld Z h0 a2 "java/lang/String" "value" "[B" (.ref b2)) (H9 : Arv Z h0 b2 k2 .byte (0 : Int32) [] (.int (0 : Int32))) :
    own_MF l (⟨"java/lang/String", "equals", "(Ljava/lang/Object;)Z"⟩ : MethodName) (Jvm.Cond.code (⟨"java/lang/String", "equals", "(Ljava/lang/Object;)Z"⟩ : MethodName) jdk_42_method_66_code 3 (some .boolean) :: ws) ({ frames := 2, cells := 0, slots := 0, locals := 40 } : Room) #[(.ref a1), (.ref a2)] Z h0 (Q25e0 Z a1 a2 cz b1 k1 b2 k2 h0 n0) := by
  refine MetFree.of_bodySF (plainFor_of_name pn_java_lang_String) hisR ?_
  intro p e s m args below meth c s₁ Bd hml0 hP hK
  obtain ⟨rfl, hZ, hh⟩ := hP
  have hx := Bd.exec
  have hby := Bd.bytes
  have hml : c.maxLocals = 3 := hml0
  have hown : s.vm.findClass "java/lang/String" = some m.cls := findClass_of_methodNamed Bd.named
  have hnm := (name_of_methodNamed Bd.named Bd.method).1
  have X0 : Stand p l e ({ frames := 2, cells := 0, slots := 0, locals := 40 } : Room) s m #[(.ref a1), (.ref a2)] below meth c s₁ [] 0 0 := Stand.of_body Bd
  have e0 : s₁.heap = h0 := by rw [← hh, Bd.state]; rfl
  have N0 := Fr.nil n0
  have pre0 : ∀ t, Steps p.tables e below (s₁.setTop (mkF m 0 #[.val (.ref a1), .val (.ref a2), .unset] [])) t → Steps p.tables e below (s₁.setTop (entryFrame m #[(.ref a1), (.ref a2)] 3)) t := fun t k => castTop (ef_25e0 m a1 a2) k
  have pre101 : ∀ t, Steps p.tables e below (s₁.setTop (mkF m 2 #[.val (.ref a1), .val (.ref a2), .unset] [(.ref a2), (.ref a1)])) t → Steps p.tables e below (s₁.setTop (entryFrame m #[(.ref a1), (.ref a2)] 3)) t := fun t kt => by
    refine pre0 t ?_
    show Steps p.tables e below (s₁.setTop (mkF m 0 #[.val (.ref a1), .val (.ref a2), .unset] [])) _
    refine XS.aloadN X0.here hx rfl (hb hby d25_0) rfl rfl ?_
    refine XS.aloadN X0.here hx rfl (hb hby d25_1) rfl rfl ?_
    show Steps p.tables e below (s₁.setTop (mkF m 2 #[.val (.ref a1), .val (.ref a2), .unset] [(.ref a2), (.ref a1)])) _
    exact kt
  by_cases hc2_102 : ((.ref a1) : Value) = (.ref a2)
  · skip
    obtain ⟨fs, hr, hrun, hended, hW, hsame⟩ := X0.leave (v := some (.int (1 : Int32))) (fun h => by rw [Bd.returns] at h; cases h)
    refine ⟨_, _, pre101 _ ?_, hrun, hended, _, _, rfl, ?_, ⟨_, rfl⟩, hW, hsame.mono (by decide) (by decide)⟩
    · skip
      show Steps p.tables e below (s₁.setTop (mkF m 2 #[.val (.ref a1), .val (.ref a2), .unset] [(.ref a2), (.ref a1)])) _
      refine Jvm.RoadKit.acmp (g := (mkF m 2 #[.val (.ref a1), .val (.ref a2), .unset] [(.ref a2), (.ref a1)])) X0 hx rfl rfl rfl (pc0 := 2) (pc' := 5) (same := true) rfl (hb hby d25_2) rfl (decide_eq_true (hc2_102 : ((.ref a1) : Value) = (.ref a2))) (by decide) (by decide) ?_
      show Steps p.tables e below (s₁.setTop (mkF m 5 #[.val (.ref a1), .val (.ref a2), .unset] [])) _
      refine XS.iconst X0.here hx rfl (hb hby d25_5) ?_
      show Steps p.tables e below (s₁.setTop (mkF m 6 #[.val (.ref a1), .val (.ref a2), .unset] [(.int (1 : Int32))])) _
      exact retN X0 hx (t := .boolean) Bd.returns (by simp) (hb hby d25_6) hr
    · show Q25e0 Z a1 a2 cz b1 k1 b2 k2 h0 n0 _ s₁.heap _
      rw [e0]
      exact ⟨rfl, N0, rfl⟩
  · skip
    obtain ⟨T103, X103, e103, st103⟩ := instY X0 hx hZ hown (own_w hw 169 rfl) e0 (Ins.self H6) (g := (mkF m 8 #[.val (.ref a1), .val (.ref a2), .unset] [(.ref a2)])) rfl rfl (hb hby d25_8)
    obtain ⟨T104, X104, e104, st104⟩ := castY X103 hx hZ hown (own_w hw 169 rfl) e103 (Ins.self H6) (g := (mkF m 15 #[.val (.ref a1), .val (.ref a2), .unset] [(.ref a2)])) rfl rfl (hb hby d25_15)
    obtain ⟨T105, X105, e105, st105⟩ := getS2 X104 hx hZ hown (host := "") (Or.inl (own_w hw 170 rfl)) Via.refl e104 H0 (g := (mkF m 19 #[.val (.ref a1), .val (.ref a2), .val (.ref a2)] [])) rfl (hb hby d25_19)
    obtain ⟨T106, X106, e106, st106⟩ := getF X105 hx hZ hown (host := "") (Or.inl (own_w hw 163 rfl)) Via.refl e105 H3 (g := (mkF m 26 #[.val (.ref a1), .val (.ref a2), .val (.ref a2)] [(.ref a1)])) rfl rfl (hb hby d25_26)
    obtain ⟨T107, X107, e107, st107⟩ := getF X106 hx hZ hown (host := "") (Or.inl (own_w hw 163 rfl)) Via.refl e106 H7 (g := (mkF m 30 #[.val (.ref a1), .val (.ref a2), .val (.ref a2)] [(.ref a2), (.int (0 : Int32))])) rfl rfl (hb hby d25_30)
    obtain ⟨T108, X108, e108, st108⟩ := getF X107 hx hZ hown (host := "") (Or.inl (own_w hw 162 rfl)) Via.refl e107 H4 (g := (mkF m 37 #[.val (.ref a1), .val (.ref a2), .val (.ref a2)] [(.ref a1)])) rfl rfl (hb hby d25_37)
    obtain ⟨T109, X109, e109, st109⟩ := getF X108 hx hZ hown (host := "") (Or.inl (own_w hw 162 rfl)) Via.refl e108 H8 (g := (mkF m 41 #[.val (.ref a1), .val (.ref a2), .val (.ref a2)] [(.ref a2), (.ref b1)])) rfl rfl (hb hby d25_41)
    obtain ⟨_, _, ⟨T110, L110, k110, n110⟩, -, X110, ⟨Lc110, hQ110, l110, y110, z110⟩, st110⟩ := Jvm.LawKit.callS X109 hx (y := (⟨"java/lang/StringLatin1", "equals", "([B[B)Z"⟩ : MethodName)) hown (mvT hZ (own_w hw 171 rfl)) (mvT hZ (own_w hw 172 rfl)) (mvT hZ (own_w hw 173 rfl)) (mvT hZ (own_w hw 174 rfl)) (by decide) (backOf (W := 0) (rm26x27 l Z a0 hw [] b1 b2 k1 k2 h0 n0 Z0 H5 H9) hZ (own_w hw 174 rfl) (own_w hw 173 rfl) (by decide) (by decide)) (g := (mkF m 44 #[.val (.ref a1), .val (.ref a2), .val (.ref a2)] [(.ref b2), (.ref b1)])) rfl (by rw [hml]; rfl) (argsL := [(.ref b1), (.ref b2)]) (rest := []) (lenOf pd_19 rfl) rfl (by show 2 * 0 + _ ≤ _; exact Nat.le_of_eq rfl) (hb hby d25_44) (fun _ _ => ⟨rfl, e109, (by decide : 0 + 0 ≤ _), (by decide : 0 + 0 ≤ _)⟩)
    dsimp only [Pt.U, Pt.locs, Pt.cells, Pt.slots] at X110 l110 y110 z110 st110 hQ110
    subst l110 y110 z110
    obtain ⟨rfl, Nq110, Heq110⟩ := hQ110
    have N110 := Fr.app N0 Nq110
    obtain ⟨fs, hr, hrun, hended, hW, hsame⟩ := X110.leave (v := some (.int (1 : Int32))) (fun h => by rw [Bd.returns] at h; cases h)
    refine ⟨_, _, pre101 _ ?_, hrun, hended, _, _, rfl, ?_, ⟨_, rfl⟩, hW, hsame.mono (by decide) (by decide)⟩
    · skip
      show Steps p.tables e below (s₁.setTop (mkF m 2 #[.val (.ref a1), .val (.ref a2), .unset] [(.ref a2), (.ref a1)])) _
      refine Jvm.RoadKit.acmp (g := (mkF m 2 #[.val (.ref a1), .val (.ref a2), .unset] [(.ref a2), (.ref a1)])) X0 hx rfl rfl rfl (pc0 := 2) (pc' := 7) (same := false) rfl (hb hby d25_2) rfl (decide_eq_false (hc2_102 : ¬ (((.ref a1) : Value) = (.ref a2)))) (by decide) (by decide) ?_
      show Steps p.tables e below (s₁.setTop (mkF m 7 #[.val (.ref a1), .val (.ref a2), .unset] [])) _
      refine XS.aloadN X0.here hx rfl (hb hby d25_7) rfl rfl ?_
      refine st103 _ ?_
      refine XS.ifNo X103.here hx rfl (hb hby d25_11) rfl ((if0 _ _).trans (feq (by decide : ¬ ((1 : Int32) = (0 : Int32)))).1) ?_
      refine XS.aloadN X103.here hx rfl (hb hby d25_14) rfl rfl ?_
      refine st104 _ ?_
      refine XS.astoreN X104.here hx rfl (hb hby d25_18) rfl rfl (l' := #[.val (.ref a1), .val (.ref a2), .val (.ref a2)]) rfl ?_
      refine st105 _ ?_
      refine XS.ifNo X105.here hx rfl (hb hby d25_22) rfl ((if0 _ _).trans (feq (H1 : ¬ (cz = (0 : Int32)))).1) ?_
      refine XS.aloadN X105.here hx rfl (hb hby d25_25) rfl rfl ?_
      refine st106 _ ?_
      refine XS.aloadN X106.here hx rfl (hb hby d25_29) rfl rfl ?_
      refine st107 _ ?_
      refine XS.icmpNo X107.here hx rfl (hb hby d25_33) rfl (teq (by decide : (0 : Int32) = (0 : Int32))).2 ?_
      refine XS.aloadN X107.here hx rfl (hb hby d25_36) rfl rfl ?_
      show Steps p.tables e below (T107.setTop (mkF m 37 #[.val (.ref a1), .val (.ref a2), .val (.ref a2)] [(.ref a1)])) _
      refine st108 _ ?_
      refine XS.aloadN X108.here hx rfl (hb hby d25_40) rfl rfl ?_
      refine st109 _ ?_
      refine st110 _ ?_
      refine XS.ifNo X110.here hx rfl (hb hby d25_47) rfl ((if0 _ _).trans (feq (by decide : ¬ ((1 : Int32) = (0 : Int32)))).1) ?_
      refine XS.iconst X110.here hx rfl (hb hby d25_50) ?_
      refine XS.goto X110.here hx rfl (pc0 := 51) (pc' := 55) rfl (hb hby d25_51) (by decide) (by decide) ?_
      show Steps p.tables e below (T110.setTop (mkF m 55 #[.val (.ref a1), .val (.ref a2), .val (.ref a2)] [(.int (1 : Int32))])) _
      exact retN X110 hx (t := .boolean) Bd.returns (by simp) (hb hby d25_55) hr
    · show Q25e0 Z a1 a2 cz b1 k1 b2 k2 h0 n0 _ T110.heap _
      rw [Heq110]
      exact ⟨rfl, N110, rfl⟩
theorem d26_15 : decode jdk_43_method_13_code 15 = .ok (.aload_n 0, 1) := by decide +kernel
theorem d26_16 : decode jdk_43_method_13_code 16 = .ok (.iload_n 2, 1) := by decide +kernel
theorem d26_17 : decode jdk_43_method_13_code 17 = .ok (.baload, 1) := by decide +kernel
theorem d26_18 : decode jdk_43_method_13_code 18 = .ok (.aload_n 1, 1) := by decide +kernel
theorem d26_19 : decode jdk_43_method_13_code 19 = .ok (.iload_n 2, 1) := by decide +kernel
theorem d26_20 : decode jdk_43_method_13_code 20 = .ok (.baload, 1) := by decide +kernel
theorem d26_21 : decode jdk_43_method_13_code 21 = .ok (.if_icmp .eq 5, 3) := by decide +kernel
theorem d26_26 : decode jdk_43_method_13_code 26 = .ok (.iinc 2 1, 3) := by decide +kernel
theorem d26_29 : decode jdk_43_method_13_code 29 = .ok (.goto (-20), 3) := by decide +kernel
theorem ef_26x28 (m : MethodId) (ra0 : Addr) (ra1 : Addr) : entryFrame m #[(.ref ra0), (.ref ra1)] 3 = mkF m 0 #[.val (.ref ra0), .val (.ref ra1), .unset] [] := by first | (simp [entryFrame, mkF, argsToLocals, Value.category]; done) | rfl
def Q26x28 (Z : State) (ra0 : Addr) (ra1 : Addr) (ui1 : Int32) (uk2 : ClassId) (uk3 : ClassId) (h0 : Heap) (n0 : Nat) (v : Option Value) (h : Heap) (L : List Loc) : Prop := v = some (.int (1 : Int32)) ∧ Fr n0 L ∧ h = h0
set_option maxRecDepth 65536 in
set_option maxHeartbeats 40000000 in
theorem rm26x28 (l : Launch) (Z : State) (a0 : Array Value) (hw : ∀ d ∈ tables_1, d.before a0 Z = true) (ws : List Jvm.Cond) (ra0 : Addr) (ra1 : Addr) (ui1 : Int32) (uk2 : ClassId) (uk3 : ClassId) (h0 : Heap) (n0 : Nat) (Z0 : n0 ≤ h0.size) (H0 : Arv Z h0 ra0 uk2 .byte (1 : Int32) [(.int ui1)] (.int (0 : Int32))) (H1 : Arv Z h0 ra1 uk3 .byte (1 : Int32) [(.int ui1)] (.int (0 : Int32))) :
    own_MF l (⟨"java/lang/StringLatin1", "equals", "([B[B)Z"⟩ : MethodName) (Jvm.Cond.code (⟨"java/lang/StringLatin1", "equals", "([B[B)Z"⟩ : MethodName) jdk_43_method_13_code 3 (some .boolean) :: ws) ({ frames := 0, cells := 0, slots := 0, locals := 0 } : Room) #[(.ref ra0), (.ref ra1)] Z h0 (Q26x28 Z ra0 ra1 ui1 uk2 uk3 h0 n0) := by
  refine MetFree.of_bodySF (plainFor_of_name pn_java_lang_StringLatin1) hisR ?_
  intro p e s m args below meth c s₁ Bd hml0 hP hK
  obtain ⟨rfl, hZ, hh⟩ := hP
  have hx := Bd.exec
  have hby := Bd.bytes
  have hml : c.maxLocals = 3 := hml0
  have hown : s.vm.findClass "java/lang/StringLatin1" = some m.cls := findClass_of_methodNamed Bd.named
  have hnm := (name_of_methodNamed Bd.named Bd.method).1
  have X0 : Stand p l e ({ frames := 0, cells := 0, slots := 0, locals := 0 } : Room) s m #[(.ref ra0), (.ref ra1)] below meth c s₁ [] 0 0 := Stand.of_body Bd
  have e0 : s₁.heap = h0 := by rw [← hh, Bd.state]; rfl
  have N0 := Fr.nil n0
  have pre0 : ∀ t, Steps p.tables e below (s₁.setTop (mkF m 0 #[.val (.ref ra0), .val (.ref ra1), .unset] [])) t → Steps p.tables e below (s₁.setTop (entryFrame m #[(.ref ra0), (.ref ra1)] 3)) t := fun t k => castTop (ef_26x28 m ra0 ra1) k
  obtain ⟨cl101, Ar101, -, S101, M101, -, -⟩ := id H0
  obtain ⟨cl102, Ar102, -, S102, M102, -, -⟩ := id H1
  obtain ⟨cl103, Ar103, -, S103, M103, -, -⟩ := id H0
  obtain ⟨cl104, Ar104, qc104, S104, M104, Hh104, G104⟩ := id H0
  have hin104 : ¬ ((0 : Int32) < 0 ∨ cl104.slots.size ≤ ((0 : Int32)).toNatClampNeg) := inb_of S104 ⟨by decide, by decide⟩
  obtain ⟨cl105, Ar105, qc105, S105, M105, Hh105, G105⟩ := id H1
  have hin105 : ¬ ((0 : Int32) < 0 ∨ cl105.slots.size ≤ ((0 : Int32)).toNatClampNeg) := inb_of S105 ⟨by decide, by decide⟩
  obtain ⟨cl106, Ar106, -, S106, M106, -, -⟩ := id H0
  obtain ⟨fs, hr, hrun, hended, hW, hsame⟩ := X0.leave (v := some (.int (1 : Int32))) (fun h => by rw [Bd.returns] at h; cases h)
  refine ⟨_, _, pre0 _ ?_, hrun, hended, _, _, rfl, ?_, ⟨_, rfl⟩, hW, hsame.mono (by decide) (by decide)⟩
  · skip
    show Steps p.tables e below (s₁.setTop (mkF m 0 #[.val (.ref ra0), .val (.ref ra1), .unset] [])) _
    refine XS.aloadN X0.here hx rfl (hb hby d26_0) rfl rfl ?_
    show Steps p.tables e below (s₁.setTop (mkF m 1 #[.val (.ref ra0), .val (.ref ra1), .unset] [(.ref ra0)])) _
    refine X0.arraylength hx (by rw [e0]; exact Ar101.1) (State.isArrayOf_alike hZ.alike Ar101.2.1) (g := (mkF m 1 #[.val (.ref ra0), .val (.ref ra1), .unset] [(.ref ra0)])) rfl rfl (hb hby d26_1) _ ?_
    rw [len_of S101 M101]
    show Steps p.tables e below (s₁.setTop (mkF m 2 #[.val (.ref ra0), .val (.ref ra1), .unset] [(.int (1 : Int32))])) _
    refine XS.aloadN X0.here hx rfl (hb hby d26_2) rfl rfl ?_
    show Steps p.tables e below (s₁.setTop (mkF m 3 #[.val (.ref ra0), .val (.ref ra1), .unset] [(.ref ra1), (.int (1 : Int32))])) _
    refine X0.arraylength hx (by rw [e0]; exact Ar102.1) (State.isArrayOf_alike hZ.alike Ar102.2.1) (g := (mkF m 3 #[.val (.ref ra0), .val (.ref ra1), .unset] [(.ref ra1), (.int (1 : Int32))])) rfl rfl (hb hby d26_3) _ ?_
    rw [len_of S102 M102]
    show Steps p.tables e below (s₁.setTop (mkF m 4 #[.val (.ref ra0), .val (.ref ra1), .unset] [(.int (1 : Int32)), (.int (1 : Int32))])) _
    refine XS.icmpNo X0.here hx rfl (hb hby d26_4) rfl (teq (by decide : (1 : Int32) = (1 : Int32))).2 ?_
    refine XS.iconst X0.here hx rfl (hb hby d26_7) ?_
    refine XS.istoreN X0.here hx rfl (hb hby d26_8) rfl (l' := #[.val (.ref ra0), .val (.ref ra1), .val (.int (0 : Int32))]) rfl ?_
    refine XS.iloadN X0.here hx rfl (hb hby d26_9) rfl ?_
    refine XS.aloadN X0.here hx rfl (hb hby d26_10) rfl rfl ?_
    show Steps p.tables e below (s₁.setTop (mkF m 11 #[.val (.ref ra0), .val (.ref ra1), .val (.int (0 : Int32))] [(.ref ra0), (.int (0 : Int32))])) _
    refine X0.arraylength hx (by rw [e0]; exact Ar103.1) (State.isArrayOf_alike hZ.alike Ar103.2.1) (g := (mkF m 11 #[.val (.ref ra0), .val (.ref ra1), .val (.int (0 : Int32))] [(.ref ra0), (.int (0 : Int32))])) rfl rfl (hb hby d26_11) _ ?_
    rw [len_of S103 M103]
    show Steps p.tables e below (s₁.setTop (mkF m 12 #[.val (.ref ra0), .val (.ref ra1), .val (.int (0 : Int32))] [(.int (1 : Int32)), (.int (0 : Int32))])) _
    refine XS.icmpNo X0.here hx rfl (hb hby d26_12) rfl (tlt (by decide : (0 : Int32) < (1 : Int32))).2.1 ?_
    refine XS.aloadN X0.here hx rfl (hb hby d26_15) rfl rfl ?_
    refine XS.iloadN X0.here hx rfl (hb hby d26_16) rfl ?_
    show Steps p.tables e below (s₁.setTop (mkF m 17 #[.val (.ref ra0), .val (.ref ra1), .val (.int (0 : Int32))] [(.int (0 : Int32)), (.ref ra0)])) _
    refine X0.baloadBytes hx (j := (0 : Int32)) (v := (.int ui1)) (by rw [e0]; exact Ar104.1) (State.isArrayOf_alike hZ.alike Ar104.2.1) Ar104.2.2 hin104 (Hh104.at hin104 (rfl)) (g := (mkF m 17 #[.val (.ref ra0), .val (.ref ra1), .val (.int (0 : Int32))] [(.int (0 : Int32)), (.ref ra0)])) rfl rfl (hb hby d26_17) _ ?_
    show Steps p.tables e below (s₁.setTop (mkF m 18 #[.val (.ref ra0), .val (.ref ra1), .val (.int (0 : Int32))] [(.int ui1)])) _
    refine XS.aloadN X0.here hx rfl (hb hby d26_18) rfl rfl ?_
    refine XS.iloadN X0.here hx rfl (hb hby d26_19) rfl ?_
    show Steps p.tables e below (s₁.setTop (mkF m 20 #[.val (.ref ra0), .val (.ref ra1), .val (.int (0 : Int32))] [(.int (0 : Int32)), (.ref ra1), (.int ui1)])) _
    refine X0.baloadBytes hx (j := (0 : Int32)) (v := (.int ui1)) (by rw [e0]; exact Ar105.1) (State.isArrayOf_alike hZ.alike Ar105.2.1) Ar105.2.2 hin105 (Hh105.at hin105 (rfl)) (g := (mkF m 20 #[.val (.ref ra0), .val (.ref ra1), .val (.int (0 : Int32))] [(.int (0 : Int32)), (.ref ra1), (.int ui1)])) rfl rfl (hb hby d26_20) _ ?_
    show Steps p.tables e below (s₁.setTop (mkF m 21 #[.val (.ref ra0), .val (.ref ra1), .val (.int (0 : Int32))] [(.int ui1), (.int ui1)])) _
    refine XS.icmpYes X0.here hx rfl (pc0 := 21) (pc' := 26) rfl (hb hby d26_21) rfl (teq (rfl : ui1 = ui1)).1 (by decide) (by decide) ?_
    show Steps p.tables e below (s₁.setTop (mkF m 26 #[.val (.ref ra0), .val (.ref ra1), .val (.int (0 : Int32))] [])) _
    refine XS.iinc X0.here hx rfl (hb hby d26_26) rfl (l' := #[.val (.ref ra0), .val (.ref ra1), .val (.int ((0 : Int32) + (1 : Int32)))]) rfl ?_
    show Steps p.tables e below (s₁.setTop (mkF m 29 #[.val (.ref ra0), .val (.ref ra1), .val (.int ((0 : Int32) + (1 : Int32)))] [])) _
    rw [show ((0 : Int32) + (1 : Int32)) = (1 : Int32) from by decide]
    show Steps p.tables e below (s₁.setTop (mkF m 29 #[.val (.ref ra0), .val (.ref ra1), .val (.int (1 : Int32))] [])) _
    refine XS.goto X0.here hx rfl (pc0 := 29) (pc' := 9) rfl (hb hby d26_29) (by decide) (by decide) ?_
    refine XS.iloadN X0.here hx rfl (hb hby d26_9) rfl ?_
    refine XS.aloadN X0.here hx rfl (hb hby d26_10) rfl rfl ?_
    show Steps p.tables e below (s₁.setTop (mkF m 11 #[.val (.ref ra0), .val (.ref ra1), .val (.int (1 : Int32))] [(.ref ra0), (.int (1 : Int32))])) _
    refine X0.arraylength hx (by rw [e0]; exact Ar106.1) (State.isArrayOf_alike hZ.alike Ar106.2.1) (g := (mkF m 11 #[.val (.ref ra0), .val (.ref ra1), .val (.int (1 : Int32))] [(.ref ra0), (.int (1 : Int32))])) rfl rfl (hb hby d26_11) _ ?_
    rw [len_of S106 M106]
    show Steps p.tables e below (s₁.setTop (mkF m 12 #[.val (.ref ra0), .val (.ref ra1), .val (.int (1 : Int32))] [(.int (1 : Int32)), (.int (1 : Int32))])) _
    refine XS.icmpYes X0.here hx rfl (pc0 := 12) (pc' := 32) rfl (hb hby d26_12) rfl (flt (by decide : ¬ ((1 : Int32) < (1 : Int32)))).2.1 (by decide) (by decide) ?_
    refine XS.iconst X0.here hx rfl (hb hby d26_32) ?_
    show Steps p.tables e below (s₁.setTop (mkF m 33 #[.val (.ref ra0), .val (.ref ra1), .val (.int (1 : Int32))] [(.int (1 : Int32))])) _
    exact retN X0 hx (t := .boolean) Bd.returns (by simp) (hb hby d26_33) hr
  · show Q26x28 Z ra0 ra1 ui1 uk2 uk3 h0 n0 _ s₁.heap _
    rw [e0]
    exact ⟨rfl, N0, rfl⟩
theorem ef_25e1 (m : MethodId) (a1 : Addr) (a2 : Addr) : entryFrame m #[(.ref a1), (.ref a2)] 3 = mkF m 0 #[.val (.ref a1), .val (.ref a2), .unset] [] := by first | (simp [entryFrame, mkF, argsToLocals, Value.category]; done) | rfl
def Q25e1 (Z : State) (a1 : Addr) (a2 : Addr) (cz : Int32) (b1 : Addr) (k1 : ClassId) (b2 : Addr) (k2 : ClassId) (y0 : Int32) (h0 : Heap) (n0 : Nat) (v : Option Value) (h : Heap) (L : List Loc) : Prop := v = some (.int (1 : Int32)) ∧ Fr n0 L ∧ h = h0
set_option maxRecDepth 65536 in
set_option maxHeartbeats 40000000 in
theorem rm25e1 (l : Launch) (Z : State) (a0 : Array Value) (hw : ∀ d ∈ tables_1, d.before a0 Z = true) (ws : List Jvm.Cond) (a1 : Addr) (a2 : Addr) (cz : Int32) (b1 : Addr) (k1 : ClassId) (b2 : Addr) (k2 : ClassId) (y0 : Int32) (h0 : Heap) (n0 : Nat) (Z0 : n0 ≤ h0.size) (H0 : Sta Z h0 "java/lang/String" "COMPACT_STRINGS" "Z" (.int cz)) (H1 : ¬ (cz = (0 : Int32))) (H2 : Exa Z h0 a1 "java/lang/String") (H3 : Fld Z h0 a1 "java/lang/String" "coder" "B" (.int (0 : Int32))) (H4 : Fld Z h0 a1 "java/lang/String" "value" "[B" (.ref b1)) (H5 : Arv Z h0 b1 k1 .byte (1 : Int32) [(.int y0)] (.int (0 : Int32))) (H6 : Exa Z h0 a2 "java/lang/String") (H7 : Fld Z h0 a2 "java/lang/String" "coder" "B" (.int (0 : Int32))) (H8 : Fld Z h0 a2 "java/lang/String" "value" "[B" (.ref b2)) (H9 : Arv Z h0 b2 k2 .byte (1 : Int32) [(.int y0)] (.int (0 : Int32))) :
    own_MF l (⟨"java/lang/String", "equals", "(Ljava/lang/Object;)Z"⟩ : MethodName) (Jvm.Cond.code (⟨"java/lang/String", "equals", "(Ljava/lang/Object;)Z"⟩ : MethodName) jdk_42_method_66_code 3 (some .boolean) :: ws) ({ frames := 2, cells := 0, slots := 0, locals := 40 } : Room) #[(.ref a1), (.ref a2)] Z h0 (Q25e1 Z a1 a2 cz b1 k1 b2 k2 y0 h0 n0) := by
  refine MetFree.of_bodySF (plainFor_of_name pn_java_lang_String) hisR ?_
  intro p e s m args below meth c s₁ Bd hml0 hP hK
  obtain ⟨rfl, hZ, hh⟩ := hP
  have hx := Bd.exec
  have hby := Bd.bytes
  have hml : c.maxLocals = 3 := hml0
  have hown : s.vm.findClass "java/lang/String" = some m.cls := findClass_of_methodNamed Bd.named
  have hnm := (name_of_methodNamed Bd.named Bd.method).1
  have X0 : Stand p l e ({ frames := 2, cells := 0, slots := 0, locals := 40 } : Room) s m #[(.ref a1), (.ref a2)] below meth c s₁ [] 0 0 := Stand.of_body Bd
  have e0 : s₁.heap = h0 := by rw [← hh, Bd.state]; rfl
  have N0 := Fr.nil n0
  have pre0 : ∀ t, Steps p.tables e below (s₁.setTop (mkF m 0 #[.val (.ref a1), .val (.ref a2), .unset] [])) t → Steps p.tables e below (s₁.setTop (entryFrame m #[(.ref a1), (.ref a2)] 3)) t := fun t k => castTop (ef_25e1 m a1 a2) k
  have pre101 : ∀ t, Steps p.tables e below (s₁.setTop (mkF m 2 #[.val (.ref a1), .val (.ref a2), .unset] [(.ref a2), (.ref a1)])) t → Steps p.tables e below (s₁.setTop (entryFrame m #[(.ref a1), (.ref a2)] 3)) t := fun t kt => by
    refine pre0 t ?_
    show Steps p.tables e below (s₁.setTop (mkF m 0 #[.val (.ref a1), .val (.ref a2), .unset] [])) _
    refine XS.aloadN X0.here hx rfl (hb hby d25_0) rfl rfl ?_
    refine XS.aloadN X0.here hx rfl (hb hby d25_1) rfl rfl ?_
    show Steps p.tables e below (s₁.setTop (mkF m 2 #[.val (.ref a1), .val (.ref a2), .unset] [(.ref a2), (.ref a1)])) _
    exact kt
  by_cases hc2_102 : ((.ref a1) : Value) = (.ref a2)
  · skip
    obtain ⟨fs, hr, hrun, hended, hW, hsame⟩ := X0.leave (v := some (.int (1 : Int32))) (fun h => by rw [Bd.returns] at h; cases h)
    refine ⟨_, _, pre101 _ ?_, hrun, hended, _, _, rfl, ?_, ⟨_, rfl⟩, hW, hsame.mono (by decide) (by decide)⟩
    · skip
      show Steps p.tables e below (s₁.setTop (mkF m 2 #[.val (.ref a1), .val (.ref a2), .unset] [(.ref a2), (.ref a1)])) _
      refine Jvm.RoadKit.acmp (g := (mkF m 2 #[.val (.ref a1), .val (.ref a2), .unset] [(.ref a2), (.ref a1)])) X0 hx rfl rfl rfl (pc0 := 2) (pc' := 5) (same := true) rfl (hb hby d25_2) rfl (decide_eq_true (hc2_102 : ((.ref a1) : Value) = (.ref a2))) (by decide) (by decide) ?_
      show Steps p.tables e below (s₁.setTop (mkF m 5 #[.val (.ref a1), .val (.ref a2), .unset] [])) _
      refine XS.iconst X0.here hx rfl (hb hby d25_5) ?_
      show Steps p.tables e below (s₁.setTop (mkF m 6 #[.val (.ref a1), .val (.ref a2), .unset] [(.int (1 : Int32))])) _
      exact retN X0 hx (t := .boolean) Bd.returns (by simp) (hb hby d25_6) hr
    · show Q25e1 Z a1 a2 cz b1 k1 b2 k2 y0 h0 n0 _ s₁.heap _
      rw [e0]
      exact ⟨rfl, N0, rfl⟩
  · skip
    obtain ⟨T103, X103, e103, st103⟩ := instY X0 hx hZ hown (own_w hw 169 rfl) e0 (Ins.self H6) (g := (mkF m 8 #[.val (.ref a1), .val (.ref a2), .unset] [(.ref a2)])) rfl rfl (hb hby d25_8)
    obtain ⟨T104, X104, e104, st104⟩ := castY X103 hx hZ hown (own_w hw 169 rfl) e103 (Ins.self H6) (g := (mkF m 15 #[.val (.ref a1), .val (.ref a2), .unset] [(.ref a2)])) rfl rfl (hb hby d25_15)
    obtain ⟨T105, X105, e105, st105⟩ := getS2 X104 hx hZ hown (host := "") (Or.inl (own_w hw 170 rfl)) Via.refl e104 H0 (g := (mkF m 19 #[.val (.ref a1), .val (.ref a2), .val (.ref a2)] [])) rfl (hb hby d25_19)
    obtain ⟨T106, X106, e106, st106⟩ := getF X105 hx hZ hown (host := "") (Or.inl (own_w hw 163 rfl)) Via.refl e105 H3 (g := (mkF m 26 #[.val (.ref a1), .val (.ref a2), .val (.ref a2)] [(.ref a1)])) rfl rfl (hb hby d25_26)
    obtain ⟨T107, X107, e107, st107⟩ := getF X106 hx hZ hown (host := "") (Or.inl (own_w hw 163 rfl)) Via.refl e106 H7 (g := (mkF m 30 #[.val (.ref a1), .val (.ref a2), .val (.ref a2)] [(.ref a2), (.int (0 : Int32))])) rfl rfl (hb hby d25_30)
    obtain ⟨T108, X108, e108, st108⟩ := getF X107 hx hZ hown (host := "") (Or.inl (own_w hw 162 rfl)) Via.refl e107 H4 (g := (mkF m 37 #[.val (.ref a1), .val (.ref a2), .val (.ref a2)] [(.ref a1)])) rfl rfl (hb hby d25_37)
    obtain ⟨T109, X109, e109, st109⟩ := getF X108 hx hZ hown (host := "") (Or.inl (own_w hw 162 rfl)) Via.refl e108 H8 (g := (mkF m 41 #[.val (.ref a1), .val (.ref a2), .val (.ref a2)] [(.ref a2), (.ref b1)])) rfl rfl (hb hby d25_41)
    obtain ⟨_, _, ⟨T110, L110, k110, n110⟩, -, X110, ⟨Lc110, hQ110, l110, y110, z110⟩, st110⟩ := Jvm.LawKit.callS X109 hx (y := (⟨"java/lang/StringLatin1", "equals", "([B[B)Z"⟩ : MethodName)) hown (mvT hZ (own_w hw 171 rfl)) (mvT hZ (own_w hw 172 rfl)) (mvT hZ (own_w hw 173 rfl)) (mvT hZ (own_w hw 174 rfl)) (by decide) (backOf (W := 0) (rm26x28 l Z a0 hw [] b1 b2 y0 k1 k2 h0 n0 Z0 H5 H9) hZ (own_w hw 174 rfl) (own_w hw 173 rfl) (by decide) (by decide)) (g := (mkF m 44 #[.val (.ref a1), .val (.ref a2), .val (.ref a2)] [(.ref b2), (.ref b1)])) rfl (by rw [hml]; rfl) (argsL := [(.ref b1), (.ref b2)]) (rest := []) (lenOf pd_19 rfl) rfl (by show 2 * 0 + _ ≤ _; exact Nat.le_of_eq rfl) (hb hby d25_44) (fun _ _ => ⟨rfl, e109, (by decide : 0 + 0 ≤ _), (by decide : 0 + 0 ≤ _)⟩)
    dsimp only [Pt.U, Pt.locs, Pt.cells, Pt.slots] at X110 l110 y110 z110 st110 hQ110
    subst l110 y110 z110
    obtain ⟨rfl, Nq110, Heq110⟩ := hQ110
    have N110 := Fr.app N0 Nq110
    obtain ⟨fs, hr, hrun, hended, hW, hsame⟩ := X110.leave (v := some (.int (1 : Int32))) (fun h => by rw [Bd.returns] at h; cases h)
    refine ⟨_, _, pre101 _ ?_, hrun, hended, _, _, rfl, ?_, ⟨_, rfl⟩, hW, hsame.mono (by decide) (by decide)⟩
    · skip
      show Steps p.tables e below (s₁.setTop (mkF m 2 #[.val (.ref a1), .val (.ref a2), .unset] [(.ref a2), (.ref a1)])) _
      refine Jvm.RoadKit.acmp (g := (mkF m 2 #[.val (.ref a1), .val (.ref a2), .unset] [(.ref a2), (.ref a1)])) X0 hx rfl rfl rfl (pc0 := 2) (pc' := 7) (same := false) rfl (hb hby d25_2) rfl (decide_eq_false (hc2_102 : ¬ (((.ref a1) : Value) = (.ref a2)))) (by decide) (by decide) ?_
      show Steps p.tables e below (s₁.setTop (mkF m 7 #[.val (.ref a1), .val (.ref a2), .unset] [])) _
      refine XS.aloadN X0.here hx rfl (hb hby d25_7) rfl rfl ?_
      refine st103 _ ?_
      refine XS.ifNo X103.here hx rfl (hb hby d25_11) rfl ((if0 _ _).trans (feq (by decide : ¬ ((1 : Int32) = (0 : Int32)))).1) ?_
      refine XS.aloadN X103.here hx rfl (hb hby d25_14) rfl rfl ?_
      refine st104 _ ?_
      refine XS.astoreN X104.here hx rfl (hb hby d25_18) rfl rfl (l' := #[.val (.ref a1), .val (.ref a2), .val (.ref a2)]) rfl ?_
      refine st105 _ ?_
      refine XS.ifNo X105.here hx rfl (hb hby d25_22) rfl ((if0 _ _).trans (feq (H1 : ¬ (cz = (0 : Int32)))).1) ?_
      refine XS.aloadN X105.here hx rfl (hb hby d25_25) rfl rfl ?_
      refine st106 _ ?_
      refine XS.aloadN X106.here hx rfl (hb hby d25_29) rfl rfl ?_
      refine st107 _ ?_
      refine XS.icmpNo X107.here hx rfl (hb hby d25_33) rfl (teq (by decide : (0 : Int32) = (0 : Int32))).2 ?_
      refine XS.aloadN X107.here hx rfl (hb hby d25_36) rfl rfl ?_
      show Steps p.tables e below (T107.setTop (mkF m 37 #[.val (.ref a1), .val (.ref a2), .val (.ref a2)] [(.ref a1)])) _
      refine st108 _ ?_
      refine XS.aloadN X108.here hx rfl (hb hby d25_40) rfl rfl ?_
      refine st109 _ ?_
      refine st110 _ ?_
      refine XS.ifNo X110.here hx rfl (hb hby d25_47) rfl ((if0 _ _).trans (feq (by decide : ¬ ((1 : Int32) = (0 : Int32)))).1) ?_
      refine XS.iconst X110.here hx rfl (hb hby d25_50) ?_
      refine XS.goto X110.here hx rfl (pc0 := 51) (pc' := 55) rfl (hb hby d25_51) (by decide) (by decide) ?_
      show Steps p.tables e below (T110.setTop (mkF m 55 #[.val (.ref a1), .val (.ref a2), .val (.ref a2)] [(.int (1 : Int32))])) _
      exact retN X110 hx (t := .boolean) Bd.returns (by simp) (hb hby d25_55) hr
    · show Q25e1 Z a1 a2 cz b1 k1 b2 k2 y0 h0 n0 _ T110.heap _
      rw [Heq110]
      exact ⟨rfl, N110, rfl⟩
theorem ef_26x29 (m : MethodId) (ra0 : Addr) (ra1 : Addr) : entryFrame m #[(.ref ra0), (.ref ra1)] 3 = mkF m 0 #[.val (.ref ra0), .val (.ref ra1), .unset] [] := by first | (simp [entryFrame, mkF, argsToLocals, Value.category]; done) | rfl
def Q26x29 (Z : State) (ra0 : Addr) (ra1 : Addr) (ui1 : Int32) (ui2 : Int32) (uk3 : ClassId) (uk4 : ClassId) (h0 : Heap) (n0 : Nat) (v : Option Value) (h : Heap) (L : List Loc) : Prop := v = some (.int (1 : Int32)) ∧ Fr n0 L ∧ h = h0
set_option maxRecDepth 65536 in
set_option maxHeartbeats 40000000 in
theorem rm26x29 (l : Launch) (Z : State) (a0 : Array Value) (hw : ∀ d ∈ tables_1, d.before a0 Z = true) (ws : List Jvm.Cond) (ra0 : Addr) (ra1 : Addr) (ui1 : Int32) (ui2 : Int32) (uk3 : ClassId) (uk4 : ClassId) (h0 : Heap) (n0 : Nat) (Z0 : n0 ≤ h0.size) (H0 : Arv Z h0 ra0 uk3 .byte (2 : Int32) [(.int ui1), (.int ui2)] (.int (0 : Int32))) (H1 : Arv Z h0 ra1 uk4 .byte (2 : Int32) [(.int ui1), (.int ui2)] (.int (0 : Int32))) :
    own_MF l (⟨"java/lang/StringLatin1", "equals", "([B[B)Z"⟩ : MethodName) (Jvm.Cond.code (⟨"java/lang/StringLatin1", "equals", "([B[B)Z"⟩ : MethodName) jdk_43_method_13_code 3 (some .boolean) :: ws) ({ frames := 0, cells := 0, slots := 0, locals := 0 } : Room) #[(.ref ra0), (.ref ra1)] Z h0 (Q26x29 Z ra0 ra1 ui1 ui2 uk3 uk4 h0 n0) := by
  refine MetFree.of_bodySF (plainFor_of_name pn_java_lang_StringLatin1) hisR ?_
  intro p e s m args below meth c s₁ Bd hml0 hP hK
  obtain ⟨rfl, hZ, hh⟩ := hP
  have hx := Bd.exec
  have hby := Bd.bytes
  have hml : c.maxLocals = 3 := hml0
  have hown : s.vm.findClass "java/lang/StringLatin1" = some m.cls := findClass_of_methodNamed Bd.named
  have hnm := (name_of_methodNamed Bd.named Bd.method).1
  have X0 : Stand p l e ({ frames := 0, cells := 0, slots := 0, locals := 0 } : Room) s m #[(.ref ra0), (.ref ra1)] below meth c s₁ [] 0 0 := Stand.of_body Bd
  have e0 : s₁.heap = h0 := by rw [← hh, Bd.state]; rfl
  have N0 := Fr.nil n0
  have pre0 : ∀ t, Steps p.tables e below (s₁.setTop (mkF m 0 #[.val (.ref ra0), .val (.ref ra1), .unset] [])) t → Steps p.tables e below (s₁.setTop (entryFrame m #[(.ref ra0), (.ref ra1)] 3)) t := fun t k => castTop (ef_26x29 m ra0 ra1) k
  obtain ⟨cl101, Ar101, -, S101, M101, -, -⟩ := id H0
  obtain ⟨cl102, Ar102, -, S102, M102, -, -⟩ := id H1
  obtain ⟨cl103, Ar103, -, S103, M103, -, -⟩ := id H0
  obtain ⟨cl104, Ar104, qc104, S104, M104, Hh104, G104⟩ := id H0
  have hin104 : ¬ ((0 : Int32) < 0 ∨ cl104.slots.size ≤ ((0 : Int32)).toNatClampNeg) := inb_of S104 ⟨by decide, by decide⟩
  obtain ⟨cl105, Ar105, qc105, S105, M105, Hh105, G105⟩ := id H1
  have hin105 : ¬ ((0 : Int32) < 0 ∨ cl105.slots.size ≤ ((0 : Int32)).toNatClampNeg) := inb_of S105 ⟨by decide, by decide⟩
  obtain ⟨cl106, Ar106, -, S106, M106, -, -⟩ := id H0
  obtain ⟨cl107, Ar107, qc107, S107, M107, Hh107, G107⟩ := id H0
  have hin107 : ¬ ((1 : Int32) < 0 ∨ cl107.slots.size ≤ ((1 : Int32)).toNatClampNeg) := inb_of S107 ⟨by decide, by decide⟩
  obtain ⟨cl108, Ar108, qc108, S108, M108, Hh108, G108⟩ := id H1
  have hin108 : ¬ ((1 : Int32) < 0 ∨ cl108.slots.size ≤ ((1 : Int32)).toNatClampNeg) := inb_of S108 ⟨by decide, by decide⟩
  obtain ⟨cl109, Ar109, -, S109, M109, -, -⟩ := id H0
  obtain ⟨fs, hr, hrun, hended, hW, hsame⟩ := X0.leave (v := some (.int (1 : Int32))) (fun h => by rw [Bd.returns] at h; cases h)
  refine ⟨_, _, pre0 _ ?_, hrun, hended, _, _, rfl, ?_, ⟨_, rfl⟩, hW, hsame.mono (by decide) (by decide)⟩
  · skip
    show Steps p.tables e below (s₁.setTop (mkF m 0 #[.val (.ref ra0), .val (.ref ra1), .unset] [])) _
    refine XS.aloadN X0.here hx rfl (hb hby d26_0) rfl rfl ?_
    show Steps p.tables e below (s₁.setTop (mkF m 1 #[.val (.ref ra0), .val (.ref ra1), .unset] [(.ref ra0)])) _
    refine X0.arraylength hx (by rw [e0]; exact Ar101.1) (State.isArrayOf_alike hZ.alike Ar101.2.1) (g := (mkF m 1 #[.val (.ref ra0), .val (.ref ra1), .unset] [(.ref ra0)])) rfl rfl (hb hby d26_1) _ ?_
    rw [len_of S101 M101]
    show Steps p.tables e below (s₁.setTop (mkF m 2 #[.val (.ref ra0), .val (.ref ra1), .unset] [(.int (2 : Int32))])) _
    refine XS.aloadN X0.here hx rfl (hb hby d26_2) rfl rfl ?_
    show Steps p.tables e below (s₁.setTop (mkF m 3 #[.val (.ref ra0), .val (.ref ra1), .unset] [(.ref ra1), (.int (2 : Int32))])) _
    refine X0.arraylength hx (by rw [e0]; exact Ar102.1) (State.isArrayOf_alike hZ.alike Ar102.2.1) (g := (mkF m 3 #[.val (.ref ra0), .val (.ref ra1), .unset] [(.ref ra1), (.int (2 : Int32))])) rfl rfl (hb hby d26_3) _ ?_
    rw [len_of S102 M102]
    show Steps p.tables e below (s₁.setTop (mkF m 4 #[.val (.ref ra0), .val (.ref ra1), .unset] [(.int (2 : Int32)), (.int (2 : Int32))])) _
    refine XS.icmpNo X0.here hx rfl (hb hby d26_4) rfl (teq (by decide : (2 : Int32) = (2 : Int32))).2 ?_
    refine XS.iconst X0.here hx rfl (hb hby d26_7) ?_
    refine XS.istoreN X0.here hx rfl (hb hby d26_8) rfl (l' := #[.val (.ref ra0), .val (.ref ra1), .val (.int (0 : Int32))]) rfl ?_
    refine XS.iloadN X0.here hx rfl (hb hby d26_9) rfl ?_
    refine XS.aloadN X0.here hx rfl (hb hby d26_10) rfl rfl ?_
    show Steps p.tables e below (s₁.setTop (mkF m 11 #[.val (.ref ra0), .val (.ref ra1), .val (.int (0 : Int32))] [(.ref ra0), (.int (0 : Int32))])) _
    refine X0.arraylength hx (by rw [e0]; exact Ar103.1) (State.isArrayOf_alike hZ.alike Ar103.2.1) (g := (mkF m 11 #[.val (.ref ra0), .val (.ref ra1), .val (.int (0 : Int32))] [(.ref ra0), (.int (0 : Int32))])) rfl rfl (hb hby d26_11) _ ?_
    rw [len_of S103 M103]
    show Steps p.tables e below (s₁.setTop (mkF m 12 #[.val (.ref ra0), .val (.ref ra1), .val (.int (0 : Int32))] [(.int (2 : Int32)), (.int (0 : Int32))])) _
    refine XS.icmpNo X0.here hx rfl (hb hby d26_12) rfl (tlt (by decide : (0 : Int32) < (2 : Int32))).2.1 ?_
    refine XS.aloadN X0.here hx rfl (hb hby d26_15) rfl rfl ?_
    refine XS.iloadN X0.here hx rfl (hb hby d26_16) rfl ?_
    show Steps p.tables e below (s₁.setTop (mkF m 17 #[.val (.ref ra0), .val (.ref ra1), .val (.int (0 : Int32))] [(.int (0 : Int32)), (.ref ra0)])) _
    refine X0.baloadBytes hx (j := (0 : Int32)) (v := (.int ui1)) (by rw [e0]; exact Ar104.1) (State.isArrayOf_alike hZ.alike Ar104.2.1) Ar104.2.2 hin104 (Hh104.at hin104 (rfl)) (g := (mkF m 17 #[.val (.ref ra0), .val (.ref ra1), .val (.int (0 : Int32))] [(.int (0 : Int32)), (.ref ra0)])) rfl rfl (hb hby d26_17) _ ?_
    show Steps p.tables e below (s₁.setTop (mkF m 18 #[.val (.ref ra0), .val (.ref ra1), .val (.int (0 : Int32))] [(.int ui1)])) _
    refine XS.aloadN X0.here hx rfl (hb hby d26_18) rfl rfl ?_
    refine XS.iloadN X0.here hx rfl (hb hby d26_19) rfl ?_
    show Steps p.tables e below (s₁.setTop (mkF m 20 #[.val (.ref ra0), .val (.ref ra1), .val (.int (0 : Int32))] [(.int (0 : Int32)), (.ref ra1), (.int ui1)])) _
    refine X0.baloadBytes hx (j := (0 : Int32)) (v := (.int ui1)) (by rw [e0]; exact Ar105.1) (State.isArrayOf_alike hZ.alike Ar105.2.1) Ar105.2.2 hin105 (Hh105.at hin105 (rfl)) (g := (mkF m 20 #[.val (.ref ra0), .val (.ref ra1), .val (.int (0 : Int32))] [(.int (0 : Int32)), (.ref ra1), (.int ui1)])) rfl rfl (hb hby d26_20) _ ?_
    show Steps p.tables e below (s₁.setTop (mkF m 21 #[.val (.ref ra0), .val (.ref ra1), .val (.int (0 : Int32))] [(.int ui1), (.int ui1)])) _
    refine XS.icmpYes X0.here hx rfl (pc0 := 21) (pc' := 26) rfl (hb hby d26_21) rfl (teq (rfl : ui1 = ui1)).1 (by decide) (by decide) ?_
    show Steps p.tables e below (s₁.setTop (mkF m 26 #[.val (.ref ra0), .val (.ref ra1), .val (.int (0 : Int32))] [])) _
    refine XS.iinc X0.here hx rfl (hb hby d26_26) rfl (l' := #[.val (.ref ra0), .val (.ref ra1), .val (.int ((0 : Int32) + (1 : Int32)))]) rfl ?_
    show Steps p.tables e below (s₁.setTop (mkF m 29 #[.val (.ref ra0), .val (.ref ra1), .val (.int ((0 : Int32) + (1 : Int32)))] [])) _
    rw [show ((0 : Int32) + (1 : Int32)) = (1 : Int32) from by decide]
    show Steps p.tables e below (s₁.setTop (mkF m 29 #[.val (.ref ra0), .val (.ref ra1), .val (.int (1 : Int32))] [])) _
    refine XS.goto X0.here hx rfl (pc0 := 29) (pc' := 9) rfl (hb hby d26_29) (by decide) (by decide) ?_
    refine XS.iloadN X0.here hx rfl (hb hby d26_9) rfl ?_
    refine XS.aloadN X0.here hx rfl (hb hby d26_10) rfl rfl ?_
    show Steps p.tables e below (s₁.setTop (mkF m 11 #[.val (.ref ra0), .val (.ref ra1), .val (.int (1 : Int32))] [(.ref ra0), (.int (1 : Int32))])) _
    refine X0.arraylength hx (by rw [e0]; exact Ar106.1) (State.isArrayOf_alike hZ.alike Ar106.2.1) (g := (mkF m 11 #[.val (.ref ra0), .val (.ref ra1), .val (.int (1 : Int32))] [(.ref ra0), (.int (1 : Int32))])) rfl rfl (hb hby d26_11) _ ?_
    rw [len_of S106 M106]
    show Steps p.tables e below (s₁.setTop (mkF m 12 #[.val (.ref ra0), .val (.ref ra1), .val (.int (1 : Int32))] [(.int (2 : Int32)), (.int (1 : Int32))])) _
    refine XS.icmpNo X0.here hx rfl (hb hby d26_12) rfl (tlt (by decide : (1 : Int32) < (2 : Int32))).2.1 ?_
    refine XS.aloadN X0.here hx rfl (hb hby d26_15) rfl rfl ?_
    refine XS.iloadN X0.here hx rfl (hb hby d26_16) rfl ?_
    show Steps p.tables e below (s₁.setTop (mkF m 17 #[.val (.ref ra0), .val (.ref ra1), .val (.int (1 : Int32))] [(.int (1 : Int32)), (.ref ra0)])) _
    refine X0.baloadBytes hx (j := (1 : Int32)) (v := (.int ui2)) (by rw [e0]; exact Ar107.1) (State.isArrayOf_alike hZ.alike Ar107.2.1) Ar107.2.2 hin107 (Hh107.at hin107 (rfl)) (g := (mkF m 17 #[.val (.ref ra0), .val (.ref ra1), .val (.int (1 : Int32))] [(.int (1 : Int32)), (.ref ra0)])) rfl rfl (hb hby d26_17) _ ?_
    show Steps p.tables e below (s₁.setTop (mkF m 18 #[.val (.ref ra0), .val (.ref ra1), .val (.int (1 : Int32))] [(.int ui2)])) _
    refine XS.aloadN X0.here hx rfl (hb hby d26_18) rfl rfl ?_
    refine XS.iloadN X0.here hx rfl (hb hby d26_19) rfl ?_
    show Steps p.tables e below (s₁.setTop (mkF m 20 #[.val (.ref ra0), .val (.ref ra1), .val (.int (1 : Int32))] [(.int (1 : Int32)), (.ref ra1), (.int ui2)])) _
    refine X0.baloadBytes hx (j := (1 : Int32)) (v := (.int ui2)) (by rw [e0]; exact Ar108.1) (State.isArrayOf_alike hZ.alike Ar108.2.1) Ar108.2.2 hin108 (Hh108.at hin108 (rfl)) (g := (mkF m 20 #[.val (.ref ra0), .val (.ref ra1), .val (.int (1 : Int32))] [(.int (1 : Int32)), (.ref ra1), (.int ui2)])) rfl rfl (hb hby d26_20) _ ?_
    show Steps p.tables e below (s₁.setTop (mkF m 21 #[.val (.ref ra0), .val (.ref ra1), .val (.int (1 : Int32))] [(.int ui2), (.int ui2)])) _
    refine XS.icmpYes X0.here hx rfl (pc0 := 21) (pc' := 26) rfl (hb hby d26_21) rfl (teq (rfl : ui2 = ui2)).1 (by decide) (by decide) ?_
    show Steps p.tables e below (s₁.setTop (mkF m 26 #[.val (.ref ra0), .val (.ref ra1), .val (.int (1 : Int32))] [])) _
    refine XS.iinc X0.here hx rfl (hb hby d26_26) rfl (l' := #[.val (.ref ra0), .val (.ref ra1), .val (.int ((1 : Int32) + (1 : Int32)))]) rfl ?_
    show Steps p.tables e below (s₁.setTop (mkF m 29 #[.val (.ref ra0), .val (.ref ra1), .val (.int ((1 : Int32) + (1 : Int32)))] [])) _
    rw [show ((1 : Int32) + (1 : Int32)) = (2 : Int32) from by decide]
    show Steps p.tables e below (s₁.setTop (mkF m 29 #[.val (.ref ra0), .val (.ref ra1), .val (.int (2 : Int32))] [])) _
    refine XS.goto X0.here hx rfl (pc0 := 29) (pc' := 9) rfl (hb hby d26_29) (by decide) (by decide) ?_
    refine XS.iloadN X0.here hx rfl (hb hby d26_9) rfl ?_
    refine XS.aloadN X0.here hx rfl (hb hby d26_10) rfl rfl ?_
    show Steps p.tables e below (s₁.setTop (mkF m 11 #[.val (.ref ra0), .val (.ref ra1), .val (.int (2 : Int32))] [(.ref ra0), (.int (2 : Int32))])) _
    refine X0.arraylength hx (by rw [e0]; exact Ar109.1) (State.isArrayOf_alike hZ.alike Ar109.2.1) (g := (mkF m 11 #[.val (.ref ra0), .val (.ref ra1), .val (.int (2 : Int32))] [(.ref ra0), (.int (2 : Int32))])) rfl rfl (hb hby d26_11) _ ?_
    rw [len_of S109 M109]
    show Steps p.tables e below (s₁.setTop (mkF m 12 #[.val (.ref ra0), .val (.ref ra1), .val (.int (2 : Int32))] [(.int (2 : Int32)), (.int (2 : Int32))])) _
    refine XS.icmpYes X0.here hx rfl (pc0 := 12) (pc' := 32) rfl (hb hby d26_12) rfl (flt (by decide : ¬ ((2 : Int32) < (2 : Int32)))).2.1 (by decide) (by decide) ?_
    refine XS.iconst X0.here hx rfl (hb hby d26_32) ?_
    show Steps p.tables e below (s₁.setTop (mkF m 33 #[.val (.ref ra0), .val (.ref ra1), .val (.int (2 : Int32))] [(.int (1 : Int32))])) _
    exact retN X0 hx (t := .boolean) Bd.returns (by simp) (hb hby d26_33) hr
  · show Q26x29 Z ra0 ra1 ui1 ui2 uk3 uk4 h0 n0 _ s₁.heap _
    rw [e0]
    exact ⟨rfl, N0, rfl⟩
theorem ef_25e2 (m : MethodId) (a1 : Addr) (a2 : Addr) : entryFrame m #[(.ref a1), (.ref a2)] 3 = mkF m 0 #[.val (.ref a1), .val (.ref a2), .unset] [] := by first | (simp [entryFrame, mkF, argsToLocals, Value.category]; done) | rfl
def Q25e2 (Z : State) (a1 : Addr) (a2 : Addr) (cz : Int32) (b1 : Addr) (k1 : ClassId) (b2 : Addr) (k2 : ClassId) (y0 : Int32) (y1 : Int32) (h0 : Heap) (n0 : Nat) (v : Option Value) (h : Heap) (L : List Loc) : Prop := v = some (.int (1 : Int32)) ∧ Fr n0 L ∧ h = h0
set_option maxRecDepth 65536 in
set_option maxHeartbeats 40000000 in
theorem rm25e2 (l : Launch) (Z : State) (a0 : Array Value) (hw : ∀ d ∈ tables_1, d.before a0 Z = true) (ws : List Jvm.Cond) (a1 : Addr) (a2 : Addr) (cz : Int32) (b1 : Addr) (k1 : ClassId) (b2 : Addr) (k2 : ClassId) (y0 : Int32) (y1 : Int32) (h0 : Heap) (n0 : Nat) (Z0 : n0 ≤ h0.size) (H0 : Sta Z h0 "java/lang/String" "COMPACT_STRINGS" "Z" (.int cz)) (H1 : ¬ (cz = (0 : Int32))) (H2 : Exa Z h0 a1 "java/lang/String") (H3 : Fld Z h0 a1 "java/lang/String" "coder" "B" (.int (1 : Int32))) (H4 : Fld Z h0 a1 "java/lang/String" "value" "[B" (.ref b1)) (H5 : Arv Z h0 b1 k1 .byte (2 : Int32) [(.int y0), (.int y1)] (.int (0 : Int32))) (H6 : Exa Z h0 a2 "java/lang/String") (H7 : Fld Z h0 a2 "java/lang/String" "coder" "B" (.int (1 : Int32))) (H8 : Fld Z h0 a2 "java/lang/String" "value" "[B" (.ref b2)) (H9 : Arv Z h0 b2 k2 .byte (2 : Int32) [(.int y0), (.int y1)] (.int (0 : Int32))) :
    own_MF l (⟨"java/lang/String", "equals", "(Ljava/lang/Object;)Z"⟩ : MethodName) (Jvm.Cond.code (⟨"java/lang/String", "equals", "(Ljava/lang/Object;)Z"⟩ : MethodName) jdk_42_method_66_code 3 (some .boolean) :: ws) ({ frames := 2, cells := 0, slots := 0, locals := 40 } : Room) #[(.ref a1), (.ref a2)] Z h0 (Q25e2 Z a1 a2 cz b1 k1 b2 k2 y0 y1 h0 n0) := by
  refine MetFree.of_bodySF (plainFor_of_name pn_java_lang_String) hisR ?_
  intro p e s m args below meth c s₁ Bd hml0 hP hK
  obtain ⟨rfl, hZ, hh⟩ := hP
  have hx := Bd.exec
  have hby := Bd.bytes
  have hml : c.maxLocals = 3 := hml0
  have hown : s.vm.findClass "java/lang/String" = some m.cls := findClass_of_methodNamed Bd.named
  have hnm := (name_of_methodNamed Bd.named Bd.method).1
  have X0 : Stand p l e ({ frames := 2, cells := 0, slots := 0, locals := 40 } : Room) s m #[(.ref a1), (.ref a2)] below meth c s₁ [] 0 0 := Stand.of_body Bd
  have e0 : s₁.heap = h0 := by rw [← hh, Bd.state]; rfl
  have N0 := Fr.nil n0
  have pre0 : ∀ t, Steps p.tables e below (s₁.setTop (mkF m 0 #[.val (.ref a1), .val (.ref a2), .unset] [])) t → Steps p.tables e below (s₁.setTop (entryFrame m #[(.ref a1), (.ref a2)] 3)) t := fun t k => castTop (ef_25e2 m a1 a2) k
  have pre101 : ∀ t, Steps p.tables e below (s₁.setTop (mkF m 2 #[.val (.ref a1), .val (.ref a2), .unset] [(.ref a2), (.ref a1)])) t → Steps p.tables e below (s₁.setTop (entryFrame m #[(.ref a1), (.ref a2)] 3)) t := fun t kt => by
    refine pre0 t ?_
    show Steps p.tables e below (s₁.setTop (mkF m 0 #[.val (.ref a1), .val (.ref a2), .unset] [])) _
    refine XS.aloadN X0.here hx rfl (hb hby d25_0) rfl rfl ?_
    refine XS.aloadN X0.here hx rfl (hb hby d25_1) rfl rfl ?_
    show Steps p.tables e below (s₁.setTop (mkF m 2 #[.val (.ref a1), .val (.ref a2), .unset] [(.ref a2), (.ref a1)])) _
    exact kt
  by_cases hc2_102 : ((.ref a1) : Value) = (.ref a2)
  · skip
    obtain ⟨fs, hr, hrun, hended, hW, hsame⟩ := X0.leave (v := some (.int (1 : Int32))) (fun h => by rw [Bd.returns] at h; cases h)
    refine ⟨_, _, pre101 _ ?_, hrun, hended, _, _, rfl, ?_, ⟨_, rfl⟩, hW, hsame.mono (by decide) (by decide)⟩
    · skip
      show Steps p.tables e below (s₁.setTop (mkF m 2 #[.val (.ref a1), .val (.ref a2), .unset] [(.ref a2), (.ref a1)])) _
      refine Jvm.RoadKit.acmp (g := (mkF m 2 #[.val (.ref a1), .val (.ref a2), .unset] [(.ref a2), (.ref a1)])) X0 hx rfl rfl rfl (pc0 := 2) (pc' := 5) (same := true) rfl (hb hby d25_2) rfl (decide_eq_true (hc2_102 : ((.ref a1) : Value) = (.ref a2))) (by decide) (by decide) ?_
      show Steps p.tables e below (s₁.setTop (mkF m 5 #[.val (.ref a1), .val (.ref a2), .unset] [])) _
      refine XS.iconst X0.here hx rfl (hb hby d25_5) ?_
      show Steps p.tables e below (s₁.setTop (mkF m 6 #[.val (.ref a1), .val (.ref a2), .unset] [(.int (1 : Int32))])) _
      exact retN X0 hx (t := .boolean) Bd.returns (by simp) (hb hby d25_6) hr
    · show Q25e2 Z a1 a2 cz b1 k1 b2 k2 y0 y1 h0 n0 _ s₁.heap _
      rw [e0]
      exact ⟨rfl, N0, rfl⟩
  · skip
    obtain ⟨T103, X103, e103, st103⟩ := instY X0 hx hZ hown (own_w hw 169 rfl) e0 (Ins.self H6) (g := (mkF m 8 #[.val (.ref a1), .val (.ref a2), .unset] [(.ref a2)])) rfl rfl (hb hby d25_8)
    obtain ⟨T104, X104, e104, st104⟩ := castY X103 hx hZ hown (own_w hw 169 rfl) e103 (Ins.self H6) (g := (mkF m 15 #[.val (.ref a1), .val (.ref a2), .unset] [(.ref a2)])) rfl rfl (hb hby d25_15)
    obtain ⟨T105, X105, e105, st105⟩ := getS2 X104 hx hZ hown (host := "") (Or.inl (own_w hw 170 rfl)) Via.refl e104 H0 (g := (mkF m 19 #[.val (.ref a1), .val (.ref a2), .val (.ref a2)] [])) rfl (hb hby d25_19)
    obtain ⟨T106, X106, e106, st106⟩ := getF X105 hx hZ hown (host := "") (Or.inl (own_w hw 163 rfl)) Via.refl e105 H3 (g := (mkF m 26 #[.val (.ref a1), .val (.ref a2), .val (.ref a2)] [(.ref a1)])) rfl rfl (hb hby d25_26)
    obtain ⟨T107, X107, e107, st107⟩ := getF X106 hx hZ hown (host := "") (Or.inl (own_w hw 163 rfl)) Via.refl e106 H7 (g := (mkF m 30 #[.val (.ref a1), .val (.ref a2), .val (.ref a2)] [(.ref a2), (.int (1 : Int32))])) rfl rfl (hb hby d25_30)
    obtain ⟨T108, X108, e108, st108⟩ := getF X107 hx hZ hown (host := "") (Or.inl (own_w hw 162 rfl)) Via.refl e107 H4 (g := (mkF m 37 #[.val (.ref a1), .val (.ref a2), .val (.ref a2)] [(.ref a1)])) rfl rfl (hb hby d25_37)
    obtain ⟨T109, X109, e109, st109⟩ := getF X108 hx hZ hown (host := "") (Or.inl (own_w hw 162 rfl)) Via.refl e108 H8 (g := (mkF m 41 #[.val (.ref a1), .val (.ref a2), .val (.ref a2)] [(.ref a2), (.ref b1)])) rfl rfl (hb hby d25_41)
    obtain ⟨_, _, ⟨T110, L110, k110, n110⟩, -, X110, ⟨Lc110, hQ110, l110, y110, z110⟩, st110⟩ := Jvm.LawKit.callS X109 hx (y := (⟨"java/lang/StringLatin1", "equals", "([B[B)Z"⟩ : MethodName)) hown (mvT hZ (own_w hw 171 rfl)) (mvT hZ (own_w hw 172 rfl)) (mvT hZ (own_w hw 173 rfl)) (mvT hZ (own_w hw 174 rfl)) (by decide) (backOf (W := 0) (rm26x29 l Z a0 hw [] b1 b2 y0 y1 k1 k2 h0 n0 Z0 H5 H9) hZ (own_w hw 174 rfl) (own_w hw 173 rfl) (by decide) (by decide)) (g := (mkF m 44 #[.val (.ref a1), .val (.ref a2), .val (.ref a2)] [(.ref b2), (.ref b1)])) rfl (by rw [hml]; rfl) (argsL := [(.ref b1), (.ref b2)]) (rest := []) (lenOf pd_19 rfl) rfl (by show 2 * 0 + _ ≤ _; exact Nat.le_of_eq rfl) (hb hby d25_44) (fun _ _ => ⟨rfl, e109, (by decide : 0 + 0 ≤ _), (by decide : 0 + 0 ≤ _)⟩)
    dsimp only [Pt.U, Pt.locs, Pt.cells, Pt.slots] at X110 l110 y110 z110 st110 hQ110
    subst l110 y110 z110
    obtain ⟨rfl, Nq110, Heq110⟩ := hQ110
    have N110 := Fr.app N0 Nq110
    obtain ⟨fs, hr, hrun, hended, hW, hsame⟩ := X110.leave (v := some (.int (1 : Int32))) (fun h => by rw [Bd.returns] at h; cases h)
    refine ⟨_, _, pre101 _ ?_, hrun, hended, _, _, rfl, ?_, ⟨_, rfl⟩, hW, hsame.mono (by decide) (by decide)⟩
    · skip
      show Steps p.tables e below (s₁.setTop (mkF m 2 #[.val (.ref a1), .val (.ref a2), .unset] [(.ref a2), (.ref a1)])) _
      refine Jvm.RoadKit.acmp (g := (mkF m 2 #[.val (.ref a1), .val (.ref a2), .unset] [(.ref a2), (.ref a1)])) X0 hx rfl rfl rfl (pc0 := 2) (pc' := 7) (same := false) rfl (hb hby d25_2) rfl (decide_eq_false (hc2_102 : ¬ (((.ref a1) : Value) = (.ref a2)))) (by decide) (by decide) ?_
      show Steps p.tables e below (s₁.setTop (mkF m 7 #[.val (.ref a1), .val (.ref a2), .unset] [])) _
      refine XS.aloadN X0.here hx rfl (hb hby d25_7) rfl rfl ?_
      refine st103 _ ?_
      refine XS.ifNo X103.here hx rfl (hb hby d25_11) rfl ((if0 _ _).trans (feq (by decide : ¬ ((1 : Int32) = (0 : Int32)))).1) ?_
      refine XS.aloadN X103.here hx rfl (hb hby d25_14) rfl rfl ?_
      refine st104 _ ?_
      refine XS.astoreN X104.here hx rfl (hb hby d25_18) rfl rfl (l' := #[.val (.ref a1), .val (.ref a2), .val (.ref a2)]) rfl ?_
      refine st105 _ ?_
      refine XS.ifNo X105.here hx rfl (hb hby d25_22) rfl ((if0 _ _).trans (feq (H1 : ¬ (cz = (0 : Int32)))).1) ?_
      refine XS.aloadN X105.here hx rfl (hb hby d25_25) rfl rfl ?_
      refine st106 _ ?_
      refine XS.aloadN X106.here hx rfl (hb hby d25_29) rfl rfl ?_
      refine st107 _ ?_
      refine XS.icmpNo X107.here hx rfl (hb hby d25_33) rfl (teq (by decide : (1 : Int32) = (1 : Int32))).2 ?_
      refine XS.aloadN X107.here hx rfl (hb hby d25_36) rfl rfl ?_
      show Steps p.tables e below (T107.setTop (mkF m 37 #[.val (.ref a1), .val (.ref a2), .val (.ref a2)] [(.ref a1)])) _
      refine st108 _ ?_
      refine XS.aloadN X108.here hx rfl (hb hby d25_40) rfl rfl ?_
      refine st109 _ ?_
      refine st110 _ ?_
      refine XS.ifNo X110.here hx rfl (hb hby d25_47) rfl ((if0 _ _).trans (feq (by decide : ¬ ((1 : Int32) = (0 : Int32)))).1) ?_
      refine XS.iconst X110.here hx rfl (hb hby d25_50) ?_
      refine XS.goto X110.here hx rfl (pc0 := 51) (pc' := 55) rfl (hb hby d25_51) (by decide) (by decide) ?_
      show Steps p.tables e below (T110.setTop (mkF m 55 #[.val (.ref a1), .val (.ref a2), .val (.ref a2)] [(.int (1 : Int32))])) _
      exact retN X110 hx (t := .boolean) Bd.returns (by simp) (hb hby d25_55) hr
    · show Q25e2 Z a1 a2 cz b1 k1 b2 k2 y0 y1 h0 n0 _ T110.heap _
      rw [Heq110]
      exact ⟨rfl, N110, rfl⟩
theorem ef_25g (m : MethodId) (a1 : Addr) (a2 : Addr) : entryFrame m #[(.ref a1), (.ref a2)] 3 = mkF m 0 #[.val (.ref a1), .val (.ref a2), .unset] [] := by first | (simp [entryFrame, mkF, argsToLocals, Value.category]; done) | rfl
def Q25g (Z : State) (a1 : Addr) (a2 : Addr) (cz : Int32) (b1 : Addr) (k1 : ClassId) (b2 : Addr) (k2 : ClassId) (b : Int32) (c : Int32) (d : Int32) (h0 : Heap) (n0 : Nat) (v : Option Value) (h : Heap) (L : List Loc) : Prop := v = some (.int (1 : Int32)) ∧ Fr n0 L ∧ h = h0
set_option maxRecDepth 65536 in
set_option maxHeartbeats 40000000 in
theorem rm25g (l : Launch) (Z : State) (a0 : Array Value) (hw : ∀ d ∈ tables_1, d.before a0 Z = true) (ws : List Jvm.Cond) (a1 : Addr) (a2 : Addr) (cz : Int32) (b1 : Addr) (k1 : ClassId) (b2 : Addr) (k2 : ClassId) (b : Int32) (c : Int32) (d : Int32) (h0 : Heap) (n0 : Nat) (Z0 : n0 ≤ h0.size) (H0 : Sta Z h0 "java/lang/String" "COMPACT_STRINGS" "Z" (.int cz)) (H1 : ¬ (cz = (0 : Int32))) (H2 : Exa Z h0 a1 "java/lang/String") (H3 : Fld Z h0 a1 "java/lang/String" "coder" "B" (.int (own_cd b c))) (H4 : Fld Z h0 a1 "java/lang/String" "value" "[B" (.ref b1)) (H5 : Arv Z h0 b1 k1 .byte (own_bn b c) (own_bs b c) (.int (0 : Int32))) (H6 : Exa Z h0 a2 "java/lang/String") (H7 : Fld Z h0 a2 "java/lang/String" "coder" "B" (.int (own_cd b d))) (H8 : Fld Z h0 a2 "java/lang/String" "value" "[B" (.ref b2)) (H9 : Arv Z h0 b2 k2 .byte (own_bn b d) (own_bs b d) (.int (0 : Int32))) (H10 : own_01 b) (H11 : own_tx b c d) :
    own_MF l (⟨"java/lang/String", "equals", "(Ljava/lang/Object;)Z"⟩ : MethodName) (Jvm.Cond.code (⟨"java/lang/String", "equals", "(Ljava/lang/Object;)Z"⟩ : MethodName) jdk_42_method_66_code 3 (some .boolean) :: ws) ({ frames := 2, cells := 0, slots := 0, locals := 40 } : Room) #[(.ref a1), (.ref a2)] Z h0 (Q25g Z a1 a2 cz b1 k1 b2 k2 b c d h0 n0) := by
  rcases H10 with rfl | rfl
  · rw [own_cd0] at H3 H7
    rw [own_bn0, own_bs0] at H5 H9
    exact rm25e0 l Z a0 hw ws a1 a2 cz b1 k1 b2 k2 h0 n0 Z0 H0 H1 H2 H3 H4 H5 H6 H7 H8 H9
  · obtain rfl : c = d := H11.resolve_left own_10
    by_cases hq : (255 : Int32) < c
    · simp only [own_cd, own_bn, own_bs, if_neg own_10, if_pos hq] at H3 H5 H7 H9
      exact rm25e2 l Z a0 hw ws a1 a2 cz b1 k1 b2 k2 _ _ h0 n0 Z0 H0 H1 H2 H3 H4 H5 H6 H7 H8 H9
    · simp only [own_cd, own_bn, own_bs, if_neg own_10, if_neg hq] at H3 H5 H7 H9
      exact rm25e1 l Z a0 hw ws a1 a2 cz b1 k1 b2 k2 _ h0 n0 Z0 H0 H1 H2 H3 H4 H5 H6 H7 H8 H9
def Q0 (Z : State) (p1 : Int32) (p2 : Int32) (p3 : Int32) (cz : Int32) (sf : Value) (h0 : Heap) (n0 : Nat) (v : Option Value) (h : Heap) (L : List Loc) : Prop := v = some (.int (1 : Int32)) ∧ Fr n0 L
theorem d7_0 : decode prog_65_method_1_code 0 = .ok (.aload_n 0, 1) := by decide +kernel
theorem d7_1 : decode prog_65_method_1_code 1 = .ok (.aload_n 1, 1) := by decide +kernel
theorem d7_2 : decode prog_65_method_1_code 2 = .ok (.putfield 1, 3) := by decide +kernel
theorem d7_5 : decode prog_65_method_1_code 5 = .ok (.aload_n 0, 1) := by decide +kernel
theorem d7_6 : decode prog_65_method_1_code 6 = .ok (.invokespecial 7, 3) := by decide +kernel
theorem d7_9 : decode prog_65_method_1_code 9 = .ok (.return_, 1) := by decide +kernel
theorem pn_com_example_rouse_rouse_shell_CommandLine_1 : plainName "com/example/rouse/rouse/shell/CommandLine$1" = true := by first | (simp [plainName, overriddenIn]; done) | decide +kernel
theorem ef_7x31 (m : MethodId) (ra0 : Addr) (ra1 : Addr) : entryFrame m #[(.ref ra0), (.ref ra1)] 2 = mkF m 0 #[.val (.ref ra0), .val (.ref ra1)] [] := by first | (simp [entryFrame, mkF, argsToLocals, Value.category]; done) | rfl
def Q7x31 (Z : State) (ra0 : Addr) (ra1 : Addr) (h0 : Heap) (n0 : Nat) (v : Option Value) (h : Heap) (L : List Loc) : Prop := v = none ∧ Fr n0 L ∧ Keep h0 h [ra0] ∧ Fld Z h ra0 "com/example/rouse/rouse/shell/CommandLine$1" "nextWord" "I" (.int (0 : Int32)) ∧ Fld Z h ra0 "com/example/rouse/rouse/shell/CommandLine$1" "this$0" "Lcom/example/rouse/rouse/shell/CommandLine;" (.ref ra1)
set_option maxRecDepth 65536 in
set_option maxHeartbeats 40000000 in
theorem rm7x31 (l : Launch) (Z : State) (a0 : Array Value) (hw : ∀ d ∈ tables_1, d.before a0 Z = true) (ws : List Jvm.Cond) (ra0 : Addr) (ra1 : Addr) (h0 : Heap) (n0 : Nat) (Z0 : n0 ≤ h0.size) (H0 : Exa Z h0 ra0 "com/example/rouse/rouse/shell/CommandLine$1") (H1 : Fld Z h0 ra0 "com/example/rouse/rouse/shell/CommandLine$1" "this$0" "Lcom/example/rouse/rouse/shell/CommandLine;" .null) (H2 : n0 ≤ ra0) (H3 : Fld Z h0 ra0 "com/example/rouse/rouse/shell/CommandLine$1" "nextWord" "I" (.int (0 : Int32))) :
    own_MF l (⟨"com/example/rouse/rouse/shell/CommandLine$1", "<init>", "(Lcom/example/rouse/rouse/shell/CommandLine;)V"⟩ : MethodName) (Jvm.Cond.code (⟨"com/example/rouse/rouse/shell/CommandLine$1", "<init>", "(Lcom/example/rouse/rouse/shell/CommandLine;)V"⟩ : MethodName) prog_65_method_1_code 2 none :: ws) ({ frames := 1, cells := 0, slots := 0, locals := 12 } : Room) #[(.ref ra0), (.ref ra1)] Z h0 (Q7x31 Z ra0 ra1 h0 n0) := by
  refine MetFree.of_bodySF (plainFor_of_name pn_com_example_rouse_rouse_shell_CommandLine_1) hisR ?_
  intro p e s m args below meth c s₁ Bd hml0 hP hK
  obtain ⟨rfl, hZ, hh⟩ := hP
  have hx := Bd.exec
  have hby := Bd.bytes
  have hml : c.maxLocals = 2 := hml0
  have hown : s.vm.findClass "com/example/rouse/rouse/shell/CommandLine$1" = some m.cls := findClass_of_methodNamed Bd.named
  have hnm := (name_of_methodNamed Bd.named Bd.method).1
  have X0 : Stand p l e ({ frames := 1, cells := 0, slots := 0, locals := 12 } : Room) s m #[(.ref ra0), (.ref ra1)] below meth c s₁ [] 0 0 := Stand.of_body Bd
  have e0 : s₁.heap = h0 := by rw [← hh, Bd.state]; rfl
  have N0 := Fr.nil n0
  have pre0 : ∀ t, Steps p.tables e below (s₁.setTop (mkF m 0 #[.val (.ref ra0), .val (.ref ra1)] [])) t → Steps p.tables e below (s₁.setTop (entryFrame m #[(.ref ra0), (.ref ra1)] 2)) t := fun t k => castTop (ef_7x31 m ra0 ra1) k
  obtain ⟨T101, h101, X101, e101, W101, st101⟩ := putF X0 hx hZ hown (host := "") (Or.inl (own_w hw 60 rfl)) Via.refl e0 H1 H0 (Or.inr ⟨(own_w hw 61 rfl), rfl, hnm⟩) (own_w hw 55 rfl) (ty := (.object "com/example/rouse/rouse/shell/CommandLine")) (by decide) rfl rfl (g := (mkF m 2 #[.val (.ref ra0), .val (.ref ra1)] [(.ref ra1), (.ref ra0)])) rfl rfl (hb hby d7_2)
  have Fw101 := H1.same W101
  have N101 := Fr.snoc X101 N0 H2
  obtain ⟨T102, X102, e102, st102⟩ := initO X101 hx hZ hown (own_w hw 62 rfl) (own_w hw 16 rfl) (own_w hw 17 rfl) e101 (g := (mkF m 6 #[.val (.ref ra0), .val (.ref ra1)] [(.ref ra0)])) rfl (by rw [hml]; rfl) rfl (hb hby d7_6) (by decide) (W := 0) (by show 2 * 0 + _ ≤ _; exact Nat.le_of_eq rfl) (by decide)
  have f103 := (H3.other W101 (Or.inr (slot_ne (Or.inl (own_w hw 83 rfl)) (Or.inr (own_w hw 61 rfl)) (by decide) (t := .int) (t' := (.object "com/example/rouse/rouse/shell/CommandLine")) (by decide) (by decide))))
  obtain ⟨fs, hr, hrun, hended, hW, hsame⟩ := X102.leave (v := none) (fun _ => rfl)
  refine ⟨_, _, pre0 _ ?_, hrun, hended, _, _, rfl, ?_, ⟨_, rfl⟩, hW, hsame.mono (by decide) (by decide)⟩
  · skip
    show Steps p.tables e below (s₁.setTop (mkF m 0 #[.val (.ref ra0), .val (.ref ra1)] [])) _
    refine XS.aloadN X0.here hx rfl (hb hby d7_0) rfl rfl ?_
    refine XS.aloadN X0.here hx rfl (hb hby d7_1) rfl rfl ?_
    refine st101 _ ?_
    refine XS.aloadN X101.here hx rfl (hb hby d7_5) rfl rfl ?_
    refine st102 _ ?_
    show Steps p.tables e below (T102.setTop (mkF m 9 #[.val (.ref ra0), .val (.ref ra1)] [])) _
    exact X102.returnOut hx Bd.returns (hb hby d7_9) hr
  · show Q7x31 Z ra0 ra1 h0 n0 _ T102.heap _
    rw [e102]
    exact ⟨rfl, N101, ((Keep.refl h0 [ra0]).wr W101 (Or.inl (List.mem_of_getElem? (i := 0) rfl))), f103, Fw101⟩
theorem d6_0 : decode prog_64_method_6_code 0 = .ok (.new 48, 3) := by decide +kernel
theorem d6_3 : decode prog_64_method_6_code 3 = .ok (.dup, 1) := by decide +kernel
theorem d6_4 : decode prog_64_method_6_code 4 = .ok (.aload_n 0, 1) := by decide +kernel
theorem d6_5 : decode prog_64_method_6_code 5 = .ok (.invokespecial 50, 3) := by decide +kernel
theorem d6_8 : decode prog_64_method_6_code 8 = .ok (.areturn, 1) := by decide +kernel
theorem ef_6x30 (m : MethodId) (ra0 : Addr) : entryFrame m #[(.ref ra0)] 1 = mkF m 0 #[.val (.ref ra0)] [] := by first | (simp [entryFrame, mkF, argsToLocals, Value.category]; done) | rfl
def Q6x30 (Z : State) (ra0 : Addr) (h0 : Heap) (n0 : Nat) (v : Option Value) (h : Heap) (L : List Loc) : Prop := ∃ (b101 : Addr), v = some (.ref b101) ∧ Fr n0 L ∧ Keep h0 h [] ∧ h0.size ≤ b101 ∧ Exa Z h b101 "com/example/rouse/rouse/shell/CommandLine$1" ∧ Fld Z h b101 "com/example/rouse/rouse/shell/CommandLine$1" "nextWord" "I" (.int (0 : Int32)) ∧ Fld Z h b101 "com/example/rouse/rouse/shell/CommandLine$1" "this$0" "Lcom/example/rouse/rouse/shell/CommandLine;" (.ref ra0)
set_option maxRecDepth 65536 in
set_option maxHeartbeats 40000000 in
theorem rm6x30 (l : Launch) (Z : State) (a0 : Array Value) (hw : ∀ d ∈ tables_1, d.before a0 Z = true) (ws : List Jvm.Cond) (ra0 : Addr) (h0 : Heap) (n0 : Nat) (Z0 : n0 ≤ h0.size) :
    own_MF l (⟨"com/example/rouse/rouse/shell/CommandLine", "iterator", "()Ljava/util/Iterator;"⟩ : MethodName) (Jvm.Cond.code (⟨"com/example/rouse/rouse/shell/CommandLine", "iterator", "()Ljava/util/Iterator;"⟩ : MethodName) prog_64_method_6_code 1 (some (.object "java/util/Iterator")) :: ws) ({ frames := 2, cells := 1, slots := 2, locals := 26 } : Room) #[(.ref ra0)] Z h0 (Q6x30 Z ra0 h0 n0) := by
  refine MetFree.of_bodySF (plainFor_of_name pn_com_example_rouse_rouse_shell_CommandLine) hisR ?_
  intro p e s m args below meth c s₁ Bd hml0 hP hK
  obtain ⟨rfl, hZ, hh⟩ := hP
  have hx := Bd.exec
  have hby := Bd.bytes
  have hml : c.maxLocals = 1 := hml0
  have hown : s.vm.findClass "com/example/rouse/rouse/shell/CommandLine" = some m.cls := findClass_of_methodNamed Bd.named
  have hnm := (name_of_methodNamed Bd.named Bd.method).1
  have X0 : Stand p l e ({ frames := 2, cells := 1, slots := 2, locals := 26 } : Room) s m #[(.ref ra0)] below meth c s₁ [] 0 0 := Stand.of_body Bd
  have e0 : s₁.heap = h0 := by rw [← hh, Bd.state]; rfl
  have N0 := Fr.nil n0
  have pre0 : ∀ t, Steps p.tables e below (s₁.setTop (mkF m 0 #[.val (.ref ra0)] [])) t → Steps p.tables e below (s₁.setTop (entryFrame m #[(.ref ra0)] 1)) t := fun t k => castTop (ef_6x30 m ra0) k
  obtain ⟨T101, h101, X101, e101, E101, A101, D101, -, st101⟩ := newO X0 hx hZ hown (own_w hw 54 rfl) (own_w hw 55 rfl) (own_w hw 56 rfl) e0 (g := (mkF m 0 #[.val (.ref ra0)] [])) rfl (hb hby d6_0) (by decide) (by decide)
  obtain ⟨b101, g101⟩ : ∃ z, z = h0.size := ⟨_, rfl⟩
  rw [← g101] at A101 D101 st101
  have F102 : Fld Z h101 b101 "com/example/rouse/rouse/shell/CommandLine$1" "this$0" "Lcom/example/rouse/rouse/shell/CommandLine;" .null := D101 (Or.inr (own_w hw 61 rfl)) (ty := (.object "com/example/rouse/rouse/shell/CommandLine")) (by decide)
  have F103 : Fld Z h101 b101 "com/example/rouse/rouse/shell/CommandLine$1" "nextWord" "I" (.int (0 : Int32)) := D101 (Or.inl (own_w hw 83 rfl)) (ty := .int) (by decide)
  have g104 : n0 ≤ b101 := Nat.le_trans Z0 (Nat.le_of_eq g101.symm)
  have z106 : n0 ≤ h101.size := (Nat.le_trans Z0 E101.1)
  obtain ⟨_, _, ⟨T105, L105, k105, n105⟩, -, X105, ⟨Lc105, hQ105, l105, y105, z105⟩, st105⟩ := X101.specialBack hx (y := (⟨"com/example/rouse/rouse/shell/CommandLine$1", "<init>", "(Lcom/example/rouse/rouse/shell/CommandLine;)V"⟩ : MethodName)) rfl hown (mvT hZ (own_w hw 57 rfl)) (mvT hZ (own_w hw 58 rfl)) (mvT hZ (own_w hw 59 rfl)) (by decide) (backOf (W := 1) (rm7x31 l Z a0 hw [] b101 ra0 h101 n0 z106 A101 F102 g104 F103) hZ (own_w hw 59 rfl) (own_w hw 56 rfl) (by decide) (by decide)) (g := (mkF m 5 #[.val (.ref ra0)] [(.ref ra0), (.ref b101), (.ref b101)])) rfl (by rw [hml]; rfl) (Steps.refl _) (a := b101) (argsL := [(.ref ra0)]) (rest := [(.ref b101)]) (lenOf pd_20 rfl) rfl (by show 2 * 0 + _ ≤ _; exact Nat.le_of_eq rfl) (hb hby d6_5) (fun _ _ => ⟨rfl, e101, (by decide : 1 + 0 ≤ _), (by decide : 2 + 0 ≤ _)⟩)
  dsimp only [Pt.U, Pt.locs, Pt.cells, Pt.slots] at X105 l105 y105 z105 st105 hQ105
  subst l105 y105 z105
  obtain ⟨rfl, Nq105, K105, R105_1, R105_2⟩ := hQ105
  have N105 := Fr.app N0 Nq105
  have f107 := (A101.keep K105)
  obtain ⟨fs, hr, hrun, hended, hW, hsame⟩ := X105.leave (v := some (.ref b101)) (fun h => by rw [Bd.returns] at h; cases h)
  refine ⟨_, _, pre0 _ ?_, hrun, hended, _, _, rfl, ?_, ⟨_, rfl⟩, hW, hsame.mono (by decide) (by decide)⟩
  · skip
    show Steps p.tables e below (s₁.setTop (mkF m 0 #[.val (.ref ra0)] [])) _
    refine st101 _ ?_
    refine XS.dup X101.here hx rfl (hb hby d6_3) rfl rfl ?_
    refine XS.aloadN X101.here hx rfl (hb hby d6_4) rfl rfl ?_
    show Steps p.tables e below (T101.setTop (mkF m 5 #[.val (.ref ra0)] [(.ref ra0), (.ref b101), (.ref b101)])) _
    refine st105.trans ?_
    show Steps p.tables e below (T105.setTop (mkF m 8 #[.val (.ref ra0)] [(.ref b101)])) _
    jvm_step X105.here [X105.here.top, hx, (hb hby d6_8), X105.method', Bd.returns, Value.isRef, FieldType.isReference]
    first | (intro acts; rw [hr _ acts rfl rfl rfl]) | rw [hr _ _ rfl rfl rfl]
    exact Steps.refl _
  · show Q6x30 Z ra0 h0 n0 _ T105.heap _
    exact ⟨b101, rfl, N105, (((Keep.refl h0 []).ext E101).trans K105 (allS (P := (fun x => x ∈ [] ∨ h0.size ≤ x)) (Or.inr (Nat.le_trans (Nat.le_refl _) (Nat.le_of_eq g101.symm))) all0)), (Nat.le_trans (Nat.le_refl _) (Nat.le_of_eq g101.symm)), f107, R105_1, R105_2⟩
theorem d10_0 : decode prog_65_method_2_code 0 = .ok (.aload_n 0, 1) := by decide +kernel
theorem d10_1 : decode prog_65_method_2_code 1 = .ok (.getfield 13, 3) := by decide +kernel
theorem d10_4 : decode prog_65_method_2_code 4 = .ok (.aload_n 0, 1) := by decide +kernel
theorem d10_5 : decode prog_65_method_2_code 5 = .ok (.getfield 1, 3) := by decide +kernel
theorem d10_8 : decode prog_65_method_2_code 8 = .ok (.getfield 17, 3) := by decide +kernel
theorem d10_11 : decode prog_65_method_2_code 11 = .ok (.if_icmp .ge 7, 3) := by decide +kernel
theorem d10_14 : decode prog_65_method_2_code 14 = .ok (.iconst 1, 1) := by decide +kernel
theorem d10_15 : decode prog_65_method_2_code 15 = .ok (.goto 4, 3) := by decide +kernel
theorem d10_19 : decode prog_65_method_2_code 19 = .ok (.ireturn, 1) := by decide +kernel
theorem ef_10x34 (m : MethodId) (ra0 : Addr) : entryFrame m #[(.ref ra0)] 1 = mkF m 0 #[.val (.ref ra0)] [] := by first | (simp [entryFrame, mkF, argsToLocals, Value.category]; done) | rfl
def Q10x34 (Z : State) (ra0 : Addr) (uo1 : Addr) (h0 : Heap) (n0 : Nat) (v : Option Value) (h : Heap) (L : List Loc) : Prop := v = some (.int (1 : Int32)) ∧ Fr n0 L ∧ h = h0
set_option maxRecDepth 65536 in
set_option maxHeartbeats 40000000 in
theorem rm10x34 (l : Launch) (Z : State) (a0 : Array Value) (hw : ∀ d ∈ tables_1, d.before a0 Z = true) (ws : List Jvm.Cond) (ra0 : Addr) (uo1 : Addr) (h0 : Heap) (n0 : Nat) (Z0 : n0 ≤ h0.size) (H0 : Fld Z h0 ra0 "com/example/rouse/rouse/shell/CommandLine$1" "nextWord" "I" (.int (0 : Int32))) (H1 : Fld Z h0 ra0 "com/example/rouse/rouse/shell/CommandLine$1" "this$0" "Lcom/example/rouse/rouse/shell/CommandLine;" (.ref uo1)) (H2 : Fld Z h0 uo1 "com/example/rouse/rouse/shell/CommandLine" "words" "I" (.int (2 : Int32))) :
    own_MF l (⟨"com/example/rouse/rouse/shell/CommandLine$1", "hasNext", "()Z"⟩ : MethodName) (Jvm.Cond.code (⟨"com/example/rouse/rouse/shell/CommandLine$1", "hasNext", "()Z"⟩ : MethodName) prog_65_method_2_code 1 (some .boolean) :: ws) ({ frames := 0, cells := 0, slots := 0, locals := 0 } : Room) #[(.ref ra0)] Z h0 (Q10x34 Z ra0 uo1 h0 n0) := by
  refine MetFree.of_bodySF (plainFor_of_name pn_com_example_rouse_rouse_shell_CommandLine_1) hisR ?_
  intro p e s m args below meth c s₁ Bd hml0 hP hK
  obtain ⟨rfl, hZ, hh⟩ := hP
  have hx := Bd.exec
  have hby := Bd.bytes
  have hml : c.maxLocals = 1 := hml0
  have hown : s.vm.findClass "com/example/rouse/rouse/shell/CommandLine$1" = some m.cls := findClass_of_methodNamed Bd.named
  have hnm := (name_of_methodNamed Bd.named Bd.method).1
  have X0 : Stand p l e ({ frames := 0, cells := 0, slots := 0, locals := 0 } : Room) s m #[(.ref ra0)] below meth c s₁ [] 0 0 := Stand.of_body Bd
  have e0 : s₁.heap = h0 := by rw [← hh, Bd.state]; rfl
  have N0 := Fr.nil n0
  have pre0 : ∀ t, Steps p.tables e below (s₁.setTop (mkF m 0 #[.val (.ref ra0)] [])) t → Steps p.tables e below (s₁.setTop (entryFrame m #[(.ref ra0)] 1)) t := fun t k => castTop (ef_10x34 m ra0) k
  obtain ⟨T101, X101, e101, st101⟩ := getF X0 hx hZ hown (host := "") (Or.inl (own_w hw 82 rfl)) Via.refl e0 H0 (g := (mkF m 1 #[.val (.ref ra0)] [(.ref ra0)])) rfl rfl (hb hby d10_1)
  obtain ⟨T102, X102, e102, st102⟩ := getF X101 hx hZ hown (host := "") (Or.inl (own_w hw 60 rfl)) Via.refl e101 H1 (g := (mkF m 5 #[.val (.ref ra0)] [(.ref ra0), (.int (0 : Int32))])) rfl rfl (hb hby d10_5)
  obtain ⟨T103, X103, e103, st103⟩ := getF X102 hx hZ hown (Or.inr (own_w hw 84 rfl)) Via.refl e102 H2 (g := (mkF m 8 #[.val (.ref ra0)] [(.ref uo1), (.int (0 : Int32))])) rfl rfl (hb hby d10_8)
  obtain ⟨fs, hr, hrun, hended, hW, hsame⟩ := X103.leave (v := some (.int (1 : Int32))) (fun h => by rw [Bd.returns] at h; cases h)
  refine ⟨_, _, pre0 _ ?_, hrun, hended, _, _, rfl, ?_, ⟨_, rfl⟩, hW, hsame.mono (by decide) (by decide)⟩
  · skip
    show Steps p.tables e below (s₁.setTop (mkF m 0 #[.val (.ref ra0)] [])) _
    refine XS.aloadN X0.here hx rfl (hb hby d10_0) rfl rfl ?_
    refine st101 _ ?_
    refine XS.aloadN X101.here hx rfl (hb hby d10_4) rfl rfl ?_
    refine st102 _ ?_
    refine st103 _ ?_
    refine XS.icmpNo X103.here hx rfl (hb hby d10_11) rfl (tlt (by decide : (0 : Int32) < (2 : Int32))).2.1 ?_
    refine XS.iconst X103.here hx rfl (hb hby d10_14) ?_
    refine XS.goto X103.here hx rfl (pc0 := 15) (pc' := 19) rfl (hb hby d10_15) (by decide) (by decide) ?_
    show Steps p.tables e below (T103.setTop (mkF m 19 #[.val (.ref ra0)] [(.int (1 : Int32))])) _
    exact retN X103 hx (t := .boolean) Bd.returns (by simp) (hb hby d10_19) hr
  · show Q10x34 Z ra0 uo1 h0 n0 _ T103.heap _
    rw [e103]
    exact ⟨rfl, N0, rfl⟩
theorem d9_0 : decode prog_65_method_3_code 0 = .ok (.aload_n 0, 1) := by decide +kernel
theorem d9_1 : decode prog_65_method_3_code 1 = .ok (.invokevirtual 22, 3) := by decide +kernel
theorem d9_4 : decode prog_65_method_3_code 4 = .ok (.ifCond .ne 11, 3) := by decide +kernel
theorem d9_15 : decode prog_65_method_3_code 15 = .ok (.aload_n 0, 1) := by decide +kernel
theorem d9_16 : decode prog_65_method_3_code 16 = .ok (.getfield 13, 3) := by decide +kernel
theorem d9_19 : decode prog_65_method_3_code 19 = .ok (.istore_n 1, 1) := by decide +kernel
theorem d9_20 : decode prog_65_method_3_code 20 = .ok (.iload_n 1, 1) := by decide +kernel
theorem d9_21 : decode prog_65_method_3_code 21 = .ok (.istore_n 2, 1) := by decide +kernel
theorem d9_22 : decode prog_65_method_3_code 22 = .ok (.aload_n 0, 1) := by decide +kernel
theorem d9_23 : decode prog_65_method_3_code 23 = .ok (.getfield 1, 3) := by decide +kernel
theorem d9_26 : decode prog_65_method_3_code 26 = .ok (.getfield 29, 3) := by decide +kernel
theorem d9_29 : decode prog_65_method_3_code 29 = .ok (.iload_n 2, 1) := by decide +kernel
theorem d9_30 : decode prog_65_method_3_code 30 = .ok (.iaload, 1) := by decide +kernel
theorem d9_31 : decode prog_65_method_3_code 31 = .ok (.ifCond .lt 9, 3) := by decide +kernel
theorem d9_34 : decode prog_65_method_3_code 34 = .ok (.iinc 2 1, 3) := by decide +kernel
theorem d9_37 : decode prog_65_method_3_code 37 = .ok (.goto (-15), 3) := by decide +kernel
theorem d9_40 : decode prog_65_method_3_code 40 = .ok (.aload_n 0, 1) := by decide +kernel
theorem d9_41 : decode prog_65_method_3_code 41 = .ok (.iload_n 2, 1) := by decide +kernel
theorem d9_42 : decode prog_65_method_3_code 42 = .ok (.iconst 1, 1) := by decide +kernel
theorem d9_43 : decode prog_65_method_3_code 43 = .ok (.iadd, 1) := by decide +kernel
theorem d9_44 : decode prog_65_method_3_code 44 = .ok (.putfield 13, 3) := by decide +kernel
theorem d9_47 : decode prog_65_method_3_code 47 = .ok (.new 33, 3) := by decide +kernel
theorem d9_50 : decode prog_65_method_3_code 50 = .ok (.dup, 1) := by decide +kernel
theorem d9_51 : decode prog_65_method_3_code 51 = .ok (.aload_n 0, 1) := by decide +kernel
theorem d9_52 : decode prog_65_method_3_code 52 = .ok (.getfield 1, 3) := by decide +kernel
theorem d9_55 : decode prog_65_method_3_code 55 = .ok (.iload_n 1, 1) := by decide +kernel
theorem d9_56 : decode prog_65_method_3_code 56 = .ok (.aload_n 0, 1) := by decide +kernel
theorem d9_57 : decode prog_65_method_3_code 57 = .ok (.getfield 13, 3) := by decide +kernel
theorem d9_60 : decode prog_65_method_3_code 60 = .ok (.invokespecial 35, 3) := by decide +kernel
theorem d9_63 : decode prog_65_method_3_code 63 = .ok (.areturn, 1) := by decide +kernel
theorem ef_9x33 (m : MethodId) (ra0 : Addr) : entryFrame m #[(.ref ra0)] 3 = mkF m 0 #[.val (.ref ra0), .unset, .unset] [] := by first | (simp [entryFrame, mkF, argsToLocals, Value.category]; done) | rfl
def Q9x33 (Z : State) (ra0 : Addr) (uo1 : Addr) (uo2 : Addr) (ui3 : Int32) (ui4 : Int32) (uk5 : ClassId) (h0 : Heap) (n0 : Nat) (v : Option Value) (h : Heap) (L : List Loc) : Prop := ∃ (b110 : Addr), v = some (.ref b110) ∧ Fr n0 L ∧ Keep h0 h [ra0] ∧ Fld Z h ra0 "com/example/rouse/rouse/shell/CommandLine$1" "nextWord" "I" (.int (2 : Int32)) ∧ Fld Z h ra0 "com/example/rouse/rouse/shell/CommandLine$1" "this$0" "Lcom/example/rouse/rouse/shell/CommandLine;" (.ref uo1) ∧ h0.size ≤ b110 ∧ Exa Z h b110 "com/example/rouse/rouse/shell/CommandLine$Words" ∧ Fld Z h b110 "com/example/rouse/rouse/shell/CommandLine$Words" "from" "I" (.int (0 : Int32)) ∧ Fld Z h b110 "com/example/rouse/rouse/shell/CommandLine$Words" "this$0" "Lcom/example/rouse/rouse/shell/CommandLine;" (.ref uo1) ∧ Fld Z h b110 "com/example/rouse/rouse/shell/CommandLine$Words" "to" "I" (.int (2 : Int32))
set_option maxRecDepth 65536 in
set_option maxHeartbeats 40000000 in
theorem rm9x33 (l : Launch) (Z : State) (a0 : Array Value) (hw : ∀ d ∈ tables_1, d.before a0 Z = true) (ws : List Jvm.Cond) (ra0 : Addr) (uo1 : Addr) (uo2 : Addr) (ui3 : Int32) (ui4 : Int32) (uk5 : ClassId) (h0 : Heap) (n0 : Nat) (Z0 : n0 ≤ h0.size) (H0 : Exa Z h0 ra0 "com/example/rouse/rouse/shell/CommandLine$1") (H1 : Fld Z h0 ra0 "com/example/rouse/rouse/shell/CommandLine$1" "nextWord" "I" (.int (0 : Int32))) (H2 : Fld Z h0 ra0 "com/example/rouse/rouse/shell/CommandLine$1" "this$0" "Lcom/example/rouse/rouse/shell/CommandLine;" (.ref uo1)) (H3 : Fld Z h0 uo1 "com/example/rouse/rouse/shell/CommandLine" "words" "I" (.int (2 : Int32))) (H4 : Fld Z h0 uo1 "com/example/rouse/rouse/shell/CommandLine" "wordEnds" "[I" (.ref uo2)) (H5 : Arv Z h0 uo2 uk5 .int (16 : Int32) (own_zl (.int ui3) (.int ui4)) (.int (0 : Int32))) (H6 : ¬ (ui3 < (0 : Int32))) (H7 : ui4 < (0 : Int32)) (H8 : n0 ≤ ra0) :
    own_MF l (⟨"com/example/rouse/rouse/shell/CommandLine$1", "next", "()Lcom/example/rouse/rouse/shell/CommandLine$Words;"⟩ : MethodName) (Jvm.Cond.code (⟨"com/example/rouse/rouse/shell/CommandLine$1", "next", "()Lcom/example/rouse/rouse/shell/CommandLine$Words;"⟩ : MethodName) prog_65_method_3_code 3 (some (.object "com/example/rouse/rouse/shell/CommandLine$Words")) :: ws) ({ frames := 4, cells := 1, slots := 4, locals := 52 } : Room) #[(.ref ra0)] Z h0 (Q9x33 Z ra0 uo1 uo2 ui3 ui4 uk5 h0 n0) := by
  refine MetFree.of_bodySF (plainFor_of_name pn_com_example_rouse_rouse_shell_CommandLine_1) hisR ?_
  intro p e s m args below meth c s₁ Bd hml0 hP hK
  obtain ⟨rfl, hZ, hh⟩ := hP
  have hx := Bd.exec
  have hby := Bd.bytes
  have hml : c.maxLocals = 3 := hml0
  have hown : s.vm.findClass "com/example/rouse/rouse/shell/CommandLine$1" = some m.cls := findClass_of_methodNamed Bd.named
  have hnm := (name_of_methodNamed Bd.named Bd.method).1
  have X0 : Stand p l e ({ frames := 4, cells := 1, slots := 4, locals := 52 } : Room) s m #[(.ref ra0)] below meth c s₁ [] 0 0 := Stand.of_body Bd
  have e0 : s₁.heap = h0 := by rw [← hh, Bd.state]; rfl
  have N0 := Fr.nil n0
  have pre0 : ∀ t, Steps p.tables e below (s₁.setTop (mkF m 0 #[.val (.ref ra0), .unset, .unset] [])) t → Steps p.tables e below (s₁.setTop (entryFrame m #[(.ref ra0)] 3)) t := fun t k => castTop (ef_9x33 m ra0) k
  obtain ⟨cq101, kq101, q101a, q101b, q101c⟩ := isOf hZ e0 H0
  obtain ⟨_, _, ⟨T101, L101, k101, n101⟩, -, X101, ⟨Lc101, hQ101, l101, y101, z101⟩, st101⟩ := X0.virtualBack hx (y := (⟨"com/example/rouse/rouse/shell/CommandLine$1", "hasNext", "()Z"⟩ : MethodName)) (z := (⟨"com/example/rouse/rouse/shell/CommandLine$1", "hasNext", "()Z"⟩ : MethodName)) hown (mvT hZ (own_w hw 77 rfl)) (mvT hZ (own_w hw 78 rfl)) (notFace_of_selects (args := #[]) (mvT hZ (own_w hw 80 rfl))) (mvT hZ (own_w hw 80 rfl)) (mvT hZ (own_w hw 79 rfl)) (by decide) (backOf (W := 0) (rm10x34 l Z a0 hw [] ra0 uo1 h0 n0 Z0 H1 H2 H3) hZ (own_w hw 81 rfl) (own_w hw 56 rfl) (by decide) (by decide)) q101a q101c (g := (mkF m 1 #[.val (.ref ra0), .unset, .unset] [(.ref ra0)])) rfl (by rw [hml]; rfl) (Steps.refl _) (argsL := []) (rest := []) (lenOf pd_22 rfl) rfl (by show 2 * 0 + _ ≤ _; exact Nat.le_of_eq rfl) (hb hby d9_1) (fun _ _ => ⟨rfl, e0, (by decide : 0 + 0 ≤ _), (by decide : 0 + 0 ≤ _)⟩)
  dsimp only [Pt.U, Pt.locs, Pt.cells, Pt.slots] at X101 l101 y101 z101 st101 hQ101
  subst l101 y101 z101
  obtain ⟨rfl, Nq101, Heq101⟩ := hQ101
  have N101 := Fr.app N0 Nq101
  obtain ⟨T102, X102, e102, st102⟩ := getF X101 hx hZ hown (host := "") (Or.inl (own_w hw 82 rfl)) Via.refl Heq101 H1 (g := (mkF m 16 #[.val (.ref ra0), .unset, .unset] [(.ref ra0)])) rfl rfl (hb hby d9_16)
  obtain ⟨T103, X103, e103, st103⟩ := getF X102 hx hZ hown (host := "") (Or.inl (own_w hw 60 rfl)) Via.refl e102 H2 (g := (mkF m 23 #[.val (.ref ra0), .val (.int (0 : Int32)), .val (.int (0 : Int32))] [(.ref ra0)])) rfl rfl (hb hby d9_23)
  obtain ⟨T104, X104, e104, st104⟩ := getF X103 hx hZ hown (Or.inr (own_w hw 85 rfl)) Via.refl e103 H4 (g := (mkF m 26 #[.val (.ref ra0), .val (.int (0 : Int32)), .val (.int (0 : Int32))] [(.ref uo1)])) rfl rfl (hb hby d9_26)
  obtain ⟨cl105, Ar105, qc105, S105, M105, Hh105, G105⟩ := id H5
  have hin105 : ¬ ((0 : Int32) < 0 ∨ cl105.slots.size ≤ ((0 : Int32)).toNatClampNeg) := inb_of S105 ⟨by decide, by decide⟩
  obtain ⟨T106, X106, e106, st106⟩ := getF X104 hx hZ hown (host := "") (Or.inl (own_w hw 60 rfl)) Via.refl e104 H2 (g := (mkF m 23 #[.val (.ref ra0), .val (.int (0 : Int32)), .val (.int (1 : Int32))] [(.ref ra0)])) rfl rfl (hb hby d9_23)
  obtain ⟨T107, X107, e107, st107⟩ := getF X106 hx hZ hown (Or.inr (own_w hw 85 rfl)) Via.refl e106 H4 (g := (mkF m 26 #[.val (.ref ra0), .val (.int (0 : Int32)), .val (.int (1 : Int32))] [(.ref uo1)])) rfl rfl (hb hby d9_26)
  obtain ⟨cl108, Ar108, qc108, S108, M108, Hh108, G108⟩ := id H5
  have hin108 : ¬ ((1 : Int32) < 0 ∨ cl108.slots.size ≤ ((1 : Int32)).toNatClampNeg) := inb_of S108 ⟨by decide, by decide⟩
  obtain ⟨T109, h109, X109, e109, W109, st109⟩ := putF X107 hx hZ hown (host := "") (Or.inl (own_w hw 82 rfl)) Via.refl e107 H1 H0 (Or.inl (own_w hw 83 rfl)) (own_w hw 55 rfl) (ty := .int) (by decide) rfl rfl (g := (mkF m 44 #[.val (.ref ra0), .val (.int (0 : Int32)), .val (.int (1 : Int32))] [(.int (2 : Int32)), (.ref ra0)])) rfl rfl (hb hby d9_44)
  have Fw109 := H1.same W109
  have N109 := Fr.snoc X109 N101 H8
  obtain ⟨T110, h110, X110, e110, E110, A110, D110, -, st110⟩ := newO X109 hx hZ hown (own_w hw 86 rfl) (own_w hw 87 rfl) (own_w hw 88 rfl) e109 (g := (mkF m 47 #[.val (.ref ra0), .val (.int (0 : Int32)), .val (.int (1 : Int32))] [])) rfl (hb hby d9_47) (by decide) (by decide)
  obtain ⟨b110, g110⟩ : ∃ z, z = h109.size := ⟨_, rfl⟩
  rw [← g110] at A110 D110 st110
  have F111 : Fld Z h110 b110 "com/example/rouse/rouse/shell/CommandLine$Words" "this$0" "Lcom/example/rouse/rouse/shell/CommandLine;" .null := D110 (Or.inr (own_w hw 93 rfl)) (ty := (.object "com/example/rouse/rouse/shell/CommandLine")) (by decide)
  have F112 : Fld Z h110 b110 "java/util/AbstractList" "modCount" "I" (.int (0 : Int32)) := D110 (Or.inl (own_w hw 107 rfl)) (ty := .int) (by decide)
  have F113 : Fld Z h110 b110 "com/example/rouse/rouse/shell/CommandLine$Words" "from" "I" (.int (0 : Int32)) := D110 (Or.inr (own_w hw 109 rfl)) (ty := .int) (by decide)
  have F114 : Fld Z h110 b110 "com/example/rouse/rouse/shell/CommandLine$Words" "to" "I" (.int (0 : Int32)) := D110 (Or.inr (own_w hw 111 rfl)) (ty := .int) (by decide)
  have f115 := ((H2.other W109 (Or.inr (slot_ne (Or.inr (own_w hw 61 rfl)) (Or.inl (own_w hw 83 rfl)) (by decide) (t := (.object "com/example/rouse/rouse/shell/CommandLine")) (t' := .int) (by decide) (by decide)))).ext E110)
  obtain ⟨T116, X116, e116, st116⟩ := getF X110 hx hZ hown (host := "") (Or.inl (own_w hw 60 rfl)) Via.refl e110 f115 (g := (mkF m 52 #[.val (.ref ra0), .val (.int (0 : Int32)), .val (.int (1 : Int32))] [(.ref ra0), (.ref b110), (.ref b110)])) rfl rfl (hb hby d9_52)
  have f117 := (Fw109.ext E110)
  obtain ⟨T118, X118, e118, st118⟩ := getF X116 hx hZ hown (host := "") (Or.inl (own_w hw 82 rfl)) Via.refl e116 f117 (g := (mkF m 57 #[.val (.ref ra0), .val (.int (0 : Int32)), .val (.int (1 : Int32))] [(.ref ra0), (.int (0 : Int32)), (.ref uo1), (.ref b110), (.ref b110)])) rfl rfl (hb hby d9_57)
  have g119 : n0 ≤ b110 := Nat.le_trans (Nat.le_trans Z0 (Nat.le_of_eq W109.size.symm)) (Nat.le_of_eq g110.symm)
  have z121 : n0 ≤ h110.size := (Nat.le_trans (Nat.le_trans Z0 (Nat.le_of_eq W109.size.symm)) E110.1)
  obtain ⟨_, _, ⟨T120, L120, k120, n120⟩, -, X120, ⟨Lc120, hQ120, l120, y120, z120⟩, st120⟩ := X118.specialBack hx (y := (⟨"com/example/rouse/rouse/shell/CommandLine$Words", "<init>", "(Lcom/example/rouse/rouse/shell/CommandLine;II)V"⟩ : MethodName)) rfl hown (mvT hZ (own_w hw 89 rfl)) (mvT hZ (own_w hw 90 rfl)) (mvT hZ (own_w hw 91 rfl)) (by decide) (backOf (W := 1) (rm11 l Z a0 hw [] b110 uo1 (0 : Int32) (2 : Int32) h110 n0 z121 A110 F111 F113 F114 F112 g119) hZ (own_w hw 91 rfl) (own_w hw 88 rfl) (by decide) (by decide)) (g := (mkF m 60 #[.val (.ref ra0), .val (.int (0 : Int32)), .val (.int (1 : Int32))] [(.int (2 : Int32)), (.int (0 : Int32)), (.ref uo1), (.ref b110), (.ref b110)])) rfl (by rw [hml]; rfl) (Steps.refl _) (a := b110) (argsL := [(.ref uo1), (.int (0 : Int32)), (.int (2 : Int32))]) (rest := [(.ref b110)]) (lenOf pd_23 rfl) rfl (by show 2 * 0 + _ ≤ _; exact Nat.le_of_eq rfl) (hb hby d9_60) (fun _ _ => ⟨rfl, e118, (by decide : 1 + 0 ≤ _), (by decide : 4 + 0 ≤ _)⟩)
  dsimp only [Pt.U, Pt.locs, Pt.cells, Pt.slots] at X120 l120 y120 z120 st120 hQ120
  subst l120 y120 z120
  obtain ⟨rfl, Nq120, K120, R120_1, R120_2, R120_3⟩ := hQ120
  have N120 := Fr.app N109 Nq120
  have ne122 : ra0 ≠ b110 := (Nat.ne_of_lt (Nat.lt_of_lt_of_le (H0.wr W109).lt (Nat.le_of_eq g110.symm)))
  have f123 := (f117.keep K120 (ninS ne122 nin0))
  have f124 := (f115.keep K120 (ninS ne122 nin0))
  have f125 := (A110.keep K120)
  obtain ⟨fs, hr, hrun, hended, hW, hsame⟩ := X120.leave (v := some (.ref b110)) (fun h => by rw [Bd.returns] at h; cases h)
  refine ⟨_, _, pre0 _ ?_, hrun, hended, _, _, rfl, ?_, ⟨_, rfl⟩, hW, hsame.mono (by decide) (by decide)⟩
  · skip
    show Steps p.tables e below (s₁.setTop (mkF m 0 #[.val (.ref ra0), .unset, .unset] [])) _
    refine XS.aloadN X0.here hx rfl (hb hby d9_0) rfl rfl ?_
    show Steps p.tables e below (s₁.setTop (mkF m 1 #[.val (.ref ra0), .unset, .unset] [(.ref ra0)])) _
    refine st101.trans ?_
    show Steps p.tables e below (T101.setTop (mkF m 4 #[.val (.ref ra0), .unset, .unset] [(.int (1 : Int32))])) _
    refine XS.ifYes X101.here hx rfl (pc0 := 4) (pc' := 15) rfl (hb hby d9_4) rfl ((if0 _ _).trans (feq (by decide : ¬ ((1 : Int32) = (0 : Int32)))).2) (by decide) (by decide) ?_
    refine XS.aloadN X101.here hx rfl (hb hby d9_15) rfl rfl ?_
    refine st102 _ ?_
    refine XS.istoreN X102.here hx rfl (hb hby d9_19) rfl (l' := #[.val (.ref ra0), .val (.int (0 : Int32)), .unset]) rfl ?_
    refine XS.iloadN X102.here hx rfl (hb hby d9_20) rfl ?_
    refine XS.istoreN X102.here hx rfl (hb hby d9_21) rfl (l' := #[.val (.ref ra0), .val (.int (0 : Int32)), .val (.int (0 : Int32))]) rfl ?_
    refine XS.aloadN X102.here hx rfl (hb hby d9_22) rfl rfl ?_
    refine st103 _ ?_
    refine st104 _ ?_
    refine XS.iloadN X104.here hx rfl (hb hby d9_29) rfl ?_
    show Steps p.tables e below (T104.setTop (mkF m 30 #[.val (.ref ra0), .val (.int (0 : Int32)), .val (.int (0 : Int32))] [(.int (0 : Int32)), (.ref uo2)])) _
    refine X104.iaload hx (j := (0 : Int32)) (v := (.int ui3)) (by rw [e104]; exact Ar105.1) (State.isArrayOf_alike hZ.alike Ar105.2.1) Ar105.2.2 hin105 (Hh105.at hin105 (rfl)) (g := (mkF m 30 #[.val (.ref ra0), .val (.int (0 : Int32)), .val (.int (0 : Int32))] [(.int (0 : Int32)), (.ref uo2)])) rfl rfl (hb hby d9_30) _ ?_
    show Steps p.tables e below (T104.setTop (mkF m 31 #[.val (.ref ra0), .val (.int (0 : Int32)), .val (.int (0 : Int32))] [(.int ui3)])) _
    refine XS.ifNo X104.here hx rfl (hb hby d9_31) rfl ((if0 _ _).trans (flt (H6 : ¬ (ui3 < (0 : Int32)))).1) ?_
    show Steps p.tables e below (T104.setTop (mkF m 34 #[.val (.ref ra0), .val (.int (0 : Int32)), .val (.int (0 : Int32))] [])) _
    refine XS.iinc X104.here hx rfl (hb hby d9_34) rfl (l' := #[.val (.ref ra0), .val (.int (0 : Int32)), .val (.int ((0 : Int32) + (1 : Int32)))]) rfl ?_
    show Steps p.tables e below (T104.setTop (mkF m 37 #[.val (.ref ra0), .val (.int (0 : Int32)), .val (.int ((0 : Int32) + (1 : Int32)))] [])) _
    rw [show ((0 : Int32) + (1 : Int32)) = (1 : Int32) from by decide]
    show Steps p.tables e below (T104.setTop (mkF m 37 #[.val (.ref ra0), .val (.int (0 : Int32)), .val (.int (1 : Int32))] [])) _
    refine XS.goto X104.here hx rfl (pc0 := 37) (pc' := 22) rfl (hb hby d9_37) (by decide) (by decide) ?_
    refine XS.aloadN X104.here hx rfl (hb hby d9_22) rfl rfl ?_
    refine st106 _ ?_
    refine st107 _ ?_
    refine XS.iloadN X107.here hx rfl (hb hby d9_29) rfl ?_
    show Steps p.tables e below (T107.setTop (mkF m 30 #[.val (.ref ra0), .val (.int (0 : Int32)), .val (.int (1 : Int32))] [(.int (1 : Int32)), (.ref uo2)])) _
    refine X107.iaload hx (j := (1 : Int32)) (v := (.int ui4)) (by rw [e107]; exact Ar108.1) (State.isArrayOf_alike hZ.alike Ar108.2.1) Ar108.2.2 hin108 (Hh108.at hin108 (rfl)) (g := (mkF m 30 #[.val (.ref ra0), .val (.int (0 : Int32)), .val (.int (1 : Int32))] [(.int (1 : Int32)), (.ref uo2)])) rfl rfl (hb hby d9_30) _ ?_
    show Steps p.tables e below (T107.setTop (mkF m 31 #[.val (.ref ra0), .val (.int (0 : Int32)), .val (.int (1 : Int32))] [(.int ui4)])) _
    refine XS.ifYes X107.here hx rfl (pc0 := 31) (pc' := 40) rfl (hb hby d9_31) rfl ((if0 _ _).trans (tlt (H7 : ui4 < (0 : Int32))).1) (by decide) (by decide) ?_
    refine XS.aloadN X107.here hx rfl (hb hby d9_40) rfl rfl ?_
    refine XS.iloadN X107.here hx rfl (hb hby d9_41) rfl ?_
    refine XS.iconst X107.here hx rfl (hb hby d9_42) ?_
    refine XS.iadd X107.here hx rfl (hb hby d9_43) rfl ?_
    show Steps p.tables e below (T107.setTop (mkF m 44 #[.val (.ref ra0), .val (.int (0 : Int32)), .val (.int (1 : Int32))] [(.int ((1 : Int32) + (1 : Int32))), (.ref ra0)])) _
    rw [show ((1 : Int32) + (1 : Int32)) = (2 : Int32) from by decide]
    show Steps p.tables e below (T107.setTop (mkF m 44 #[.val (.ref ra0), .val (.int (0 : Int32)), .val (.int (1 : Int32))] [(.int (2 : Int32)), (.ref ra0)])) _
    refine st109 _ ?_
    refine st110 _ ?_
    refine XS.dup X110.here hx rfl (hb hby d9_50) rfl rfl ?_
    refine XS.aloadN X110.here hx rfl (hb hby d9_51) rfl rfl ?_
    refine st116 _ ?_
    refine XS.iloadN X116.here hx rfl (hb hby d9_55) rfl ?_
    refine XS.aloadN X116.here hx rfl (hb hby d9_56) rfl rfl ?_
    refine st118 _ ?_
    show Steps p.tables e below (T118.setTop (mkF m 60 #[.val (.ref ra0), .val (.int (0 : Int32)), .val (.int (1 : Int32))] [(.int (2 : Int32)), (.int (0 : Int32)), (.ref uo1), (.ref b110), (.ref b110)])) _
    refine st120.trans ?_
    show Steps p.tables e below (T120.setTop (mkF m 63 #[.val (.ref ra0), .val (.int (0 : Int32)), .val (.int (1 : Int32))] [(.ref b110)])) _
    jvm_step X120.here [X120.here.top, hx, (hb hby d9_63), X120.method', Bd.returns, Value.isRef, FieldType.isReference]
    first | (intro acts; rw [hr _ acts rfl rfl rfl]) | rw [hr _ _ rfl rfl rfl]
    exact Steps.refl _
  · show Q9x33 Z ra0 uo1 uo2 ui3 ui4 uk5 h0 n0 _ T120.heap _
    exact ⟨b110, rfl, N120, ((((Keep.refl h0 [ra0]).wr W109 (Or.inl (List.mem_of_getElem? (i := 0) rfl))).ext E110).trans K120 (allS (P := (fun x => x ∈ [ra0] ∨ h0.size ≤ x)) (Or.inr (Nat.le_trans (Nat.le_trans (Nat.le_refl _) (Nat.le_of_eq W109.size.symm)) (Nat.le_of_eq g110.symm))) all0)), f123, f124, (Nat.le_trans (Nat.le_trans (Nat.le_refl _) (Nat.le_of_eq W109.size.symm)) (Nat.le_of_eq g110.symm)), f125, R120_2, R120_1, R120_3⟩
theorem d8_0 : decode prog_65_method_4_code 0 = .ok (.aload_n 0, 1) := by decide +kernel
theorem d8_1 : decode prog_65_method_4_code 1 = .ok (.invokevirtual 38, 3) := by decide +kernel
theorem d8_4 : decode prog_65_method_4_code 4 = .ok (.areturn, 1) := by decide +kernel
theorem ef_8x32 (m : MethodId) (ra0 : Addr) : entryFrame m #[(.ref ra0)] 1 = mkF m 0 #[.val (.ref ra0)] [] := by first | (simp [entryFrame, mkF, argsToLocals, Value.category]; done) | rfl
def Q8x32 (Z : State) (ra0 : Addr) (uo1 : Addr) (uo2 : Addr) (ui3 : Int32) (ui4 : Int32) (uk5 : ClassId) (h0 : Heap) (n0 : Nat) (v : Option Value) (h : Heap) (L : List Loc) : Prop := ∃ (b110101 : Addr), v = some (.ref b110101) ∧ Fr n0 L ∧ Keep h0 h [ra0] ∧ Fld Z h ra0 "com/example/rouse/rouse/shell/CommandLine$1" "nextWord" "I" (.int (2 : Int32)) ∧ Fld Z h ra0 "com/example/rouse/rouse/shell/CommandLine$1" "this$0" "Lcom/example/rouse/rouse/shell/CommandLine;" (.ref uo1) ∧ h0.size ≤ b110101 ∧ Exa Z h b110101 "com/example/rouse/rouse/shell/CommandLine$Words" ∧ Fld Z h b110101 "com/example/rouse/rouse/shell/CommandLine$Words" "from" "I" (.int (0 : Int32)) ∧ Fld Z h b110101 "com/example/rouse/rouse/shell/CommandLine$Words" "this$0" "Lcom/example/rouse/rouse/shell/CommandLine;" (.ref uo1) ∧ Fld Z h b110101 "com/example/rouse/rouse/shell/CommandLine$Words" "to" "I" (.int (2 : Int32))
set_option maxRecDepth 65536 in
set_option maxHeartbeats 40000000 in
theorem rm8x32 (l : Launch) (Z : State) (a0 : Array Value) (hw : ∀ d ∈ tables_1, d.before a0 Z = true) (ws : List Jvm.Cond) (ra0 : Addr) (uo1 : Addr) (uo2 : Addr) (ui3 : Int32) (ui4 : Int32) (uk5 : ClassId) (h0 : Heap) (n0 : Nat) (Z0 : n0 ≤ h0.size) (H0 : Exa Z h0 ra0 "com/example/rouse/rouse/shell/CommandLine$1") (H1 : Fld Z h0 ra0 "com/example/rouse/rouse/shell/CommandLine$1" "nextWord" "I" (.int (0 : Int32))) (H2 : Fld Z h0 ra0 "com/example/rouse/rouse/shell/CommandLine$1" "this$0" "Lcom/example/rouse/rouse/shell/CommandLine;" (.ref uo1)) (H3 : Fld Z h0 uo1 "com/example/rouse/rouse/shell/CommandLine" "words" "I" (.int (2 : Int32))) (H4 : Fld Z h0 uo1 "com/example/rouse/rouse/shell/CommandLine" "wordEnds" "[I" (.ref uo2)) (H5 : Arv Z h0 uo2 uk5 .int (16 : Int32) (own_zl (.int ui3) (.int ui4)) (.int (0 : Int32))) (H6 : ¬ (ui3 < (0 : Int32))) (H7 : ui4 < (0 : Int32)) (H8 : n0 ≤ ra0) :
    own_MF l (⟨"com/example/rouse/rouse/shell/CommandLine$1", "next", "()Ljava/lang/Object;"⟩ : MethodName) (Jvm.Cond.code (⟨"com/example/rouse/rouse/shell/CommandLine$1", "next", "()Ljava/lang/Object;"⟩ : MethodName) prog_65_method_4_code 1 (some (.object "java/lang/Object")) :: ws) ({ frames := 5, cells := 1, slots := 4, locals := 66 } : Room) #[(.ref ra0)] Z h0 (Q8x32 Z ra0 uo1 uo2 ui3 ui4 uk5 h0 n0) := by
  refine MetFree.of_bodySF (plainFor_of_name pn_com_example_rouse_rouse_shell_CommandLine_1) hisR ?_
  intro p e s m args below meth c s₁ Bd hml0 hP hK
  obtain ⟨rfl, hZ, hh⟩ := hP
  have hx := Bd.exec
  have hby := Bd.bytes
  have hml : c.maxLocals = 1 := hml0
  have hown : s.vm.findClass "com/example/rouse/rouse/shell/CommandLine$1" = some m.cls := findClass_of_methodNamed Bd.named
  have hnm := (name_of_methodNamed Bd.named Bd.method).1
  have X0 : Stand p l e ({ frames := 5, cells := 1, slots := 4, locals := 66 } : Room) s m #[(.ref ra0)] below meth c s₁ [] 0 0 := Stand.of_body Bd
  have e0 : s₁.heap = h0 := by rw [← hh, Bd.state]; rfl
  have N0 := Fr.nil n0
  have pre0 : ∀ t, Steps p.tables e below (s₁.setTop (mkF m 0 #[.val (.ref ra0)] [])) t → Steps p.tables e below (s₁.setTop (entryFrame m #[(.ref ra0)] 1)) t := fun t k => castTop (ef_8x32 m ra0) k
  obtain ⟨cq101, kq101, q101a, q101b, q101c⟩ := isOf hZ e0 H0
  obtain ⟨_, _, ⟨T101, L101, k101, n101⟩, -, X101, ⟨Lc101, hQ101, l101, y101, z101⟩, st101⟩ := X0.virtualBack hx (y := (⟨"com/example/rouse/rouse/shell/CommandLine$1", "next", "()Lcom/example/rouse/rouse/shell/CommandLine$Words;"⟩ : MethodName)) (z := (⟨"com/example/rouse/rouse/shell/CommandLine$1", "next", "()Lcom/example/rouse/rouse/shell/CommandLine$Words;"⟩ : MethodName)) hown (mvT hZ (own_w hw 72 rfl)) (mvT hZ (own_w hw 73 rfl)) (notFace_of_selects (args := #[]) (mvT hZ (own_w hw 75 rfl))) (mvT hZ (own_w hw 75 rfl)) (mvT hZ (own_w hw 74 rfl)) (by decide) (backOf (W := 0) (rm9x33 l Z a0 hw [] ra0 uo1 uo2 ui3 ui4 uk5 h0 n0 Z0 H0 H1 H2 H3 H4 H5 H6 H7 H8) hZ (own_w hw 76 rfl) (own_w hw 56 rfl) (by decide) (by decide)) q101a q101c (g := (mkF m 1 #[.val (.ref ra0)] [(.ref ra0)])) rfl (by rw [hml]; rfl) (Steps.refl _) (argsL := []) (rest := []) (lenOf pd_24 rfl) rfl (by show 2 * 0 + _ ≤ _; exact Nat.le_of_eq rfl) (hb hby d8_1) (fun _ _ => ⟨rfl, e0, (by decide : 0 + 1 ≤ _), (by decide : 0 + 4 ≤ _)⟩)
  dsimp only [Pt.U, Pt.locs, Pt.cells, Pt.slots] at X101 l101 y101 z101 st101 hQ101
  subst l101 y101 z101
  obtain ⟨b110101, rfl, Nq101, K101, R101_1, R101_2, R101_3, R101_4, R101_5, R101_6, R101_7⟩ := hQ101
  have N101 := Fr.app N0 Nq101
  obtain ⟨fs, hr, hrun, hended, hW, hsame⟩ := X101.leave (v := some (.ref b110101)) (fun h => by rw [Bd.returns] at h; cases h)
  refine ⟨_, _, pre0 _ ?_, hrun, hended, _, _, rfl, ?_, ⟨_, rfl⟩, hW, hsame.mono (by decide) (by decide)⟩
  · skip
    show Steps p.tables e below (s₁.setTop (mkF m 0 #[.val (.ref ra0)] [])) _
    refine XS.aloadN X0.here hx rfl (hb hby d8_0) rfl rfl ?_
    show Steps p.tables e below (s₁.setTop (mkF m 1 #[.val (.ref ra0)] [(.ref ra0)])) _
    refine st101.trans ?_
    show Steps p.tables e below (T101.setTop (mkF m 4 #[.val (.ref ra0)] [(.ref b110101)])) _
    jvm_step X101.here [X101.here.top, hx, (hb hby d8_4), X101.method', Bd.returns, Value.isRef, FieldType.isReference]
    first | (intro acts; rw [hr _ acts rfl rfl rfl]) | rw [hr _ _ rfl rfl rfl]
    exact Steps.refl _
  · show Q8x32 Z ra0 uo1 uo2 ui3 ui4 uk5 h0 n0 _ T101.heap _
    exact ⟨b110101, rfl, N101, ((Keep.refl h0 [ra0]).trans K101 (allS (P := (fun x => x ∈ [ra0] ∨ h0.size ≤ x)) (Or.inl (List.mem_of_getElem? (i := 0) rfl)) all0)), R101_1, R101_2, (Nat.le_trans (Nat.le_refl _) R101_3), R101_4, R101_5, R101_6, R101_7⟩
theorem d10_18 : decode prog_65_method_2_code 18 = .ok (.iconst 0, 1) := by decide +kernel
theorem ef_10x36 (m : MethodId) (ra0 : Addr) : entryFrame m #[(.ref ra0)] 1 = mkF m 0 #[.val (.ref ra0)] [] := by first | (simp [entryFrame, mkF, argsToLocals, Value.category]; done) | rfl
def Q10x36 (Z : State) (ra0 : Addr) (uo1 : Addr) (h0 : Heap) (n0 : Nat) (v : Option Value) (h : Heap) (L : List Loc) : Prop := v = some (.int (0 : Int32)) ∧ Fr n0 L ∧ h = h0
set_option maxRecDepth 65536 in
set_option maxHeartbeats 40000000 in
theorem rm10x36 (l : Launch) (Z : State) (a0 : Array Value) (hw : ∀ d ∈ tables_1, d.before a0 Z = true) (ws : List Jvm.Cond) (ra0 : Addr) (uo1 : Addr) (h0 : Heap) (n0 : Nat) (Z0 : n0 ≤ h0.size) (H0 : Fld Z h0 ra0 "com/example/rouse/rouse/shell/CommandLine$1" "nextWord" "I" (.int (2 : Int32))) (H1 : Fld Z h0 ra0 "com/example/rouse/rouse/shell/CommandLine$1" "this$0" "Lcom/example/rouse/rouse/shell/CommandLine;" (.ref uo1)) (H2 : Fld Z h0 uo1 "com/example/rouse/rouse/shell/CommandLine" "words" "I" (.int (2 : Int32))) :
    own_MF l (⟨"com/example/rouse/rouse/shell/CommandLine$1", "hasNext", "()Z"⟩ : MethodName) (Jvm.Cond.code (⟨"com/example/rouse/rouse/shell/CommandLine$1", "hasNext", "()Z"⟩ : MethodName) prog_65_method_2_code 1 (some .boolean) :: ws) ({ frames := 0, cells := 0, slots := 0, locals := 0 } : Room) #[(.ref ra0)] Z h0 (Q10x36 Z ra0 uo1 h0 n0) := by
  refine MetFree.of_bodySF (plainFor_of_name pn_com_example_rouse_rouse_shell_CommandLine_1) hisR ?_
  intro p e s m args below meth c s₁ Bd hml0 hP hK
  obtain ⟨rfl, hZ, hh⟩ := hP
  have hx := Bd.exec
  have hby := Bd.bytes
  have hml : c.maxLocals = 1 := hml0
  have hown : s.vm.findClass "com/example/rouse/rouse/shell/CommandLine$1" = some m.cls := findClass_of_methodNamed Bd.named
  have hnm := (name_of_methodNamed Bd.named Bd.method).1
  have X0 : Stand p l e ({ frames := 0, cells := 0, slots := 0, locals := 0 } : Room) s m #[(.ref ra0)] below meth c s₁ [] 0 0 := Stand.of_body Bd
  have e0 : s₁.heap = h0 := by rw [← hh, Bd.state]; rfl
  have N0 := Fr.nil n0
  have pre0 : ∀ t, Steps p.tables e below (s₁.setTop (mkF m 0 #[.val (.ref ra0)] [])) t → Steps p.tables e below (s₁.setTop (entryFrame m #[(.ref ra0)] 1)) t := fun t k => castTop (ef_10x36 m ra0) k
  obtain ⟨T101, X101, e101, st101⟩ := getF X0 hx hZ hown (host := "") (Or.inl (own_w hw 82 rfl)) Via.refl e0 H0 (g := (mkF m 1 #[.val (.ref ra0)] [(.ref ra0)])) rfl rfl (hb hby d10_1)
  obtain ⟨T102, X102, e102, st102⟩ := getF X101 hx hZ hown (host := "") (Or.inl (own_w hw 60 rfl)) Via.refl e101 H1 (g := (mkF m 5 #[.val (.ref ra0)] [(.ref ra0), (.int (2 : Int32))])) rfl rfl (hb hby d10_5)
  obtain ⟨T103, X103, e103, st103⟩ := getF X102 hx hZ hown (Or.inr (own_w hw 84 rfl)) Via.refl e102 H2 (g := (mkF m 8 #[.val (.ref ra0)] [(.ref uo1), (.int (2 : Int32))])) rfl rfl (hb hby d10_8)
  obtain ⟨fs, hr, hrun, hended, hW, hsame⟩ := X103.leave (v := some (.int (0 : Int32))) (fun h => by rw [Bd.returns] at h; cases h)
  refine ⟨_, _, pre0 _ ?_, hrun, hended, _, _, rfl, ?_, ⟨_, rfl⟩, hW, hsame.mono (by decide) (by decide)⟩
  · skip
    show Steps p.tables e below (s₁.setTop (mkF m 0 #[.val (.ref ra0)] [])) _
    refine XS.aloadN X0.here hx rfl (hb hby d10_0) rfl rfl ?_
    refine st101 _ ?_
    refine XS.aloadN X101.here hx rfl (hb hby d10_4) rfl rfl ?_
    refine st102 _ ?_
    refine st103 _ ?_
    refine XS.icmpYes X103.here hx rfl (pc0 := 11) (pc' := 18) rfl (hb hby d10_11) rfl (flt (by decide : ¬ ((2 : Int32) < (2 : Int32)))).2.1 (by decide) (by decide) ?_
    refine XS.iconst X103.here hx rfl (hb hby d10_18) ?_
    show Steps p.tables e below (T103.setTop (mkF m 19 #[.val (.ref ra0)] [(.int (0 : Int32))])) _
    exact retN X103 hx (t := .boolean) Bd.returns (by simp) (hb hby d10_19) hr
  · show Q10x36 Z ra0 uo1 h0 n0 _ T103.heap _
    rw [e103]
    exact ⟨rfl, N0, rfl⟩
set_option maxRecDepth 65536 in
set_option maxHeartbeats 40000000 in
theorem tl_A (l : Launch) (Z : State) (a0 : Array Value) (hw : ∀ d ∈ tables_1, d.before a0 Z = true) (ws : List Jvm.Cond) (hEL : EW Z a0 own_EL) (p1 : Int32) (p2 : Int32) (p3 : Int32) (cz : Int32) (sf : Value) (v3 : Int32) (v4 : Int32) (v5 : Int32) (c1 : Int32) (c2 : Int32) (s8 : Addr) (s9 : Addr) (b8 : Addr) (k8 : ClassId) (b9 : Addr) (k9 : ClassId) (cl : Addr) (cb : Addr) (ck : ClassId) (x0 : Int32) (x1 : Int32) (wb : Addr) (wk : ClassId) (w0 : Int32) (w1 : Int32) (v11 : Int32) (v12 : Int32) (hs : Heap) (n0 : Nat) (h0 : Heap) (Z0 : n0 ≤ h0.size) (H0 : Sta Z h0 "java/lang/String" "COMPACT_STRINGS" "Z" (.int cz)) (H1 : ¬ (cz = (0 : Int32))) (H2 : Sta Z h0 "java/lang/StringUTF16" "$assertionsDisabled" "Z" (.int (1 : Int32))) (H3 : Sta Z h0 "java/lang/StringUTF16" "HI_BYTE_SHIFT" "I" (.int (0 : Int32))) (H4 : Sta Z h0 "java/lang/StringUTF16" "LO_BYTE_SHIFT" "I" (.int (8 : Int32))) (H5 : Sta Z h0 "jdk/internal/util/Preconditions" "SIOOBE_FORMATTER" "Ljava/util/function/BiFunction;" sf) (H6 : sf.category = 1) (H7 : Exa Z h0 s8 "java/lang/String") (H8 : Fld Z h0 s8 "java/lang/String" "coder" "B" (.int (own_cd v3 c1))) (H9 : Fld Z h0 s8 "java/lang/String" "value" "[B" (.ref b8)) (H10 : Arv Z h0 b8 k8 .byte (own_bn v3 c1) (own_bs v3 c1) (.int (0 : Int32))) (H11 : Exa Z h0 s9 "java/lang/String") (H12 : Fld Z h0 s9 "java/lang/String" "coder" "B" (.int (own_cd v5 c2))) (H13 : Fld Z h0 s9 "java/lang/String" "value" "[B" (.ref b9)) (H14 : Arv Z h0 b9 k9 .byte (own_bn v5 c2) (own_bs v5 c2) (.int (0 : Int32))) (H15 : Exa Z h0 cl "com/example/rouse/rouse/shell/CommandLine") (H16 : Fld Z h0 cl "com/example/rouse/rouse/shell/CommandLine" "words" "I" (.int (2 : Int32))) (H17 : Fld Z h0 cl "com/example/rouse/rouse/shell/CommandLine" "characters" "[C" (.ref cb)) (H18 : Fld Z h0 cl "com/example/rouse/rouse/shell/CommandLine" "wordEnds" "[I" (.ref wb)) (H19 : Arv Z h0 cb ck .char (16 : Int32) (own_zl (.int x0) (.int x1)) (.int (0 : Int32))) (H20 : Arv Z h0 wb wk .int (16 : Int32) (own_zl (.int w0) (.int w1)) (.int (0 : Int32))) (H21 : own_chr x0) (H22 : own_chr x1) (H23 : own_01 v3) (H24 : own_01 v5) (H25 : own_we w0 = v3) (H26 : own_we w1 = (v3 + v5)) (H27 : ¬ (w0 < (0 : Int32))) (H28 : w1 < (0 : Int32)) (H29 : own_tx v3 x0 c1) (H30 : own_tx v5 (own_at v3 x0 x1) c2) (H31 : v4 = (0 : Int32)) {p : Program} {e : Env} {s : State} {m : MethodId} {below : List Frame} {meth : Method} {c : Code} {s₁ : State} (Bd : BodyLoose p l x (head1 (Jvm.Cond.code x code maxLocals ret :: ws) room_1) code maxLocals ret e s m #[(.int p1), (.int p2), (.int p3)] below meth c s₁) (hml : c.maxLocals = 16) (hh : s.heap = hs) {vm0 : Vm} {T : State} {locs : List Loc} {k0 : Nat} (hZ : Z.Warmed39 (s.setVm vm0).vm) (hown : (s.setVm vm0).vm.findClass "com/example/rouse/rouse/shell/CommandLineEndCommandPinLaw" = some m.cls) (X0 : Stand p l e room_1 (s.setVm vm0) m #[(.int p1), (.int p2), (.int p3)] below meth c T locs 12 160) (N0 : Fr n0 locs) (e0 : T.heap = h0) (hS0 : s.Since vm0 k0) (hk0 : k0 ≤ h0.size) (hH : CHv Z own_EL vm0 h0) (Cr0 : CHr Z own_EL s.vm hs vm0 h0) (pre0 : ∀ t, Steps p.tables e below (T.setTop (mkF m 174 #[.val (.int p1), .val (.int p2), .val (.int p3), .val (.int v3), .val (.int v4), .val (.int v5), .val (.int c1), .val (.int c2), .val (.ref s8), .val (.ref s9), .val (.ref cl), .val (.int v11), .val (.int v12), .unset, .unset, .unset] [])) t → Steps p.tables e below (s₁.setTop (entryFrame m #[(.int p1), (.int p2), (.int p3)] maxLocals)) t) :
    ∃ s₂ o, Steps p.tables e below (s₁.setTop (entryFrame m #[(.int p1), (.int p2), (.int p3)] maxLocals)) s₂ ∧ s₂.status = .running ∧ Ended s₂ below o ∧ ∃ v L, o = .returned v ∧ Q0 Z p1 p2 p3 cz sf hs n0 v s₂.heap L ∧ CHr Z own_EL s.vm s.heap s₂.vm s₂.heap ∧ ReturnedEndW s o s₂ L room_1.cells room_1.slots := by
  have hx := Bd.exec
  have hby := Bd.bytes
  have hnm := (name_of_methodNamed Bd.named Bd.method).1
  obtain ⟨cq101, kq101, q101a, q101b, q101c⟩ := isOf hZ e0 H15
  obtain ⟨_, _, ⟨T101, L101, k101, n101⟩, -, X101, ⟨Lc101, hQ101, l101, y101, z101⟩, st101⟩ := X0.virtualBack hx (y := (⟨"com/example/rouse/rouse/shell/CommandLine", "iterator", "()Ljava/util/Iterator;"⟩ : MethodName)) (z := (⟨"com/example/rouse/rouse/shell/CommandLine", "iterator", "()Ljava/util/Iterator;"⟩ : MethodName)) hown (mvT hZ (own_w hw 49 rfl)) (mvT hZ (own_w hw 50 rfl)) (notFace_of_selects (args := #[]) (mvT hZ (own_w hw 52 rfl))) (mvT hZ (own_w hw 52 rfl)) (mvT hZ (own_w hw 51 rfl)) (by decide) (backOf (W := 0) (rm6x30 l Z a0 hw [] cl h0 n0 Z0) hZ (own_w hw 53 rfl) (own_w hw 11 rfl) (by decide) (by decide)) q101a q101c (g := (mkF m 176 #[.val (.int p1), .val (.int p2), .val (.int p3), .val (.int v3), .val (.int v4), .val (.int v5), .val (.int c1), .val (.int c2), .val (.ref s8), .val (.ref s9), .val (.ref cl), .val (.int v11), .val (.int v12), .unset, .unset, .unset] [(.ref cl)])) rfl (by rw [hml]; rfl) (Steps.refl _) (argsL := []) (rest := []) (lenOf pd_21 rfl) rfl (by show 2 * 0 + _ ≤ _; exact Nat.le_of_eq rfl) (hb hby at_176) (fun _ _ => ⟨rfl, e0, (by decide : 12 + 1 ≤ _), (by decide : 160 + 2 ≤ _)⟩)
  dsimp only [Pt.U, Pt.locs, Pt.cells, Pt.slots] at X101 l101 y101 z101 st101 hQ101
  subst l101 y101 z101
  obtain ⟨b101101, rfl, Nq101, K101, R101_1, R101_2, R101_3, R101_4⟩ := hQ101
  have N101 := Fr.app N0 Nq101
  have hs102 : ∀ x ∈ ([] : List Addr), Safe Z own_EL vm0 h0 x := (all0 (P := fun x => Safe Z own_EL vm0 h0 x))
  have Hc102 := CHv.keep K101 hs102 hH
  have Cr102 := Cr0.trans (CHr.keep K101 hs102 hH)
  have SbR101_1 := Safe.keep K101 hs102 hH (Safe.new R101_1)
  have g103 : n0 ≤ b101101 := Nat.le_trans Z0 R101_1
  have f104 := (H16.keep K101 nin0)
  have f105 := (H18.keep K101 nin0)
  have f106 := (H20.keep K101 nin0)
  have z108 : n0 ≤ T101.heap.size := (Nat.le_trans Z0 K101.1)
  obtain ⟨cq107, kq107, q107a, q107b, q107c⟩ := isOf hZ rfl R101_2
  obtain ⟨_, _, ⟨T107, L107, k107, n107⟩, -, X107, ⟨Lc107, hQ107, l107, y107, z107⟩, st107⟩ := X101.interfaceBack hx (xi := (⟨"java/util/Iterator", "next", "()Ljava/lang/Object;"⟩ : MethodName)) (y := (⟨"com/example/rouse/rouse/shell/CommandLine$1", "next", "()Ljava/lang/Object;"⟩ : MethodName)) hown (mvT hZ (own_w hw 63 rfl)) (mvT hZ (own_w hw 64 rfl)) (mvT hZ (own_w hw 65 rfl)) (mvT hZ (own_w hw 66 rfl)) (mvT hZ (own_w hw 67 rfl)) (mvT hZ (own_w hw 68 rfl)) (mvT hZ (own_w hw 69 rfl)) (mvT hZ (own_w hw 70 rfl)) (by decide) (backOf (W := 0) (rm8x32 l Z a0 hw [] b101101 cl wb w0 w1 wk T101.heap n0 z108 R101_2 R101_3 R101_4 f104 f105 f106 H27 H28 g103) hZ (own_w hw 71 rfl) (own_w hw 56 rfl) (by decide) (by decide)) q107a q107b q107c (g := (mkF m 183 #[.val (.int p1), .val (.int p2), .val (.int p3), .val (.int v3), .val (.int v4), .val (.int v5), .val (.int c1), .val (.int c2), .val (.ref s8), .val (.ref s9), .val (.ref cl), .val (.int v11), .val (.int v12), .val (.ref b101101), .unset, .unset] [(.ref b101101)])) rfl (by rw [hml]; rfl) (Steps.refl _) (argsL := []) (rest := []) (lenOf pd_25 rfl) rfl (by show 2 * 0 + _ ≤ _; exact Nat.le_of_eq rfl) (hb hby at_183) (fun _ _ => ⟨rfl, rfl, (by decide : 13 + 1 ≤ _), (by decide : 162 + 4 ≤ _)⟩)
  dsimp only [Pt.U, Pt.locs, Pt.cells, Pt.slots] at X107 l107 y107 z107 st107 hQ107
  subst l107 y107 z107
  obtain ⟨b110101107, rfl, Nq107, K107, R107_1, R107_2, R107_3, R107_4, R107_5, R107_6, R107_7⟩ := hQ107
  have N107 := Fr.app N101 Nq107
  have hs109 : ∀ x ∈ ([b101101] : List Addr), Safe Z own_EL vm0 T101.heap x := (allS (P := fun x => Safe Z own_EL vm0 T101.heap x) SbR101_1 (all0 (P := fun x => Safe Z own_EL vm0 T101.heap x)))
  have Hc109 := CHv.keep K107 hs109 Hc102
  have Cr109 := Cr102.trans (CHr.keep K107 hs109 Hc102)
  have Sf109_0 := Safe.keep K107 hs109 Hc102 SbR101_1
  have SbR107_3 := Safe.keep K107 hs109 Hc102 (Safe.new R107_3)
  obtain ⟨T110, X110, e110, st110⟩ := castY X107 hx hZ hown (own_w hw 112 rfl) rfl (Ins.self R107_4) (g := (mkF m 188 #[.val (.int p1), .val (.int p2), .val (.int p3), .val (.int v3), .val (.int v4), .val (.int v5), .val (.int c1), .val (.int c2), .val (.ref s8), .val (.ref s9), .val (.ref cl), .val (.int v11), .val (.int v12), .val (.ref b101101), .unset, .unset] [(.ref b110101107)])) rfl rfl (hb hby at_188)
  have z112 : n0 ≤ T107.heap.size := (Nat.le_trans z108 K107.1)
  obtain ⟨cq111, kq111, q111a, q111b, q111c⟩ := isOf hZ e110 R107_4
  obtain ⟨_, _, ⟨T111, L111, k111, n111⟩, -, X111, ⟨Lc111, hQ111, l111, y111, z111⟩, st111⟩ := X110.virtualBack hx (y := (⟨"com/example/rouse/rouse/shell/CommandLine$Words", "size", "()I"⟩ : MethodName)) (z := (⟨"com/example/rouse/rouse/shell/CommandLine$Words", "size", "()I"⟩ : MethodName)) hown (mvT hZ (own_w hw 114 rfl)) (mvT hZ (own_w hw 115 rfl)) (notFace_of_selects (args := #[]) (mvT hZ (own_w hw 117 rfl))) (mvT hZ (own_w hw 117 rfl)) (mvT hZ (own_w hw 116 rfl)) (by decide) (backOf (W := 0) (rm14x21 l Z a0 hw [] b110101107 T107.heap n0 z112 R107_7 R107_5) hZ (own_w hw 118 rfl) (own_w hw 88 rfl) (by decide) (by decide)) q111a q111c (g := (mkF m 265 #[.val (.int p1), .val (.int p2), .val (.int p3), .val (.int v3), .val (.int v4), .val (.int v5), .val (.int c1), .val (.int c2), .val (.ref s8), .val (.ref s9), .val (.ref cl), .val (.int v11), .val (.int v12), .val (.ref b101101), .val (.ref b110101107), .unset] [(.ref b110101107)])) rfl (by rw [hml]; rfl) (Steps.refl _) (argsL := []) (rest := []) (lenOf pd_15 rfl) rfl (by show 2 * 0 + _ ≤ _; exact Nat.le_of_eq rfl) (hb hby at_265) (fun _ _ => ⟨rfl, e110, (by decide : 14 + 0 ≤ _), (by decide : 166 + 0 ≤ _)⟩)
  dsimp only [Pt.U, Pt.locs, Pt.cells, Pt.slots] at X111 l111 y111 z111 st111 hQ111
  subst l111 y111 z111
  obtain ⟨rfl, Nq111, Heq111⟩ := hQ111
  have N111 := Fr.app N107 Nq111
  have f113 := (own_sta_keep (own_sta_keep H0 K101 own_pl0) K107 (own_plS (own_pl_exa R101_2) own_pl0))
  have f114 := (own_sta_keep (own_sta_keep H2 K101 own_pl0) K107 (own_plS (own_pl_exa R101_2) own_pl0))
  have f115 := (own_sta_keep (own_sta_keep H3 K101 own_pl0) K107 (own_plS (own_pl_exa R101_2) own_pl0))
  have f116 := (own_sta_keep (own_sta_keep H4 K101 own_pl0) K107 (own_plS (own_pl_exa R101_2) own_pl0))
  have f117 := (own_sta_keep (own_sta_keep H5 K101 own_pl0) K107 (own_plS (own_pl_exa R101_2) own_pl0))
  have f118 := ((H15.keep K101).keep K107)
  have ne119 : cl ≠ b101101 := (Nat.ne_of_lt (Nat.lt_of_lt_of_le H15.lt R101_1))
  have f120 := ((H17.keep K101 nin0).keep K107 (ninS ne119 nin0))
  have f121 := (f105.keep K107 (ninS ne119 nin0))
  have ne122 : cb ≠ b101101 := (Nat.ne_of_lt (Nat.lt_of_lt_of_le H19.lt R101_1))
  have f123 := ((H19.keep K101 nin0).keep K107 (ninS ne122 nin0))
  have ne124 : wb ≠ b101101 := (Nat.ne_of_lt (Nat.lt_of_lt_of_le H20.lt R101_1))
  have f125 := (f106.keep K107 (ninS ne124 nin0))
  obtain ⟨cq126, kq126, q126a, q126b, q126c⟩ := isOf hZ Heq111 R107_4
  obtain ⟨_, _, ⟨T126, L126, k126, n126⟩, -, X126, hS126', hgr126, ⟨Lc126, hQ126, l126, y126, z126, Cq126⟩, st126⟩ := X111.virtualBackS hx (y := (⟨"com/example/rouse/rouse/shell/CommandLine$Words", "get", "(I)Ljava/lang/String;"⟩ : MethodName)) (z := (⟨"com/example/rouse/rouse/shell/CommandLine$Words", "get", "(I)Ljava/lang/String;"⟩ : MethodName)) hown (mvT hZ (own_w hw 119 rfl)) (mvT hZ (own_w hw 120 rfl)) (notFace_of_selects (args := #[]) (mvT hZ (own_w hw 122 rfl))) (mvT hZ (own_w hw 122 rfl)) (mvT hZ (own_w hw 121 rfl)) (by decide) (backOfSH (W := 1) (rm15g00 l Z a0 hw [] hEL b110101107 cz sf cl cb ck x0 x1 wb wk w0 w1 v3 v5 (2 : Int32) T107.heap n0 z112 (by first | assumption | decide) f113 H1 f114 f115 f116 f117 H6 R107_4 R107_6 R107_5 R107_7 f118 f120 f121 f123 f125 H21 H22 H23 H24 H25 H26) hZ (own_w hw 123 rfl) (own_w hw 88 rfl) (by decide) (by decide) hEL Hc109) q126a q126c (g := (mkF m 277 #[.val (.int p1), .val (.int p2), .val (.int p3), .val (.int v3), .val (.int v4), .val (.int v5), .val (.int c1), .val (.int c2), .val (.ref s8), .val (.ref s9), .val (.ref cl), .val (.int v11), .val (.int v12), .val (.ref b101101), .val (.ref b110101107), .unset] [(.int (0 : Int32)), (.ref b110101107), (.ref s8)])) rfl (by rw [hml]; rfl) (Steps.refl _) (argsL := [(.int (0 : Int32))]) (rest := [(.ref s8)]) (lenOf pd_26 rfl) rfl (by show 2 * 0 + _ ≤ _; exact Nat.le_of_eq rfl) (hb hby at_277) (fun _ _ => ⟨rfl, Heq111, (by decide : 14 + 5 ≤ _), (by decide : 166 + 12 ≤ _)⟩)
  dsimp only [Pt.U, Pt.locs, Pt.cells, Pt.slots] at X126 l126 y126 z126 st126 hQ126 hS126' hgr126 Cq126
  subst l126 y126 z126
  obtain ⟨X126, hS126, hZ, hown⟩ := rebS hS0 (by rw [Heq111]; exact (Nat.le_trans (Nat.le_trans hk0 K101.1) K107.1)) X126 hS126' hgr126 hZ hown
  have Cr126 := Cr109.trans Cq126
  have Hc126 := Cq126.1
  have f127 := (R101_2.keep K107)
  have Sf126_0 := Cq126.safe f127.lt Sf109_0
  have Sf126_1 := Cq126.safe R107_4.lt SbR107_3
  obtain ⟨x126, b126, k126, rfl, Nq126, K126, R126_1, R126_2, R126_3, R126_4⟩ := hQ126
  have N126 := Fr.app N111 Nq126
  have f128 := (own_sta_keep f113 K126 own_pl0)
  have f129 := (((H7.keep K101).keep K107).keep K126)
  have ne130 : s8 ≠ b101101 := (Nat.ne_of_lt (Nat.lt_of_lt_of_le H7.lt R101_1))
  have f131 := (((H8.keep K101 nin0).keep K107 (ninS ne130 nin0)).keep K126 nin0)
  have f132 := (((H9.keep K101 nin0).keep K107 (ninS ne130 nin0)).keep K126 nin0)
  have ne133 : b8 ≠ b101101 := (Nat.ne_of_lt (Nat.lt_of_lt_of_le H10.lt R101_1))
  have f134 := (((H10.keep K101 nin0).keep K107 (ninS ne133 nin0)).keep K126 nin0)
  have z136 : n0 ≤ T126.heap.size := (Nat.le_trans z112 K126.1)
  obtain ⟨cq135, kq135, q135a, q135b, q135c⟩ := isOf hZ rfl f129
  obtain ⟨_, _, ⟨T135, L135, k135, n135⟩, -, X135, ⟨Lc135, hQ135, l135, y135, z135⟩, st135⟩ := X126.virtualBack hx (y := (⟨"java/lang/String", "equals", "(Ljava/lang/Object;)Z"⟩ : MethodName)) (z := (⟨"java/lang/String", "equals", "(Ljava/lang/Object;)Z"⟩ : MethodName)) hown (mvT hZ (own_w hw 164 rfl)) (mvT hZ (own_w hw 165 rfl)) (notFace_of_selects (args := #[]) (mvT hZ (own_w hw 167 rfl))) (mvT hZ (own_w hw 167 rfl)) (mvT hZ (own_w hw 166 rfl)) (by decide) (backOf (W := 0) (rm25g l Z a0 hw [] s8 x126 cz b8 k8 b126 k126 v3 c1 x0 T126.heap n0 z136 f128 H1 f129 f131 f132 f134 R126_1 R126_2 R126_3 R126_4 H23 (H29.imp_right Eq.symm)) hZ (own_w hw 168 rfl) (own_w hw 2 rfl) (by decide) (by decide)) q135a q135c (g := (mkF m 280 #[.val (.int p1), .val (.int p2), .val (.int p3), .val (.int v3), .val (.int v4), .val (.int v5), .val (.int c1), .val (.int c2), .val (.ref s8), .val (.ref s9), .val (.ref cl), .val (.int v11), .val (.int v12), .val (.ref b101101), .val (.ref b110101107), .unset] [(.ref x126), (.ref s8)])) rfl (by rw [hml]; rfl) (Steps.refl _) (argsL := [(.ref x126)]) (rest := []) (lenOf pd_27 rfl) rfl (by show 2 * 0 + _ ≤ _; exact Nat.le_of_eq rfl) (hb hby at_280) (fun _ _ => ⟨rfl, rfl, (by decide : 19 + 0 ≤ _), (by decide : 178 + 0 ≤ _)⟩)
  dsimp only [Pt.U, Pt.locs, Pt.cells, Pt.slots] at X135 l135 y135 z135 st135 hQ135
  subst l135 y135 z135
  obtain ⟨rfl, Nq135, Heq135⟩ := hQ135
  have N135 := Fr.app N126 Nq135
  have f137 := (own_sta_keep f114 K126 own_pl0)
  have f138 := (own_sta_keep f115 K126 own_pl0)
  have f139 := (own_sta_keep f116 K126 own_pl0)
  have f140 := (own_sta_keep f117 K126 own_pl0)
  have f141 := (R107_4.keep K126)
  have f142 := (R107_6.keep K126 nin0)
  have f143 := (R107_5.keep K126 nin0)
  have f144 := (R107_7.keep K126 nin0)
  have f145 := (f118.keep K126)
  have f146 := (f120.keep K126 nin0)
  have f147 := (f121.keep K126 nin0)
  have f148 := (f123.keep K126 nin0)
  have f149 := (f125.keep K126 nin0)
  obtain ⟨cq150, kq150, q150a, q150b, q150c⟩ := isOf hZ Heq135 f141
  obtain ⟨_, _, ⟨T150, L150, k150, n150⟩, -, X150, hS150', hgr150, ⟨Lc150, hQ150, l150, y150, z150, Cq150⟩, st150⟩ := X135.virtualBackS hx (y := (⟨"com/example/rouse/rouse/shell/CommandLine$Words", "get", "(I)Ljava/lang/String;"⟩ : MethodName)) (z := (⟨"com/example/rouse/rouse/shell/CommandLine$Words", "get", "(I)Ljava/lang/String;"⟩ : MethodName)) hown (mvT hZ (own_w hw 119 rfl)) (mvT hZ (own_w hw 120 rfl)) (notFace_of_selects (args := #[]) (mvT hZ (own_w hw 122 rfl))) (mvT hZ (own_w hw 122 rfl)) (mvT hZ (own_w hw 121 rfl)) (by decide) (backOfSH (W := 1) (rm15g01 l Z a0 hw [] hEL b110101107 cz sf cl cb ck x0 x1 wb wk w0 w1 v3 v5 T126.heap n0 z136 f128 H1 f137 f138 f139 f140 H6 f141 f142 f143 f144 f145 f146 f147 f148 f149 H21 H22 H23 H24 H25 H26) hZ (own_w hw 123 rfl) (own_w hw 88 rfl) (by decide) (by decide) hEL Hc126) q150a q150c (g := (mkF m 291 #[.val (.int p1), .val (.int p2), .val (.int p3), .val (.int v3), .val (.int v4), .val (.int v5), .val (.int c1), .val (.int c2), .val (.ref s8), .val (.ref s9), .val (.ref cl), .val (.int v11), .val (.int v12), .val (.ref b101101), .val (.ref b110101107), .unset] [(.int (1 : Int32)), (.ref b110101107), (.ref s9)])) rfl (by rw [hml]; rfl) (Steps.refl _) (argsL := [(.int (1 : Int32))]) (rest := [(.ref s9)]) (lenOf pd_26 rfl) rfl (by show 2 * 0 + _ ≤ _; exact Nat.le_of_eq rfl) (hb hby at_291) (fun _ _ => ⟨rfl, Heq135, (by decide : 19 + 5 ≤ _), (by decide : 178 + 12 ≤ _)⟩)
  dsimp only [Pt.U, Pt.locs, Pt.cells, Pt.slots] at X150 l150 y150 z150 st150 hQ150 hS150' hgr150 Cq150
  subst l150 y150 z150
  obtain ⟨X150, hS150, hZ, hown⟩ := rebS hS126 (by rw [Heq135]; exact (Nat.le_refl _)) X150 hS150' hgr150 hZ hown
  have Cr150 := Cr126.trans Cq150
  have Hc150 := Cq150.1
  have f151 := (f127.keep K126)
  have Sf150_0 := Cq150.safe f151.lt Sf126_0
  have Sf150_1 := Cq150.safe f141.lt Sf126_1
  obtain ⟨x150, b150, k150, rfl, Nq150, K150, R150_1, R150_2, R150_3, R150_4⟩ := hQ150
  have N150 := Fr.app N135 Nq150
  have f152 := (own_sta_keep f128 K150 own_pl0)
  have f153 := ((((H11.keep K101).keep K107).keep K126).keep K150)
  have ne154 : s9 ≠ b101101 := (Nat.ne_of_lt (Nat.lt_of_lt_of_le H11.lt R101_1))
  have f155 := ((((H12.keep K101 nin0).keep K107 (ninS ne154 nin0)).keep K126 nin0).keep K150 nin0)
  have f156 := ((((H13.keep K101 nin0).keep K107 (ninS ne154 nin0)).keep K126 nin0).keep K150 nin0)
  have ne157 : b9 ≠ b101101 := (Nat.ne_of_lt (Nat.lt_of_lt_of_le H14.lt R101_1))
  have f158 := ((((H14.keep K101 nin0).keep K107 (ninS ne157 nin0)).keep K126 nin0).keep K150 nin0)
  have z160 : n0 ≤ T150.heap.size := (Nat.le_trans z136 K150.1)
  obtain ⟨cq159, kq159, q159a, q159b, q159c⟩ := isOf hZ rfl f153
  obtain ⟨_, _, ⟨T159, L159, k159, n159⟩, -, X159, ⟨Lc159, hQ159, l159, y159, z159⟩, st159⟩ := X150.virtualBack hx (y := (⟨"java/lang/String", "equals", "(Ljava/lang/Object;)Z"⟩ : MethodName)) (z := (⟨"java/lang/String", "equals", "(Ljava/lang/Object;)Z"⟩ : MethodName)) hown (mvT hZ (own_w hw 164 rfl)) (mvT hZ (own_w hw 165 rfl)) (notFace_of_selects (args := #[]) (mvT hZ (own_w hw 167 rfl))) (mvT hZ (own_w hw 167 rfl)) (mvT hZ (own_w hw 166 rfl)) (by decide) (backOf (W := 0) (rm25g l Z a0 hw [] s9 x150 cz b9 k9 b150 k150 v5 c2 (own_at v3 x0 x1) T150.heap n0 z160 f152 H1 f153 f155 f156 f158 R150_1 R150_2 R150_3 R150_4 H24 (H30.imp_right Eq.symm)) hZ (own_w hw 168 rfl) (own_w hw 2 rfl) (by decide) (by decide)) q159a q159c (g := (mkF m 294 #[.val (.int p1), .val (.int p2), .val (.int p3), .val (.int v3), .val (.int v4), .val (.int v5), .val (.int c1), .val (.int c2), .val (.ref s8), .val (.ref s9), .val (.ref cl), .val (.int v11), .val (.int v12), .val (.ref b101101), .val (.ref b110101107), .unset] [(.ref x150), (.ref s9)])) rfl (by rw [hml]; rfl) (Steps.refl _) (argsL := [(.ref x150)]) (rest := []) (lenOf pd_27 rfl) rfl (by show 2 * 0 + _ ≤ _; exact Nat.le_of_eq rfl) (hb hby at_294) (fun _ _ => ⟨rfl, rfl, (by decide : 24 + 0 ≤ _), (by decide : 190 + 0 ≤ _)⟩)
  dsimp only [Pt.U, Pt.locs, Pt.cells, Pt.slots] at X159 l159 y159 z159 st159 hQ159
  subst l159 y159 z159
  obtain ⟨rfl, Nq159, Heq159⟩ := hQ159
  have N159 := Fr.app N150 Nq159
  have f161 := ((R107_1.keep K126 nin0).keep K150 nin0)
  have f162 := ((R107_2.keep K126 nin0).keep K150 nin0)
  have f163 := (((f104.keep K107 (ninS ne119 nin0)).keep K126 nin0).keep K150 nin0)
  have f165 := (f151.keep K150)
  obtain ⟨cq164, kq164, q164a, q164b, q164c⟩ := isOf hZ Heq159 f165
  obtain ⟨_, _, ⟨T164, L164, k164, n164⟩, -, X164, ⟨Lc164, hQ164, l164, y164, z164⟩, st164⟩ := X159.interfaceBack hx (xi := (⟨"java/util/Iterator", "hasNext", "()Z"⟩ : MethodName)) (y := (⟨"com/example/rouse/rouse/shell/CommandLine$1", "hasNext", "()Z"⟩ : MethodName)) hown (mvT hZ (own_w hw 176 rfl)) (mvT hZ (own_w hw 177 rfl)) (mvT hZ (own_w hw 178 rfl)) (mvT hZ (own_w hw 179 rfl)) (mvT hZ (own_w hw 79 rfl)) (mvT hZ (own_w hw 180 rfl)) (mvT hZ (own_w hw 181 rfl)) (mvT hZ (own_w hw 70 rfl)) (by decide) (backOf (W := 0) (rm10x36 l Z a0 hw [] b101101 cl T150.heap n0 z160 f161 f162 f163) hZ (own_w hw 81 rfl) (own_w hw 56 rfl) (by decide) (by decide)) q164a q164b q164c (g := (mkF m 304 #[.val (.int p1), .val (.int p2), .val (.int p3), .val (.int v3), .val (.int v4), .val (.int v5), .val (.int c1), .val (.int c2), .val (.ref s8), .val (.ref s9), .val (.ref cl), .val (.int v11), .val (.int v12), .val (.ref b101101), .val (.ref b110101107), .unset] [(.ref b101101)])) rfl (by rw [hml]; rfl) (Steps.refl _) (argsL := []) (rest := []) (lenOf pd_22 rfl) rfl (by show 2 * 0 + _ ≤ _; exact Nat.le_of_eq rfl) (hb hby at_304) (fun _ _ => ⟨rfl, Heq159, (by decide : 24 + 0 ≤ _), (by decide : 190 + 0 ≤ _)⟩)
  dsimp only [Pt.U, Pt.locs, Pt.cells, Pt.slots] at X164 l164 y164 z164 st164 hQ164
  subst l164 y164 z164
  obtain ⟨rfl, Nq164, Heq164⟩ := hQ164
  have N164 := Fr.app N159 Nq164
  obtain ⟨fs, hr, hrun, hended, hEnd⟩ := X164.leaveW hS150 (by rw [Heq164]; exact (Nat.le_refl _)) (v := some (.int (1 : Int32))) (fun h => by rw [Bd.returns] at h; cases h)
  refine ⟨_, _, pre0 _ ?_, hrun, hended, _, _, rfl, ?_, (show CHr Z own_EL s.vm s.heap T164.vm T164.heap from by rw [hh, Heq164]; exact Cr150.trans (CHv.at X164 hZ hEL Hc150)), hEnd.1, hEnd.2.1, hEnd.2.2.1, hEnd.2.2.2.mono (by decide) (by decide)⟩
  · skip
    show Steps p.tables e below (T.setTop (mkF m 174 #[.val (.int p1), .val (.int p2), .val (.int p3), .val (.int v3), .val (.int v4), .val (.int v5), .val (.int c1), .val (.int c2), .val (.ref s8), .val (.ref s9), .val (.ref cl), .val (.int v11), .val (.int v12), .unset, .unset, .unset] [])) _
    refine XS.aload X0.here hx rfl (hb hby at_174) rfl rfl ?_
    show Steps p.tables e below (T.setTop (mkF m 176 #[.val (.int p1), .val (.int p2), .val (.int p3), .val (.int v3), .val (.int v4), .val (.int v5), .val (.int c1), .val (.int c2), .val (.ref s8), .val (.ref s9), .val (.ref cl), .val (.int v11), .val (.int v12), .unset, .unset, .unset] [(.ref cl)])) _
    refine st101.trans ?_
    show Steps p.tables e below (T101.setTop (mkF m 179 #[.val (.int p1), .val (.int p2), .val (.int p3), .val (.int v3), .val (.int v4), .val (.int v5), .val (.int c1), .val (.int c2), .val (.ref s8), .val (.ref s9), .val (.ref cl), .val (.int v11), .val (.int v12), .unset, .unset, .unset] [(.ref b101101)])) _
    refine XS.astore X101.here hx rfl (hb hby at_179) rfl rfl (l' := #[.val (.int p1), .val (.int p2), .val (.int p3), .val (.int v3), .val (.int v4), .val (.int v5), .val (.int c1), .val (.int c2), .val (.ref s8), .val (.ref s9), .val (.ref cl), .val (.int v11), .val (.int v12), .val (.ref b101101), .unset, .unset]) rfl ?_
    refine XS.aload X101.here hx rfl (hb hby at_181) rfl rfl ?_
    show Steps p.tables e below (T101.setTop (mkF m 183 #[.val (.int p1), .val (.int p2), .val (.int p3), .val (.int v3), .val (.int v4), .val (.int v5), .val (.int c1), .val (.int c2), .val (.ref s8), .val (.ref s9), .val (.ref cl), .val (.int v11), .val (.int v12), .val (.ref b101101), .unset, .unset] [(.ref b101101)])) _
    refine st107.trans ?_
    show Steps p.tables e below (T107.setTop (mkF m 188 #[.val (.int p1), .val (.int p2), .val (.int p3), .val (.int v3), .val (.int v4), .val (.int v5), .val (.int c1), .val (.int c2), .val (.ref s8), .val (.ref s9), .val (.ref cl), .val (.int v11), .val (.int v12), .val (.ref b101101), .unset, .unset] [(.ref b110101107)])) _
    refine st110 _ ?_
    refine XS.astore X110.here hx rfl (hb hby at_191) rfl rfl (l' := #[.val (.int p1), .val (.int p2), .val (.int p3), .val (.int v3), .val (.int v4), .val (.int v5), .val (.int c1), .val (.int c2), .val (.ref s8), .val (.ref s9), .val (.ref cl), .val (.int v11), .val (.int v12), .val (.ref b101101), .val (.ref b110101107), .unset]) rfl ?_
    refine XS.iload X110.here hx rfl (hb hby at_193) rfl ?_
    refine XS.ifYes X110.here hx rfl (pc0 := 195) (pc' := 263) rfl (hb hby at_195) rfl ((if0 _ _).trans (teq (H31 : v4 = (0 : Int32))).1) (by decide) (by decide) ?_
    refine XS.aload X110.here hx rfl (hb hby at_263) rfl rfl ?_
    show Steps p.tables e below (T110.setTop (mkF m 265 #[.val (.int p1), .val (.int p2), .val (.int p3), .val (.int v3), .val (.int v4), .val (.int v5), .val (.int c1), .val (.int c2), .val (.ref s8), .val (.ref s9), .val (.ref cl), .val (.int v11), .val (.int v12), .val (.ref b101101), .val (.ref b110101107), .unset] [(.ref b110101107)])) _
    refine st111.trans ?_
    show Steps p.tables e below (T111.setTop (mkF m 268 #[.val (.int p1), .val (.int p2), .val (.int p3), .val (.int v3), .val (.int v4), .val (.int v5), .val (.int c1), .val (.int c2), .val (.ref s8), .val (.ref s9), .val (.ref cl), .val (.int v11), .val (.int v12), .val (.ref b101101), .val (.ref b110101107), .unset] [(.int (2 : Int32))])) _
    refine XS.iconst X111.here hx rfl (hb hby at_268) ?_
    refine XS.icmpNo X111.here hx rfl (hb hby at_269) rfl (teq (by decide : (2 : Int32) = (2 : Int32))).2 ?_
    refine XS.aload X111.here hx rfl (hb hby at_272) rfl rfl ?_
    refine XS.aload X111.here hx rfl (hb hby at_274) rfl rfl ?_
    refine XS.iconst X111.here hx rfl (hb hby at_276) ?_
    show Steps p.tables e below (T111.setTop (mkF m 277 #[.val (.int p1), .val (.int p2), .val (.int p3), .val (.int v3), .val (.int v4), .val (.int v5), .val (.int c1), .val (.int c2), .val (.ref s8), .val (.ref s9), .val (.ref cl), .val (.int v11), .val (.int v12), .val (.ref b101101), .val (.ref b110101107), .unset] [(.int (0 : Int32)), (.ref b110101107), (.ref s8)])) _
    refine st126.trans ?_
    show Steps p.tables e below (T126.setTop (mkF m 280 #[.val (.int p1), .val (.int p2), .val (.int p3), .val (.int v3), .val (.int v4), .val (.int v5), .val (.int c1), .val (.int c2), .val (.ref s8), .val (.ref s9), .val (.ref cl), .val (.int v11), .val (.int v12), .val (.ref b101101), .val (.ref b110101107), .unset] [(.ref x126), (.ref s8)])) _
    refine st135.trans ?_
    show Steps p.tables e below (T135.setTop (mkF m 283 #[.val (.int p1), .val (.int p2), .val (.int p3), .val (.int v3), .val (.int v4), .val (.int v5), .val (.int c1), .val (.int c2), .val (.ref s8), .val (.ref s9), .val (.ref cl), .val (.int v11), .val (.int v12), .val (.ref b101101), .val (.ref b110101107), .unset] [(.int (1 : Int32))])) _
    refine XS.ifNo X135.here hx rfl (hb hby at_283) rfl ((if0 _ _).trans (feq (by decide : ¬ ((1 : Int32) = (0 : Int32)))).1) ?_
    refine XS.aload X135.here hx rfl (hb hby at_286) rfl rfl ?_
    refine XS.aload X135.here hx rfl (hb hby at_288) rfl rfl ?_
    refine XS.iconst X135.here hx rfl (hb hby at_290) ?_
    show Steps p.tables e below (T135.setTop (mkF m 291 #[.val (.int p1), .val (.int p2), .val (.int p3), .val (.int v3), .val (.int v4), .val (.int v5), .val (.int c1), .val (.int c2), .val (.ref s8), .val (.ref s9), .val (.ref cl), .val (.int v11), .val (.int v12), .val (.ref b101101), .val (.ref b110101107), .unset] [(.int (1 : Int32)), (.ref b110101107), (.ref s9)])) _
    refine st150.trans ?_
    show Steps p.tables e below (T150.setTop (mkF m 294 #[.val (.int p1), .val (.int p2), .val (.int p3), .val (.int v3), .val (.int v4), .val (.int v5), .val (.int c1), .val (.int c2), .val (.ref s8), .val (.ref s9), .val (.ref cl), .val (.int v11), .val (.int v12), .val (.ref b101101), .val (.ref b110101107), .unset] [(.ref x150), (.ref s9)])) _
    refine st159.trans ?_
    show Steps p.tables e below (T159.setTop (mkF m 297 #[.val (.int p1), .val (.int p2), .val (.int p3), .val (.int v3), .val (.int v4), .val (.int v5), .val (.int c1), .val (.int c2), .val (.ref s8), .val (.ref s9), .val (.ref cl), .val (.int v11), .val (.int v12), .val (.ref b101101), .val (.ref b110101107), .unset] [(.int (1 : Int32))])) _
    refine XS.ifYes X159.here hx rfl (pc0 := 297) (pc' := 302) rfl (hb hby at_297) rfl ((if0 _ _).trans (feq (by decide : ¬ ((1 : Int32) = (0 : Int32)))).2) (by decide) (by decide) ?_
    refine XS.aload X159.here hx rfl (hb hby at_302) rfl rfl ?_
    show Steps p.tables e below (T159.setTop (mkF m 304 #[.val (.int p1), .val (.int p2), .val (.int p3), .val (.int v3), .val (.int v4), .val (.int v5), .val (.int c1), .val (.int c2), .val (.ref s8), .val (.ref s9), .val (.ref cl), .val (.int v11), .val (.int v12), .val (.ref b101101), .val (.ref b110101107), .unset] [(.ref b101101)])) _
    refine st164.trans ?_
    show Steps p.tables e below (T164.setTop (mkF m 309 #[.val (.int p1), .val (.int p2), .val (.int p3), .val (.int v3), .val (.int v4), .val (.int v5), .val (.int c1), .val (.int c2), .val (.ref s8), .val (.ref s9), .val (.ref cl), .val (.int v11), .val (.int v12), .val (.ref b101101), .val (.ref b110101107), .unset] [(.int (0 : Int32))])) _
    refine XS.ifNo X164.here hx rfl (hb hby at_309) rfl ((if0 _ _).trans (teq (by decide : (0 : Int32) = (0 : Int32))).2) ?_
    refine XS.iconst X164.here hx rfl (hb hby at_312) ?_
    refine XS.goto X164.here hx rfl (pc0 := 313) (pc' := 317) rfl (hb hby at_313) (by decide) (by decide) ?_
    show Steps p.tables e below (T164.setTop (mkF m 317 #[.val (.int p1), .val (.int p2), .val (.int p3), .val (.int v3), .val (.int v4), .val (.int v5), .val (.int c1), .val (.int c2), .val (.ref s8), .val (.ref s9), .val (.ref cl), .val (.int v11), .val (.int v12), .val (.ref b101101), .val (.ref b110101107), .unset] [(.int (1 : Int32))])) _
    exact retN X164 hx (t := .boolean) Bd.returns (by simp) (hb hby at_317) hr
  · show Q0 Z p1 p2 p3 cz sf hs n0 _ T164.heap _
    rw [Heq164]
    exact ⟨rfl, N164⟩
theorem ef_9x40 (m : MethodId) (ra0 : Addr) : entryFrame m #[(.ref ra0)] 3 = mkF m 0 #[.val (.ref ra0), .unset, .unset] [] := by first | (simp [entryFrame, mkF, argsToLocals, Value.category]; done) | rfl
def Q9x40 (Z : State) (ra0 : Addr) (uo1 : Addr) (uo2 : Addr) (ui3 : Int32) (ui4 : Int32) (uk5 : ClassId) (h0 : Heap) (n0 : Nat) (v : Option Value) (h : Heap) (L : List Loc) : Prop := ∃ (b107 : Addr), v = some (.ref b107) ∧ Fr n0 L ∧ Keep h0 h [ra0] ∧ Fld Z h ra0 "com/example/rouse/rouse/shell/CommandLine$1" "nextWord" "I" (.int (1 : Int32)) ∧ Fld Z h ra0 "com/example/rouse/rouse/shell/CommandLine$1" "this$0" "Lcom/example/rouse/rouse/shell/CommandLine;" (.ref uo1) ∧ h0.size ≤ b107 ∧ Exa Z h b107 "com/example/rouse/rouse/shell/CommandLine$Words" ∧ Fld Z h b107 "com/example/rouse/rouse/shell/CommandLine$Words" "from" "I" (.int (0 : Int32)) ∧ Fld Z h b107 "com/example/rouse/rouse/shell/CommandLine$Words" "this$0" "Lcom/example/rouse/rouse/shell/CommandLine;" (.ref uo1) ∧ Fld Z h b107 "com/example/rouse/rouse/shell/CommandLine$Words" "to" "I" (.int (1 : Int32))
set_option maxRecDepth 65536 in
set_option maxHeartbeats 40000000 in
theorem rm9x40 (l : Launch) (Z : State) (a0 : Array Value) (hw : ∀ d ∈ tables_1, d.before a0 Z = true) (ws : List Jvm.Cond) (ra0 : Addr) (uo1 : Addr) (uo2 : Addr) (ui3 : Int32) (ui4 : Int32) (uk5 : ClassId) (h0 : Heap) (n0 : Nat) (Z0 : n0 ≤ h0.size) (H0 : Exa Z h0 ra0 "com/example/rouse/rouse/shell/CommandLine$1") (H1 : Fld Z h0 ra0 "com/example/rouse/rouse/shell/CommandLine$1" "nextWord" "I" (.int (0 : Int32))) (H2 : Fld Z h0 ra0 "com/example/rouse/rouse/shell/CommandLine$1" "this$0" "Lcom/example/rouse/rouse/shell/CommandLine;" (.ref uo1)) (H3 : Fld Z h0 uo1 "com/example/rouse/rouse/shell/CommandLine" "words" "I" (.int (2 : Int32))) (H4 : Fld Z h0 uo1 "com/example/rouse/rouse/shell/CommandLine" "wordEnds" "[I" (.ref uo2)) (H5 : Arv Z h0 uo2 uk5 .int (16 : Int32) (own_zl (.int ui3) (.int ui4)) (.int (0 : Int32))) (H6 : ui3 < (0 : Int32)) (H7 : n0 ≤ ra0) :
    own_MF l (⟨"com/example/rouse/rouse/shell/CommandLine$1", "next", "()Lcom/example/rouse/rouse/shell/CommandLine$Words;"⟩ : MethodName) (Jvm.Cond.code (⟨"com/example/rouse/rouse/shell/CommandLine$1", "next", "()Lcom/example/rouse/rouse/shell/CommandLine$Words;"⟩ : MethodName) prog_65_method_3_code 3 (some (.object "com/example/rouse/rouse/shell/CommandLine$Words")) :: ws) ({ frames := 4, cells := 1, slots := 4, locals := 52 } : Room) #[(.ref ra0)] Z h0 (Q9x40 Z ra0 uo1 uo2 ui3 ui4 uk5 h0 n0) := by
  refine MetFree.of_bodySF (plainFor_of_name pn_com_example_rouse_rouse_shell_CommandLine_1) hisR ?_
  intro p e s m args below meth c s₁ Bd hml0 hP hK
  obtain ⟨rfl, hZ, hh⟩ := hP
  have hx := Bd.exec
  have hby := Bd.bytes
  have hml : c.maxLocals = 3 := hml0
  have hown : s.vm.findClass "com/example/rouse/rouse/shell/CommandLine$1" = some m.cls := findClass_of_methodNamed Bd.named
  have hnm := (name_of_methodNamed Bd.named Bd.method).1
  have X0 : Stand p l e ({ frames := 4, cells := 1, slots := 4, locals := 52 } : Room) s m #[(.ref ra0)] below meth c s₁ [] 0 0 := Stand.of_body Bd
  have e0 : s₁.heap = h0 := by rw [← hh, Bd.state]; rfl
  have N0 := Fr.nil n0
  have pre0 : ∀ t, Steps p.tables e below (s₁.setTop (mkF m 0 #[.val (.ref ra0), .unset, .unset] [])) t → Steps p.tables e below (s₁.setTop (entryFrame m #[(.ref ra0)] 3)) t := fun t k => castTop (ef_9x40 m ra0) k
  obtain ⟨cq101, kq101, q101a, q101b, q101c⟩ := isOf hZ e0 H0
  obtain ⟨_, _, ⟨T101, L101, k101, n101⟩, -, X101, ⟨Lc101, hQ101, l101, y101, z101⟩, st101⟩ := X0.virtualBack hx (y := (⟨"com/example/rouse/rouse/shell/CommandLine$1", "hasNext", "()Z"⟩ : MethodName)) (z := (⟨"com/example/rouse/rouse/shell/CommandLine$1", "hasNext", "()Z"⟩ : MethodName)) hown (mvT hZ (own_w hw 77 rfl)) (mvT hZ (own_w hw 78 rfl)) (notFace_of_selects (args := #[]) (mvT hZ (own_w hw 80 rfl))) (mvT hZ (own_w hw 80 rfl)) (mvT hZ (own_w hw 79 rfl)) (by decide) (backOf (W := 0) (rm10x34 l Z a0 hw [] ra0 uo1 h0 n0 Z0 H1 H2 H3) hZ (own_w hw 81 rfl) (own_w hw 56 rfl) (by decide) (by decide)) q101a q101c (g := (mkF m 1 #[.val (.ref ra0), .unset, .unset] [(.ref ra0)])) rfl (by rw [hml]; rfl) (Steps.refl _) (argsL := []) (rest := []) (lenOf pd_22 rfl) rfl (by show 2 * 0 + _ ≤ _; exact Nat.le_of_eq rfl) (hb hby d9_1) (fun _ _ => ⟨rfl, e0, (by decide : 0 + 0 ≤ _), (by decide : 0 + 0 ≤ _)⟩)
  dsimp only [Pt.U, Pt.locs, Pt.cells, Pt.slots] at X101 l101 y101 z101 st101 hQ101
  subst l101 y101 z101
  obtain ⟨rfl, Nq101, Heq101⟩ := hQ101
  have N101 := Fr.app N0 Nq101
  obtain ⟨T102, X102, e102, st102⟩ := getF X101 hx hZ hown (host := "") (Or.inl (own_w hw 82 rfl)) Via.refl Heq101 H1 (g := (mkF m 16 #[.val (.ref ra0), .unset, .unset] [(.ref ra0)])) rfl rfl (hb hby d9_16)
  obtain ⟨T103, X103, e103, st103⟩ := getF X102 hx hZ hown (host := "") (Or.inl (own_w hw 60 rfl)) Via.refl e102 H2 (g := (mkF m 23 #[.val (.ref ra0), .val (.int (0 : Int32)), .val (.int (0 : Int32))] [(.ref ra0)])) rfl rfl (hb hby d9_23)
  obtain ⟨T104, X104, e104, st104⟩ := getF X103 hx hZ hown (Or.inr (own_w hw 85 rfl)) Via.refl e103 H4 (g := (mkF m 26 #[.val (.ref ra0), .val (.int (0 : Int32)), .val (.int (0 : Int32))] [(.ref uo1)])) rfl rfl (hb hby d9_26)
  obtain ⟨cl105, Ar105, qc105, S105, M105, Hh105, G105⟩ := id H5
  have hin105 : ¬ ((0 : Int32) < 0 ∨ cl105.slots.size ≤ ((0 : Int32)).toNatClampNeg) := inb_of S105 ⟨by decide, by decide⟩
  obtain ⟨T106, h106, X106, e106, W106, st106⟩ := putF X104 hx hZ hown (host := "") (Or.inl (own_w hw 82 rfl)) Via.refl e104 H1 H0 (Or.inl (own_w hw 83 rfl)) (own_w hw 55 rfl) (ty := .int) (by decide) rfl rfl (g := (mkF m 44 #[.val (.ref ra0), .val (.int (0 : Int32)), .val (.int (0 : Int32))] [(.int (1 : Int32)), (.ref ra0)])) rfl rfl (hb hby d9_44)
  have Fw106 := H1.same W106
  have N106 := Fr.snoc X106 N101 H7
  obtain ⟨T107, h107, X107, e107, E107, A107, D107, -, st107⟩ := newO X106 hx hZ hown (own_w hw 86 rfl) (own_w hw 87 rfl) (own_w hw 88 rfl) e106 (g := (mkF m 47 #[.val (.ref ra0), .val (.int (0 : Int32)), .val (.int (0 : Int32))] [])) rfl (hb hby d9_47) (by decide) (by decide)
  obtain ⟨b107, g107⟩ : ∃ z, z = h106.size := ⟨_, rfl⟩
  rw [← g107] at A107 D107 st107
  have F108 : Fld Z h107 b107 "com/example/rouse/rouse/shell/CommandLine$Words" "this$0" "Lcom/example/rouse/rouse/shell/CommandLine;" .null := D107 (Or.inr (own_w hw 93 rfl)) (ty := (.object "com/example/rouse/rouse/shell/CommandLine")) (by decide)
  have F109 : Fld Z h107 b107 "java/util/AbstractList" "modCount" "I" (.int (0 : Int32)) := D107 (Or.inl (own_w hw 107 rfl)) (ty := .int) (by decide)
  have F110 : Fld Z h107 b107 "com/example/rouse/rouse/shell/CommandLine$Words" "from" "I" (.int (0 : Int32)) := D107 (Or.inr (own_w hw 109 rfl)) (ty := .int) (by decide)
  have F111 : Fld Z h107 b107 "com/example/rouse/rouse/shell/CommandLine$Words" "to" "I" (.int (0 : Int32)) := D107 (Or.inr (own_w hw 111 rfl)) (ty := .int) (by decide)
  have f112 := ((H2.other W106 (Or.inr (slot_ne (Or.inr (own_w hw 61 rfl)) (Or.inl (own_w hw 83 rfl)) (by decide) (t := (.object "com/example/rouse/rouse/shell/CommandLine")) (t' := .int) (by decide) (by decide)))).ext E107)
  obtain ⟨T113, X113, e113, st113⟩ := getF X107 hx hZ hown (host := "") (Or.inl (own_w hw 60 rfl)) Via.refl e107 f112 (g := (mkF m 52 #[.val (.ref ra0), .val (.int (0 : Int32)), .val (.int (0 : Int32))] [(.ref ra0), (.ref b107), (.ref b107)])) rfl rfl (hb hby d9_52)
  have f114 := (Fw106.ext E107)
  obtain ⟨T115, X115, e115, st115⟩ := getF X113 hx hZ hown (host := "") (Or.inl (own_w hw 82 rfl)) Via.refl e113 f114 (g := (mkF m 57 #[.val (.ref ra0), .val (.int (0 : Int32)), .val (.int (0 : Int32))] [(.ref ra0), (.int (0 : Int32)), (.ref uo1), (.ref b107), (.ref b107)])) rfl rfl (hb hby d9_57)
  have g116 : n0 ≤ b107 := Nat.le_trans (Nat.le_trans Z0 (Nat.le_of_eq W106.size.symm)) (Nat.le_of_eq g107.symm)
  have z118 : n0 ≤ h107.size := (Nat.le_trans (Nat.le_trans Z0 (Nat.le_of_eq W106.size.symm)) E107.1)
  obtain ⟨_, _, ⟨T117, L117, k117, n117⟩, -, X117, ⟨Lc117, hQ117, l117, y117, z117⟩, st117⟩ := X115.specialBack hx (y := (⟨"com/example/rouse/rouse/shell/CommandLine$Words", "<init>", "(Lcom/example/rouse/rouse/shell/CommandLine;II)V"⟩ : MethodName)) rfl hown (mvT hZ (own_w hw 89 rfl)) (mvT hZ (own_w hw 90 rfl)) (mvT hZ (own_w hw 91 rfl)) (by decide) (backOf (W := 1) (rm11 l Z a0 hw [] b107 uo1 (0 : Int32) (1 : Int32) h107 n0 z118 A107 F108 F110 F111 F109 g116) hZ (own_w hw 91 rfl) (own_w hw 88 rfl) (by decide) (by decide)) (g := (mkF m 60 #[.val (.ref ra0), .val (.int (0 : Int32)), .val (.int (0 : Int32))] [(.int (1 : Int32)), (.int (0 : Int32)), (.ref uo1), (.ref b107), (.ref b107)])) rfl (by rw [hml]; rfl) (Steps.refl _) (a := b107) (argsL := [(.ref uo1), (.int (0 : Int32)), (.int (1 : Int32))]) (rest := [(.ref b107)]) (lenOf pd_23 rfl) rfl (by show 2 * 0 + _ ≤ _; exact Nat.le_of_eq rfl) (hb hby d9_60) (fun _ _ => ⟨rfl, e115, (by decide : 1 + 0 ≤ _), (by decide : 4 + 0 ≤ _)⟩)
  dsimp only [Pt.U, Pt.locs, Pt.cells, Pt.slots] at X117 l117 y117 z117 st117 hQ117
  subst l117 y117 z117
  obtain ⟨rfl, Nq117, K117, R117_1, R117_2, R117_3⟩ := hQ117
  have N117 := Fr.app N106 Nq117
  have ne119 : ra0 ≠ b107 := (Nat.ne_of_lt (Nat.lt_of_lt_of_le (H0.wr W106).lt (Nat.le_of_eq g107.symm)))
  have f120 := (f114.keep K117 (ninS ne119 nin0))
  have f121 := (f112.keep K117 (ninS ne119 nin0))
  have f122 := (A107.keep K117)
  obtain ⟨fs, hr, hrun, hended, hW, hsame⟩ := X117.leave (v := some (.ref b107)) (fun h => by rw [Bd.returns] at h; cases h)
  refine ⟨_, _, pre0 _ ?_, hrun, hended, _, _, rfl, ?_, ⟨_, rfl⟩, hW, hsame.mono (by decide) (by decide)⟩
  · skip
    show Steps p.tables e below (s₁.setTop (mkF m 0 #[.val (.ref ra0), .unset, .unset] [])) _
    refine XS.aloadN X0.here hx rfl (hb hby d9_0) rfl rfl ?_
    show Steps p.tables e below (s₁.setTop (mkF m 1 #[.val (.ref ra0), .unset, .unset] [(.ref ra0)])) _
    refine st101.trans ?_
    show Steps p.tables e below (T101.setTop (mkF m 4 #[.val (.ref ra0), .unset, .unset] [(.int (1 : Int32))])) _
    refine XS.ifYes X101.here hx rfl (pc0 := 4) (pc' := 15) rfl (hb hby d9_4) rfl ((if0 _ _).trans (feq (by decide : ¬ ((1 : Int32) = (0 : Int32)))).2) (by decide) (by decide) ?_
    refine XS.aloadN X101.here hx rfl (hb hby d9_15) rfl rfl ?_
    refine st102 _ ?_
    refine XS.istoreN X102.here hx rfl (hb hby d9_19) rfl (l' := #[.val (.ref ra0), .val (.int (0 : Int32)), .unset]) rfl ?_
    refine XS.iloadN X102.here hx rfl (hb hby d9_20) rfl ?_
    refine XS.istoreN X102.here hx rfl (hb hby d9_21) rfl (l' := #[.val (.ref ra0), .val (.int (0 : Int32)), .val (.int (0 : Int32))]) rfl ?_
    refine XS.aloadN X102.here hx rfl (hb hby d9_22) rfl rfl ?_
    refine st103 _ ?_
    refine st104 _ ?_
    refine XS.iloadN X104.here hx rfl (hb hby d9_29) rfl ?_
    show Steps p.tables e below (T104.setTop (mkF m 30 #[.val (.ref ra0), .val (.int (0 : Int32)), .val (.int (0 : Int32))] [(.int (0 : Int32)), (.ref uo2)])) _
    refine X104.iaload hx (j := (0 : Int32)) (v := (.int ui3)) (by rw [e104]; exact Ar105.1) (State.isArrayOf_alike hZ.alike Ar105.2.1) Ar105.2.2 hin105 (Hh105.at hin105 (rfl)) (g := (mkF m 30 #[.val (.ref ra0), .val (.int (0 : Int32)), .val (.int (0 : Int32))] [(.int (0 : Int32)), (.ref uo2)])) rfl rfl (hb hby d9_30) _ ?_
    show Steps p.tables e below (T104.setTop (mkF m 31 #[.val (.ref ra0), .val (.int (0 : Int32)), .val (.int (0 : Int32))] [(.int ui3)])) _
    refine XS.ifYes X104.here hx rfl (pc0 := 31) (pc' := 40) rfl (hb hby d9_31) rfl ((if0 _ _).trans (tlt (H6 : ui3 < (0 : Int32))).1) (by decide) (by decide) ?_
    refine XS.aloadN X104.here hx rfl (hb hby d9_40) rfl rfl ?_
    refine XS.iloadN X104.here hx rfl (hb hby d9_41) rfl ?_
    refine XS.iconst X104.here hx rfl (hb hby d9_42) ?_
    refine XS.iadd X104.here hx rfl (hb hby d9_43) rfl ?_
    show Steps p.tables e below (T104.setTop (mkF m 44 #[.val (.ref ra0), .val (.int (0 : Int32)), .val (.int (0 : Int32))] [(.int ((0 : Int32) + (1 : Int32))), (.ref ra0)])) _
    rw [show ((0 : Int32) + (1 : Int32)) = (1 : Int32) from by decide]
    show Steps p.tables e below (T104.setTop (mkF m 44 #[.val (.ref ra0), .val (.int (0 : Int32)), .val (.int (0 : Int32))] [(.int (1 : Int32)), (.ref ra0)])) _
    refine st106 _ ?_
    refine st107 _ ?_
    refine XS.dup X107.here hx rfl (hb hby d9_50) rfl rfl ?_
    refine XS.aloadN X107.here hx rfl (hb hby d9_51) rfl rfl ?_
    refine st113 _ ?_
    refine XS.iloadN X113.here hx rfl (hb hby d9_55) rfl ?_
    refine XS.aloadN X113.here hx rfl (hb hby d9_56) rfl rfl ?_
    refine st115 _ ?_
    show Steps p.tables e below (T115.setTop (mkF m 60 #[.val (.ref ra0), .val (.int (0 : Int32)), .val (.int (0 : Int32))] [(.int (1 : Int32)), (.int (0 : Int32)), (.ref uo1), (.ref b107), (.ref b107)])) _
    refine st117.trans ?_
    show Steps p.tables e below (T117.setTop (mkF m 63 #[.val (.ref ra0), .val (.int (0 : Int32)), .val (.int (0 : Int32))] [(.ref b107)])) _
    jvm_step X117.here [X117.here.top, hx, (hb hby d9_63), X117.method', Bd.returns, Value.isRef, FieldType.isReference]
    first | (intro acts; rw [hr _ acts rfl rfl rfl]) | rw [hr _ _ rfl rfl rfl]
    exact Steps.refl _
  · show Q9x40 Z ra0 uo1 uo2 ui3 ui4 uk5 h0 n0 _ T117.heap _
    exact ⟨b107, rfl, N117, ((((Keep.refl h0 [ra0]).wr W106 (Or.inl (List.mem_of_getElem? (i := 0) rfl))).ext E107).trans K117 (allS (P := (fun x => x ∈ [ra0] ∨ h0.size ≤ x)) (Or.inr (Nat.le_trans (Nat.le_trans (Nat.le_refl _) (Nat.le_of_eq W106.size.symm)) (Nat.le_of_eq g107.symm))) all0)), f120, f121, (Nat.le_trans (Nat.le_trans (Nat.le_refl _) (Nat.le_of_eq W106.size.symm)) (Nat.le_of_eq g107.symm)), f122, R117_2, R117_1, R117_3⟩
theorem ef_8x39 (m : MethodId) (ra0 : Addr) : entryFrame m #[(.ref ra0)] 1 = mkF m 0 #[.val (.ref ra0)] [] := by first | (simp [entryFrame, mkF, argsToLocals, Value.category]; done) | rfl
def Q8x39 (Z : State) (ra0 : Addr) (uo1 : Addr) (uo2 : Addr) (ui3 : Int32) (ui4 : Int32) (uk5 : ClassId) (h0 : Heap) (n0 : Nat) (v : Option Value) (h : Heap) (L : List Loc) : Prop := ∃ (b107101 : Addr), v = some (.ref b107101) ∧ Fr n0 L ∧ Keep h0 h [ra0] ∧ Fld Z h ra0 "com/example/rouse/rouse/shell/CommandLine$1" "nextWord" "I" (.int (1 : Int32)) ∧ Fld Z h ra0 "com/example/rouse/rouse/shell/CommandLine$1" "this$0" "Lcom/example/rouse/rouse/shell/CommandLine;" (.ref uo1) ∧ h0.size ≤ b107101 ∧ Exa Z h b107101 "com/example/rouse/rouse/shell/CommandLine$Words" ∧ Fld Z h b107101 "com/example/rouse/rouse/shell/CommandLine$Words" "from" "I" (.int (0 : Int32)) ∧ Fld Z h b107101 "com/example/rouse/rouse/shell/CommandLine$Words" "this$0" "Lcom/example/rouse/rouse/shell/CommandLine;" (.ref uo1) ∧ Fld Z h b107101 "com/example/rouse/rouse/shell/CommandLine$Words" "to" "I" (.int (1 : Int32))
set_option maxRecDepth 65536 in
set_option maxHeartbeats 40000000 in
theorem rm8x39 (l : Launch) (Z : State) (a0 : Array Value) (hw : ∀ d ∈ tables_1, d.before a0 Z = true) (ws : List Jvm.Cond) (ra0 : Addr) (uo1 : Addr) (uo2 : Addr) (ui3 : Int32) (ui4 : Int32) (uk5 : ClassId) (h0 : Heap) (n0 : Nat) (Z0 : n0 ≤ h0.size) (H0 : Exa Z h0 ra0 "com/example/rouse/rouse/shell/CommandLine$1") (H1 : Fld Z h0 ra0 "com/example/rouse/rouse/shell/CommandLine$1" "nextWord" "I" (.int (0 : Int32))) (H2 : Fld Z h0 ra0 "com/example/rouse/rouse/shell/CommandLine$1" "this$0" "Lcom/example/rouse/rouse/shell/CommandLine;" (.ref uo1)) (H3 : Fld Z h0 uo1 "com/example/rouse/rouse/shell/CommandLine" "words" "I" (.int (2 : Int32))) (H4 : Fld Z h0 uo1 "com/example/rouse/rouse/shell/CommandLine" "wordEnds" "[I" (.ref uo2)) (H5 : Arv Z h0 uo2 uk5 .int (16 : Int32) (own_zl (.int ui3) (.int ui4)) (.int (0 : Int32))) (H6 : ui3 < (0 : Int32)) (H7 : n0 ≤ ra0) :
    own_MF l (⟨"com/example/rouse/rouse/shell/CommandLine$1", "next", "()Ljava/lang/Object;"⟩ : MethodName) (Jvm.Cond.code (⟨"com/example/rouse/rouse/shell/CommandLine$1", "next", "()Ljava/lang/Object;"⟩ : MethodName) prog_65_method_4_code 1 (some (.object "java/lang/Object")) :: ws) ({ frames := 5, cells := 1, slots := 4, locals := 66 } : Room) #[(.ref ra0)] Z h0 (Q8x39 Z ra0 uo1 uo2 ui3 ui4 uk5 h0 n0) := by
  refine MetFree.of_bodySF (plainFor_of_name pn_com_example_rouse_rouse_shell_CommandLine_1) hisR ?_
  intro p e s m args below meth c s₁ Bd hml0 hP hK
  obtain ⟨rfl, hZ, hh⟩ := hP
  have hx := Bd.exec
  have hby := Bd.bytes
  have hml : c.maxLocals = 1 := hml0
  have hown : s.vm.findClass "com/example/rouse/rouse/shell/CommandLine$1" = some m.cls := findClass_of_methodNamed Bd.named
  have hnm := (name_of_methodNamed Bd.named Bd.method).1
  have X0 : Stand p l e ({ frames := 5, cells := 1, slots := 4, locals := 66 } : Room) s m #[(.ref ra0)] below meth c s₁ [] 0 0 := Stand.of_body Bd
  have e0 : s₁.heap = h0 := by rw [← hh, Bd.state]; rfl
  have N0 := Fr.nil n0
  have pre0 : ∀ t, Steps p.tables e below (s₁.setTop (mkF m 0 #[.val (.ref ra0)] [])) t → Steps p.tables e below (s₁.setTop (entryFrame m #[(.ref ra0)] 1)) t := fun t k => castTop (ef_8x39 m ra0) k
  obtain ⟨cq101, kq101, q101a, q101b, q101c⟩ := isOf hZ e0 H0
  obtain ⟨_, _, ⟨T101, L101, k101, n101⟩, -, X101, ⟨Lc101, hQ101, l101, y101, z101⟩, st101⟩ := X0.virtualBack hx (y := (⟨"com/example/rouse/rouse/shell/CommandLine$1", "next", "()Lcom/example/rouse/rouse/shell/CommandLine$Words;"⟩ : MethodName)) (z := (⟨"com/example/rouse/rouse/shell/CommandLine$1", "next", "()Lcom/example/rouse/rouse/shell/CommandLine$Words;"⟩ : MethodName)) hown (mvT hZ (own_w hw 72 rfl)) (mvT hZ (own_w hw 73 rfl)) (notFace_of_selects (args := #[]) (mvT hZ (own_w hw 75 rfl))) (mvT hZ (own_w hw 75 rfl)) (mvT hZ (own_w hw 74 rfl)) (by decide) (backOf (W := 0) (rm9x40 l Z a0 hw [] ra0 uo1 uo2 ui3 ui4 uk5 h0 n0 Z0 H0 H1 H2 H3 H4 H5 H6 H7) hZ (own_w hw 76 rfl) (own_w hw 56 rfl) (by decide) (by decide)) q101a q101c (g := (mkF m 1 #[.val (.ref ra0)] [(.ref ra0)])) rfl (by rw [hml]; rfl) (Steps.refl _) (argsL := []) (rest := []) (lenOf pd_24 rfl) rfl (by show 2 * 0 + _ ≤ _; exact Nat.le_of_eq rfl) (hb hby d8_1) (fun _ _ => ⟨rfl, e0, (by decide : 0 + 1 ≤ _), (by decide : 0 + 4 ≤ _)⟩)
  dsimp only [Pt.U, Pt.locs, Pt.cells, Pt.slots] at X101 l101 y101 z101 st101 hQ101
  subst l101 y101 z101
  obtain ⟨b107101, rfl, Nq101, K101, R101_1, R101_2, R101_3, R101_4, R101_5, R101_6, R101_7⟩ := hQ101
  have N101 := Fr.app N0 Nq101
  obtain ⟨fs, hr, hrun, hended, hW, hsame⟩ := X101.leave (v := some (.ref b107101)) (fun h => by rw [Bd.returns] at h; cases h)
  refine ⟨_, _, pre0 _ ?_, hrun, hended, _, _, rfl, ?_, ⟨_, rfl⟩, hW, hsame.mono (by decide) (by decide)⟩
  · skip
    show Steps p.tables e below (s₁.setTop (mkF m 0 #[.val (.ref ra0)] [])) _
    refine XS.aloadN X0.here hx rfl (hb hby d8_0) rfl rfl ?_
    show Steps p.tables e below (s₁.setTop (mkF m 1 #[.val (.ref ra0)] [(.ref ra0)])) _
    refine st101.trans ?_
    show Steps p.tables e below (T101.setTop (mkF m 4 #[.val (.ref ra0)] [(.ref b107101)])) _
    jvm_step X101.here [X101.here.top, hx, (hb hby d8_4), X101.method', Bd.returns, Value.isRef, FieldType.isReference]
    first | (intro acts; rw [hr _ acts rfl rfl rfl]) | rw [hr _ _ rfl rfl rfl]
    exact Steps.refl _
  · show Q8x39 Z ra0 uo1 uo2 ui3 ui4 uk5 h0 n0 _ T101.heap _
    exact ⟨b107101, rfl, N101, ((Keep.refl h0 [ra0]).trans K101 (allS (P := (fun x => x ∈ [ra0] ∨ h0.size ≤ x)) (Or.inl (List.mem_of_getElem? (i := 0) rfl)) all0)), R101_1, R101_2, (Nat.le_trans (Nat.le_refl _) R101_3), R101_4, R101_5, R101_6, R101_7⟩
theorem ef_14x42 (m : MethodId) (ra0 : Addr) : entryFrame m #[(.ref ra0)] 1 = mkF m 0 #[.val (.ref ra0)] [] := by first | (simp [entryFrame, mkF, argsToLocals, Value.category]; done) | rfl
def Q14x42 (Z : State) (ra0 : Addr) (h0 : Heap) (n0 : Nat) (v : Option Value) (h : Heap) (L : List Loc) : Prop := v = some (.int (1 : Int32)) ∧ Fr n0 L ∧ h = h0
set_option maxRecDepth 65536 in
set_option maxHeartbeats 40000000 in
theorem rm14x42 (l : Launch) (Z : State) (a0 : Array Value) (hw : ∀ d ∈ tables_1, d.before a0 Z = true) (ws : List Jvm.Cond) (ra0 : Addr) (h0 : Heap) (n0 : Nat) (Z0 : n0 ≤ h0.size) (H0 : Fld Z h0 ra0 "com/example/rouse/rouse/shell/CommandLine$Words" "to" "I" (.int (1 : Int32))) (H1 : Fld Z h0 ra0 "com/example/rouse/rouse/shell/CommandLine$Words" "from" "I" (.int (0 : Int32))) :
    own_MF l (⟨"com/example/rouse/rouse/shell/CommandLine$Words", "size", "()I"⟩ : MethodName) (Jvm.Cond.code (⟨"com/example/rouse/rouse/shell/CommandLine$Words", "size", "()I"⟩ : MethodName) prog_66_method_3_code 1 (some .int) :: ws) ({ frames := 0, cells := 0, slots := 0, locals := 0 } : Room) #[(.ref ra0)] Z h0 (Q14x42 Z ra0 h0 n0) := by
  refine MetFree.of_bodySF (plainFor_of_name pn_com_example_rouse_rouse_shell_CommandLine_Words) hisR ?_
  intro p e s m args below meth c s₁ Bd hml0 hP hK
  obtain ⟨rfl, hZ, hh⟩ := hP
  have hx := Bd.exec
  have hby := Bd.bytes
  have hml : c.maxLocals = 1 := hml0
  have hown : s.vm.findClass "com/example/rouse/rouse/shell/CommandLine$Words" = some m.cls := findClass_of_methodNamed Bd.named
  have hnm := (name_of_methodNamed Bd.named Bd.method).1
  have X0 : Stand p l e ({ frames := 0, cells := 0, slots := 0, locals := 0 } : Room) s m #[(.ref ra0)] below meth c s₁ [] 0 0 := Stand.of_body Bd
  have e0 : s₁.heap = h0 := by rw [← hh, Bd.state]; rfl
  have N0 := Fr.nil n0
  have pre0 : ∀ t, Steps p.tables e below (s₁.setTop (mkF m 0 #[.val (.ref ra0)] [])) t → Steps p.tables e below (s₁.setTop (entryFrame m #[(.ref ra0)] 1)) t := fun t k => castTop (ef_14x42 m ra0) k
  obtain ⟨T101, X101, e101, st101⟩ := getF X0 hx hZ hown (host := "") (Or.inl (own_w hw 110 rfl)) Via.refl e0 H0 (g := (mkF m 1 #[.val (.ref ra0)] [(.ref ra0)])) rfl rfl (hb hby d14_1)
  obtain ⟨T102, X102, e102, st102⟩ := getF X101 hx hZ hown (host := "") (Or.inl (own_w hw 108 rfl)) Via.refl e101 H1 (g := (mkF m 5 #[.val (.ref ra0)] [(.ref ra0), (.int (1 : Int32))])) rfl rfl (hb hby d14_5)
  obtain ⟨fs, hr, hrun, hended, hW, hsame⟩ := X102.leave (v := some (.int (1 : Int32))) (fun h => by rw [Bd.returns] at h; cases h)
  refine ⟨_, _, pre0 _ ?_, hrun, hended, _, _, rfl, ?_, ⟨_, rfl⟩, hW, hsame.mono (by decide) (by decide)⟩
  · skip
    show Steps p.tables e below (s₁.setTop (mkF m 0 #[.val (.ref ra0)] [])) _
    refine XS.aloadN X0.here hx rfl (hb hby d14_0) rfl rfl ?_
    refine st101 _ ?_
    refine XS.aloadN X101.here hx rfl (hb hby d14_4) rfl rfl ?_
    refine st102 _ ?_
    refine XS.isub X102.here hx rfl (hb hby d14_8) rfl ?_
    show Steps p.tables e below (T102.setTop (mkF m 9 #[.val (.ref ra0)] [(.int ((1 : Int32) - (0 : Int32)))])) _
    rw [show ((1 : Int32) - (0 : Int32)) = (1 : Int32) from by decide]
    show Steps p.tables e below (T102.setTop (mkF m 9 #[.val (.ref ra0)] [(.int (1 : Int32))])) _
    exact retI X102 hx Bd.returns (hb hby d14_9) hr
  · show Q14x42 Z ra0 h0 n0 _ T102.heap _
    rw [e102]
    exact ⟨rfl, N0, rfl⟩
theorem ef_10x45 (m : MethodId) (ra0 : Addr) : entryFrame m #[(.ref ra0)] 1 = mkF m 0 #[.val (.ref ra0)] [] := by first | (simp [entryFrame, mkF, argsToLocals, Value.category]; done) | rfl
def Q10x45 (Z : State) (ra0 : Addr) (uo1 : Addr) (h0 : Heap) (n0 : Nat) (v : Option Value) (h : Heap) (L : List Loc) : Prop := v = some (.int (1 : Int32)) ∧ Fr n0 L ∧ h = h0
set_option maxRecDepth 65536 in
set_option maxHeartbeats 40000000 in
theorem rm10x45 (l : Launch) (Z : State) (a0 : Array Value) (hw : ∀ d ∈ tables_1, d.before a0 Z = true) (ws : List Jvm.Cond) (ra0 : Addr) (uo1 : Addr) (h0 : Heap) (n0 : Nat) (Z0 : n0 ≤ h0.size) (H0 : Fld Z h0 ra0 "com/example/rouse/rouse/shell/CommandLine$1" "nextWord" "I" (.int (1 : Int32))) (H1 : Fld Z h0 ra0 "com/example/rouse/rouse/shell/CommandLine$1" "this$0" "Lcom/example/rouse/rouse/shell/CommandLine;" (.ref uo1)) (H2 : Fld Z h0 uo1 "com/example/rouse/rouse/shell/CommandLine" "words" "I" (.int (2 : Int32))) :
    own_MF l (⟨"com/example/rouse/rouse/shell/CommandLine$1", "hasNext", "()Z"⟩ : MethodName) (Jvm.Cond.code (⟨"com/example/rouse/rouse/shell/CommandLine$1", "hasNext", "()Z"⟩ : MethodName) prog_65_method_2_code 1 (some .boolean) :: ws) ({ frames := 0, cells := 0, slots := 0, locals := 0 } : Room) #[(.ref ra0)] Z h0 (Q10x45 Z ra0 uo1 h0 n0) := by
  refine MetFree.of_bodySF (plainFor_of_name pn_com_example_rouse_rouse_shell_CommandLine_1) hisR ?_
  intro p e s m args below meth c s₁ Bd hml0 hP hK
  obtain ⟨rfl, hZ, hh⟩ := hP
  have hx := Bd.exec
  have hby := Bd.bytes
  have hml : c.maxLocals = 1 := hml0
  have hown : s.vm.findClass "com/example/rouse/rouse/shell/CommandLine$1" = some m.cls := findClass_of_methodNamed Bd.named
  have hnm := (name_of_methodNamed Bd.named Bd.method).1
  have X0 : Stand p l e ({ frames := 0, cells := 0, slots := 0, locals := 0 } : Room) s m #[(.ref ra0)] below meth c s₁ [] 0 0 := Stand.of_body Bd
  have e0 : s₁.heap = h0 := by rw [← hh, Bd.state]; rfl
  have N0 := Fr.nil n0
  have pre0 : ∀ t, Steps p.tables e below (s₁.setTop (mkF m 0 #[.val (.ref ra0)] [])) t → Steps p.tables e below (s₁.setTop (entryFrame m #[(.ref ra0)] 1)) t := fun t k => castTop (ef_10x45 m ra0) k
  obtain ⟨T101, X101, e101, st101⟩ := getF X0 hx hZ hown (host := "") (Or.inl (own_w hw 82 rfl)) Via.refl e0 H0 (g := (mkF m 1 #[.val (.ref ra0)] [(.ref ra0)])) rfl rfl (hb hby d10_1)
  obtain ⟨T102, X102, e102, st102⟩ := getF X101 hx hZ hown (host := "") (Or.inl (own_w hw 60 rfl)) Via.refl e101 H1 (g := (mkF m 5 #[.val (.ref ra0)] [(.ref ra0), (.int (1 : Int32))])) rfl rfl (hb hby d10_5)
  obtain ⟨T103, X103, e103, st103⟩ := getF X102 hx hZ hown (Or.inr (own_w hw 84 rfl)) Via.refl e102 H2 (g := (mkF m 8 #[.val (.ref ra0)] [(.ref uo1), (.int (1 : Int32))])) rfl rfl (hb hby d10_8)
  obtain ⟨fs, hr, hrun, hended, hW, hsame⟩ := X103.leave (v := some (.int (1 : Int32))) (fun h => by rw [Bd.returns] at h; cases h)
  refine ⟨_, _, pre0 _ ?_, hrun, hended, _, _, rfl, ?_, ⟨_, rfl⟩, hW, hsame.mono (by decide) (by decide)⟩
  · skip
    show Steps p.tables e below (s₁.setTop (mkF m 0 #[.val (.ref ra0)] [])) _
    refine XS.aloadN X0.here hx rfl (hb hby d10_0) rfl rfl ?_
    refine st101 _ ?_
    refine XS.aloadN X101.here hx rfl (hb hby d10_4) rfl rfl ?_
    refine st102 _ ?_
    refine st103 _ ?_
    refine XS.icmpNo X103.here hx rfl (hb hby d10_11) rfl (tlt (by decide : (1 : Int32) < (2 : Int32))).2.1 ?_
    refine XS.iconst X103.here hx rfl (hb hby d10_14) ?_
    refine XS.goto X103.here hx rfl (pc0 := 15) (pc' := 19) rfl (hb hby d10_15) (by decide) (by decide) ?_
    show Steps p.tables e below (T103.setTop (mkF m 19 #[.val (.ref ra0)] [(.int (1 : Int32))])) _
    exact retN X103 hx (t := .boolean) Bd.returns (by simp) (hb hby d10_19) hr
  · show Q10x45 Z ra0 uo1 h0 n0 _ T103.heap _
    rw [e103]
    exact ⟨rfl, N0, rfl⟩
theorem ef_9x44 (m : MethodId) (ra0 : Addr) : entryFrame m #[(.ref ra0)] 3 = mkF m 0 #[.val (.ref ra0), .unset, .unset] [] := by first | (simp [entryFrame, mkF, argsToLocals, Value.category]; done) | rfl
def Q9x44 (Z : State) (ra0 : Addr) (uo1 : Addr) (uo2 : Addr) (ui3 : Int32) (ui4 : Int32) (uk5 : ClassId) (h0 : Heap) (n0 : Nat) (v : Option Value) (h : Heap) (L : List Loc) : Prop := ∃ (b107 : Addr), v = some (.ref b107) ∧ Fr n0 L ∧ Keep h0 h [ra0] ∧ Fld Z h ra0 "com/example/rouse/rouse/shell/CommandLine$1" "nextWord" "I" (.int (2 : Int32)) ∧ Fld Z h ra0 "com/example/rouse/rouse/shell/CommandLine$1" "this$0" "Lcom/example/rouse/rouse/shell/CommandLine;" (.ref uo1) ∧ h0.size ≤ b107 ∧ Exa Z h b107 "com/example/rouse/rouse/shell/CommandLine$Words" ∧ Fld Z h b107 "com/example/rouse/rouse/shell/CommandLine$Words" "from" "I" (.int (1 : Int32)) ∧ Fld Z h b107 "com/example/rouse/rouse/shell/CommandLine$Words" "this$0" "Lcom/example/rouse/rouse/shell/CommandLine;" (.ref uo1) ∧ Fld Z h b107 "com/example/rouse/rouse/shell/CommandLine$Words" "to" "I" (.int (2 : Int32))
set_option maxRecDepth 65536 in
set_option maxHeartbeats 40000000 in
theorem rm9x44 (l : Launch) (Z : State) (a0 : Array Value) (hw : ∀ d ∈ tables_1, d.before a0 Z = true) (ws : List Jvm.Cond) (ra0 : Addr) (uo1 : Addr) (uo2 : Addr) (ui3 : Int32) (ui4 : Int32) (uk5 : ClassId) (h0 : Heap) (n0 : Nat) (Z0 : n0 ≤ h0.size) (H0 : Exa Z h0 ra0 "com/example/rouse/rouse/shell/CommandLine$1") (H1 : Fld Z h0 ra0 "com/example/rouse/rouse/shell/CommandLine$1" "nextWord" "I" (.int (1 : Int32))) (H2 : Fld Z h0 ra0 "com/example/rouse/rouse/shell/CommandLine$1" "this$0" "Lcom/example/rouse/rouse/shell/CommandLine;" (.ref uo1)) (H3 : Fld Z h0 uo1 "com/example/rouse/rouse/shell/CommandLine" "words" "I" (.int (2 : Int32))) (H4 : Fld Z h0 uo1 "com/example/rouse/rouse/shell/CommandLine" "wordEnds" "[I" (.ref uo2)) (H5 : Arv Z h0 uo2 uk5 .int (16 : Int32) (own_zl (.int ui3) (.int ui4)) (.int (0 : Int32))) (H6 : ui4 < (0 : Int32)) (H7 : n0 ≤ ra0) :
    own_MF l (⟨"com/example/rouse/rouse/shell/CommandLine$1", "next", "()Lcom/example/rouse/rouse/shell/CommandLine$Words;"⟩ : MethodName) (Jvm.Cond.code (⟨"com/example/rouse/rouse/shell/CommandLine$1", "next", "()Lcom/example/rouse/rouse/shell/CommandLine$Words;"⟩ : MethodName) prog_65_method_3_code 3 (some (.object "com/example/rouse/rouse/shell/CommandLine$Words")) :: ws) ({ frames := 4, cells := 1, slots := 4, locals := 52 } : Room) #[(.ref ra0)] Z h0 (Q9x44 Z ra0 uo1 uo2 ui3 ui4 uk5 h0 n0) := by
  refine MetFree.of_bodySF (plainFor_of_name pn_com_example_rouse_rouse_shell_CommandLine_1) hisR ?_
  intro p e s m args below meth c s₁ Bd hml0 hP hK
  obtain ⟨rfl, hZ, hh⟩ := hP
  have hx := Bd.exec
  have hby := Bd.bytes
  have hml : c.maxLocals = 3 := hml0
  have hown : s.vm.findClass "com/example/rouse/rouse/shell/CommandLine$1" = some m.cls := findClass_of_methodNamed Bd.named
  have hnm := (name_of_methodNamed Bd.named Bd.method).1
  have X0 : Stand p l e ({ frames := 4, cells := 1, slots := 4, locals := 52 } : Room) s m #[(.ref ra0)] below meth c s₁ [] 0 0 := Stand.of_body Bd
  have e0 : s₁.heap = h0 := by rw [← hh, Bd.state]; rfl
  have N0 := Fr.nil n0
  have pre0 : ∀ t, Steps p.tables e below (s₁.setTop (mkF m 0 #[.val (.ref ra0), .unset, .unset] [])) t → Steps p.tables e below (s₁.setTop (entryFrame m #[(.ref ra0)] 3)) t := fun t k => castTop (ef_9x44 m ra0) k
  obtain ⟨cq101, kq101, q101a, q101b, q101c⟩ := isOf hZ e0 H0
  obtain ⟨_, _, ⟨T101, L101, k101, n101⟩, -, X101, ⟨Lc101, hQ101, l101, y101, z101⟩, st101⟩ := X0.virtualBack hx (y := (⟨"com/example/rouse/rouse/shell/CommandLine$1", "hasNext", "()Z"⟩ : MethodName)) (z := (⟨"com/example/rouse/rouse/shell/CommandLine$1", "hasNext", "()Z"⟩ : MethodName)) hown (mvT hZ (own_w hw 77 rfl)) (mvT hZ (own_w hw 78 rfl)) (notFace_of_selects (args := #[]) (mvT hZ (own_w hw 80 rfl))) (mvT hZ (own_w hw 80 rfl)) (mvT hZ (own_w hw 79 rfl)) (by decide) (backOf (W := 0) (rm10x45 l Z a0 hw [] ra0 uo1 h0 n0 Z0 H1 H2 H3) hZ (own_w hw 81 rfl) (own_w hw 56 rfl) (by decide) (by decide)) q101a q101c (g := (mkF m 1 #[.val (.ref ra0), .unset, .unset] [(.ref ra0)])) rfl (by rw [hml]; rfl) (Steps.refl _) (argsL := []) (rest := []) (lenOf pd_22 rfl) rfl (by show 2 * 0 + _ ≤ _; exact Nat.le_of_eq rfl) (hb hby d9_1) (fun _ _ => ⟨rfl, e0, (by decide : 0 + 0 ≤ _), (by decide : 0 + 0 ≤ _)⟩)
  dsimp only [Pt.U, Pt.locs, Pt.cells, Pt.slots] at X101 l101 y101 z101 st101 hQ101
  subst l101 y101 z101
  obtain ⟨rfl, Nq101, Heq101⟩ := hQ101
  have N101 := Fr.app N0 Nq101
  obtain ⟨T102, X102, e102, st102⟩ := getF X101 hx hZ hown (host := "") (Or.inl (own_w hw 82 rfl)) Via.refl Heq101 H1 (g := (mkF m 16 #[.val (.ref ra0), .unset, .unset] [(.ref ra0)])) rfl rfl (hb hby d9_16)
  obtain ⟨T103, X103, e103, st103⟩ := getF X102 hx hZ hown (host := "") (Or.inl (own_w hw 60 rfl)) Via.refl e102 H2 (g := (mkF m 23 #[.val (.ref ra0), .val (.int (1 : Int32)), .val (.int (1 : Int32))] [(.ref ra0)])) rfl rfl (hb hby d9_23)
  obtain ⟨T104, X104, e104, st104⟩ := getF X103 hx hZ hown (Or.inr (own_w hw 85 rfl)) Via.refl e103 H4 (g := (mkF m 26 #[.val (.ref ra0), .val (.int (1 : Int32)), .val (.int (1 : Int32))] [(.ref uo1)])) rfl rfl (hb hby d9_26)
  obtain ⟨cl105, Ar105, qc105, S105, M105, Hh105, G105⟩ := id H5
  have hin105 : ¬ ((1 : Int32) < 0 ∨ cl105.slots.size ≤ ((1 : Int32)).toNatClampNeg) := inb_of S105 ⟨by decide, by decide⟩
  obtain ⟨T106, h106, X106, e106, W106, st106⟩ := putF X104 hx hZ hown (host := "") (Or.inl (own_w hw 82 rfl)) Via.refl e104 H1 H0 (Or.inl (own_w hw 83 rfl)) (own_w hw 55 rfl) (ty := .int) (by decide) rfl rfl (g := (mkF m 44 #[.val (.ref ra0), .val (.int (1 : Int32)), .val (.int (1 : Int32))] [(.int (2 : Int32)), (.ref ra0)])) rfl rfl (hb hby d9_44)
  have Fw106 := H1.same W106
  have N106 := Fr.snoc X106 N101 H7
  obtain ⟨T107, h107, X107, e107, E107, A107, D107, -, st107⟩ := newO X106 hx hZ hown (own_w hw 86 rfl) (own_w hw 87 rfl) (own_w hw 88 rfl) e106 (g := (mkF m 47 #[.val (.ref ra0), .val (.int (1 : Int32)), .val (.int (1 : Int32))] [])) rfl (hb hby d9_47) (by decide) (by decide)
  obtain ⟨b107, g107⟩ : ∃ z, z = h106.size := ⟨_, rfl⟩
  rw [← g107] at A107 D107 st107
  have F108 : Fld Z h107 b107 "com/example/rouse/rouse/shell/CommandLine$Words" "this$0" "Lcom/example/rouse/rouse/shell/CommandLine;" .null := D107 (Or.inr (own_w hw 93 rfl)) (ty := (.object "com/example/rouse/rouse/shell/CommandLine")) (by decide)
  have F109 : Fld Z h107 b107 "java/util/AbstractList" "modCount" "I" (.int (0 : Int32)) := D107 (Or.inl (own_w hw 107 rfl)) (ty := .int) (by decide)
  have F110 : Fld Z h107 b107 "com/example/rouse/rouse/shell/CommandLine$Words" "from" "I" (.int (0 : Int32)) := D107 (Or.inr (own_w hw 109 rfl)) (ty := .int) (by decide)
  have F111 : Fld Z h107 b107 "com/example/rouse/rouse/shell/CommandLine$Words" "to" "I" (.int (0 : Int32)) := D107 (Or.inr (own_w hw 111 rfl)) (ty := .int) (by decide)
  have f112 := ((H2.other W106 (Or.inr (slot_ne (Or.inr (own_w hw 61 rfl)) (Or.inl (own_w hw 83 rfl)) (by decide) (t := (.object "com/example/rouse/rouse/shell/CommandLine")) (t' := .int) (by decide) (by decide)))).ext E107)
  obtain ⟨T113, X113, e113, st113⟩ := getF X107 hx hZ hown (host := "") (Or.inl (own_w hw 60 rfl)) Via.refl e107 f112 (g := (mkF m 52 #[.val (.ref ra0), .val (.int (1 : Int32)), .val (.int (1 : Int32))] [(.ref ra0), (.ref b107), (.ref b107)])) rfl rfl (hb hby d9_52)
  have f114 := (Fw106.ext E107)
  obtain ⟨T115, X115, e115, st115⟩ := getF X113 hx hZ hown (host := "") (Or.inl (own_w hw 82 rfl)) Via.refl e113 f114 (g := (mkF m 57 #[.val (.ref ra0), .val (.int (1 : Int32)), .val (.int (1 : Int32))] [(.ref ra0), (.int (1 : Int32)), (.ref uo1), (.ref b107), (.ref b107)])) rfl rfl (hb hby d9_57)
  have g116 : n0 ≤ b107 := Nat.le_trans (Nat.le_trans Z0 (Nat.le_of_eq W106.size.symm)) (Nat.le_of_eq g107.symm)
  have z118 : n0 ≤ h107.size := (Nat.le_trans (Nat.le_trans Z0 (Nat.le_of_eq W106.size.symm)) E107.1)
  obtain ⟨_, _, ⟨T117, L117, k117, n117⟩, -, X117, ⟨Lc117, hQ117, l117, y117, z117⟩, st117⟩ := X115.specialBack hx (y := (⟨"com/example/rouse/rouse/shell/CommandLine$Words", "<init>", "(Lcom/example/rouse/rouse/shell/CommandLine;II)V"⟩ : MethodName)) rfl hown (mvT hZ (own_w hw 89 rfl)) (mvT hZ (own_w hw 90 rfl)) (mvT hZ (own_w hw 91 rfl)) (by decide) (backOf (W := 1) (rm11 l Z a0 hw [] b107 uo1 (1 : Int32) (2 : Int32) h107 n0 z118 A107 F108 F110 F111 F109 g116) hZ (own_w hw 91 rfl) (own_w hw 88 rfl) (by decide) (by decide)) (g := (mkF m 60 #[.val (.ref ra0), .val (.int (1 : Int32)), .val (.int (1 : Int32))] [(.int (2 : Int32)), (.int (1 : Int32)), (.ref uo1), (.ref b107), (.ref b107)])) rfl (by rw [hml]; rfl) (Steps.refl _) (a := b107) (argsL := [(.ref uo1), (.int (1 : Int32)), (.int (2 : Int32))]) (rest := [(.ref b107)]) (lenOf pd_23 rfl) rfl (by show 2 * 0 + _ ≤ _; exact Nat.le_of_eq rfl) (hb hby d9_60) (fun _ _ => ⟨rfl, e115, (by decide : 1 + 0 ≤ _), (by decide : 4 + 0 ≤ _)⟩)
  dsimp only [Pt.U, Pt.locs, Pt.cells, Pt.slots] at X117 l117 y117 z117 st117 hQ117
  subst l117 y117 z117
  obtain ⟨rfl, Nq117, K117, R117_1, R117_2, R117_3⟩ := hQ117
  have N117 := Fr.app N106 Nq117
  have ne119 : ra0 ≠ b107 := (Nat.ne_of_lt (Nat.lt_of_lt_of_le (H0.wr W106).lt (Nat.le_of_eq g107.symm)))
  have f120 := (f114.keep K117 (ninS ne119 nin0))
  have f121 := (f112.keep K117 (ninS ne119 nin0))
  have f122 := (A107.keep K117)
  obtain ⟨fs, hr, hrun, hended, hW, hsame⟩ := X117.leave (v := some (.ref b107)) (fun h => by rw [Bd.returns] at h; cases h)
  refine ⟨_, _, pre0 _ ?_, hrun, hended, _, _, rfl, ?_, ⟨_, rfl⟩, hW, hsame.mono (by decide) (by decide)⟩
  · skip
    show Steps p.tables e below (s₁.setTop (mkF m 0 #[.val (.ref ra0), .unset, .unset] [])) _
    refine XS.aloadN X0.here hx rfl (hb hby d9_0) rfl rfl ?_
    show Steps p.tables e below (s₁.setTop (mkF m 1 #[.val (.ref ra0), .unset, .unset] [(.ref ra0)])) _
    refine st101.trans ?_
    show Steps p.tables e below (T101.setTop (mkF m 4 #[.val (.ref ra0), .unset, .unset] [(.int (1 : Int32))])) _
    refine XS.ifYes X101.here hx rfl (pc0 := 4) (pc' := 15) rfl (hb hby d9_4) rfl ((if0 _ _).trans (feq (by decide : ¬ ((1 : Int32) = (0 : Int32)))).2) (by decide) (by decide) ?_
    refine XS.aloadN X101.here hx rfl (hb hby d9_15) rfl rfl ?_
    refine st102 _ ?_
    refine XS.istoreN X102.here hx rfl (hb hby d9_19) rfl (l' := #[.val (.ref ra0), .val (.int (1 : Int32)), .unset]) rfl ?_
    refine XS.iloadN X102.here hx rfl (hb hby d9_20) rfl ?_
    refine XS.istoreN X102.here hx rfl (hb hby d9_21) rfl (l' := #[.val (.ref ra0), .val (.int (1 : Int32)), .val (.int (1 : Int32))]) rfl ?_
    refine XS.aloadN X102.here hx rfl (hb hby d9_22) rfl rfl ?_
    refine st103 _ ?_
    refine st104 _ ?_
    refine XS.iloadN X104.here hx rfl (hb hby d9_29) rfl ?_
    show Steps p.tables e below (T104.setTop (mkF m 30 #[.val (.ref ra0), .val (.int (1 : Int32)), .val (.int (1 : Int32))] [(.int (1 : Int32)), (.ref uo2)])) _
    refine X104.iaload hx (j := (1 : Int32)) (v := (.int ui4)) (by rw [e104]; exact Ar105.1) (State.isArrayOf_alike hZ.alike Ar105.2.1) Ar105.2.2 hin105 (Hh105.at hin105 (rfl)) (g := (mkF m 30 #[.val (.ref ra0), .val (.int (1 : Int32)), .val (.int (1 : Int32))] [(.int (1 : Int32)), (.ref uo2)])) rfl rfl (hb hby d9_30) _ ?_
    show Steps p.tables e below (T104.setTop (mkF m 31 #[.val (.ref ra0), .val (.int (1 : Int32)), .val (.int (1 : Int32))] [(.int ui4)])) _
    refine XS.ifYes X104.here hx rfl (pc0 := 31) (pc' := 40) rfl (hb hby d9_31) rfl ((if0 _ _).trans (tlt (H6 : ui4 < (0 : Int32))).1) (by decide) (by decide) ?_
    refine XS.aloadN X104.here hx rfl (hb hby d9_40) rfl rfl ?_
    refine XS.iloadN X104.here hx rfl (hb hby d9_41) rfl ?_
    refine XS.iconst X104.here hx rfl (hb hby d9_42) ?_
    refine XS.iadd X104.here hx rfl (hb hby d9_43) rfl ?_
    show Steps p.tables e below (T104.setTop (mkF m 44 #[.val (.ref ra0), .val (.int (1 : Int32)), .val (.int (1 : Int32))] [(.int ((1 : Int32) + (1 : Int32))), (.ref ra0)])) _
    rw [show ((1 : Int32) + (1 : Int32)) = (2 : Int32) from by decide]
    show Steps p.tables e below (T104.setTop (mkF m 44 #[.val (.ref ra0), .val (.int (1 : Int32)), .val (.int (1 : Int32))] [(.int (2 : Int32)), (.ref ra0)])) _
    refine st106 _ ?_
    refine st107 _ ?_
    refine XS.dup X107.here hx rfl (hb hby d9_50) rfl rfl ?_
    refine XS.aloadN X107.here hx rfl (hb hby d9_51) rfl rfl ?_
    refine st113 _ ?_
    refine XS.iloadN X113.here hx rfl (hb hby d9_55) rfl ?_
    refine XS.aloadN X113.here hx rfl (hb hby d9_56) rfl rfl ?_
    refine st115 _ ?_
    show Steps p.tables e below (T115.setTop (mkF m 60 #[.val (.ref ra0), .val (.int (1 : Int32)), .val (.int (1 : Int32))] [(.int (2 : Int32)), (.int (1 : Int32)), (.ref uo1), (.ref b107), (.ref b107)])) _
    refine st117.trans ?_
    show Steps p.tables e below (T117.setTop (mkF m 63 #[.val (.ref ra0), .val (.int (1 : Int32)), .val (.int (1 : Int32))] [(.ref b107)])) _
    jvm_step X117.here [X117.here.top, hx, (hb hby d9_63), X117.method', Bd.returns, Value.isRef, FieldType.isReference]
    first | (intro acts; rw [hr _ acts rfl rfl rfl]) | rw [hr _ _ rfl rfl rfl]
    exact Steps.refl _
  · show Q9x44 Z ra0 uo1 uo2 ui3 ui4 uk5 h0 n0 _ T117.heap _
    exact ⟨b107, rfl, N117, ((((Keep.refl h0 [ra0]).wr W106 (Or.inl (List.mem_of_getElem? (i := 0) rfl))).ext E107).trans K117 (allS (P := (fun x => x ∈ [ra0] ∨ h0.size ≤ x)) (Or.inr (Nat.le_trans (Nat.le_trans (Nat.le_refl _) (Nat.le_of_eq W106.size.symm)) (Nat.le_of_eq g107.symm))) all0)), f120, f121, (Nat.le_trans (Nat.le_trans (Nat.le_refl _) (Nat.le_of_eq W106.size.symm)) (Nat.le_of_eq g107.symm)), f122, R117_2, R117_1, R117_3⟩
theorem ef_8x43 (m : MethodId) (ra0 : Addr) : entryFrame m #[(.ref ra0)] 1 = mkF m 0 #[.val (.ref ra0)] [] := by first | (simp [entryFrame, mkF, argsToLocals, Value.category]; done) | rfl
def Q8x43 (Z : State) (ra0 : Addr) (uo1 : Addr) (uo2 : Addr) (ui3 : Int32) (ui4 : Int32) (uk5 : ClassId) (h0 : Heap) (n0 : Nat) (v : Option Value) (h : Heap) (L : List Loc) : Prop := ∃ (b107101 : Addr), v = some (.ref b107101) ∧ Fr n0 L ∧ Keep h0 h [ra0] ∧ Fld Z h ra0 "com/example/rouse/rouse/shell/CommandLine$1" "nextWord" "I" (.int (2 : Int32)) ∧ Fld Z h ra0 "com/example/rouse/rouse/shell/CommandLine$1" "this$0" "Lcom/example/rouse/rouse/shell/CommandLine;" (.ref uo1) ∧ h0.size ≤ b107101 ∧ Exa Z h b107101 "com/example/rouse/rouse/shell/CommandLine$Words" ∧ Fld Z h b107101 "com/example/rouse/rouse/shell/CommandLine$Words" "from" "I" (.int (1 : Int32)) ∧ Fld Z h b107101 "com/example/rouse/rouse/shell/CommandLine$Words" "this$0" "Lcom/example/rouse/rouse/shell/CommandLine;" (.ref uo1) ∧ Fld Z h b107101 "com/example/rouse/rouse/shell/CommandLine$Words" "to" "I" (.int (2 : Int32))
set_option maxRecDepth 65536 in
set_option maxHeartbeats 40000000 in
theorem rm8x43 (l : Launch) (Z : State) (a0 : Array Value) (hw : ∀ d ∈ tables_1, d.before a0 Z = true) (ws : List Jvm.Cond) (ra0 : Addr) (uo1 : Addr) (uo2 : Addr) (ui3 : Int32) (ui4 : Int32) (uk5 : ClassId) (h0 : Heap) (n0 : Nat) (Z0 : n0 ≤ h0.size) (H0 : Exa Z h0 ra0 "com/example/rouse/rouse/shell/CommandLine$1") (H1 : Fld Z h0 ra0 "com/example/rouse/rouse/shell/CommandLine$1" "nextWord" "I" (.int (1 : Int32))) (H2 : Fld Z h0 ra0 "com/example/rouse/rouse/shell/CommandLine$1" "this$0" "Lcom/example/rouse/rouse/shell/CommandLine;" (.ref uo1)) (H3 : Fld Z h0 uo1 "com/example/rouse/rouse/shell/CommandLine" "words" "I" (.int (2 : Int32))) (H4 : Fld Z h0 uo1 "com/example/rouse/rouse/shell/CommandLine" "wordEnds" "[I" (.ref uo2)) (H5 : Arv Z h0 uo2 uk5 .int (16 : Int32) (own_zl (.int ui3) (.int ui4)) (.int (0 : Int32))) (H6 : ui4 < (0 : Int32)) (H7 : n0 ≤ ra0) :
    own_MF l (⟨"com/example/rouse/rouse/shell/CommandLine$1", "next", "()Ljava/lang/Object;"⟩ : MethodName) (Jvm.Cond.code (⟨"com/example/rouse/rouse/shell/CommandLine$1", "next", "()Ljava/lang/Object;"⟩ : MethodName) prog_65_method_4_code 1 (some (.object "java/lang/Object")) :: ws) ({ frames := 5, cells := 1, slots := 4, locals := 66 } : Room) #[(.ref ra0)] Z h0 (Q8x43 Z ra0 uo1 uo2 ui3 ui4 uk5 h0 n0) := by
  refine MetFree.of_bodySF (plainFor_of_name pn_com_example_rouse_rouse_shell_CommandLine_1) hisR ?_
  intro p e s m args below meth c s₁ Bd hml0 hP hK
  obtain ⟨rfl, hZ, hh⟩ := hP
  have hx := Bd.exec
  have hby := Bd.bytes
  have hml : c.maxLocals = 1 := hml0
  have hown : s.vm.findClass "com/example/rouse/rouse/shell/CommandLine$1" = some m.cls := findClass_of_methodNamed Bd.named
  have hnm := (name_of_methodNamed Bd.named Bd.method).1
  have X0 : Stand p l e ({ frames := 5, cells := 1, slots := 4, locals := 66 } : Room) s m #[(.ref ra0)] below meth c s₁ [] 0 0 := Stand.of_body Bd
  have e0 : s₁.heap = h0 := by rw [← hh, Bd.state]; rfl
  have N0 := Fr.nil n0
  have pre0 : ∀ t, Steps p.tables e below (s₁.setTop (mkF m 0 #[.val (.ref ra0)] [])) t → Steps p.tables e below (s₁.setTop (entryFrame m #[(.ref ra0)] 1)) t := fun t k => castTop (ef_8x43 m ra0) k
  obtain ⟨cq101, kq101, q101a, q101b, q101c⟩ := isOf hZ e0 H0
  obtain ⟨_, _, ⟨T101, L101, k101, n101⟩, -, X101, ⟨Lc101, hQ101, l101, y101, z101⟩, st101⟩ := X0.virtualBack hx (y := (⟨"com/example/rouse/rouse/shell/CommandLine$1", "next", "()Lcom/example/rouse/rouse/shell/CommandLine$Words;"⟩ : MethodName)) (z := (⟨"com/example/rouse/rouse/shell/CommandLine$1", "next", "()Lcom/example/rouse/rouse/shell/CommandLine$Words;"⟩ : MethodName)) hown (mvT hZ (own_w hw 72 rfl)) (mvT hZ (own_w hw 73 rfl)) (notFace_of_selects (args := #[]) (mvT hZ (own_w hw 75 rfl))) (mvT hZ (own_w hw 75 rfl)) (mvT hZ (own_w hw 74 rfl)) (by decide) (backOf (W := 0) (rm9x44 l Z a0 hw [] ra0 uo1 uo2 ui3 ui4 uk5 h0 n0 Z0 H0 H1 H2 H3 H4 H5 H6 H7) hZ (own_w hw 76 rfl) (own_w hw 56 rfl) (by decide) (by decide)) q101a q101c (g := (mkF m 1 #[.val (.ref ra0)] [(.ref ra0)])) rfl (by rw [hml]; rfl) (Steps.refl _) (argsL := []) (rest := []) (lenOf pd_24 rfl) rfl (by show 2 * 0 + _ ≤ _; exact Nat.le_of_eq rfl) (hb hby d8_1) (fun _ _ => ⟨rfl, e0, (by decide : 0 + 1 ≤ _), (by decide : 0 + 4 ≤ _)⟩)
  dsimp only [Pt.U, Pt.locs, Pt.cells, Pt.slots] at X101 l101 y101 z101 st101 hQ101
  subst l101 y101 z101
  obtain ⟨b107101, rfl, Nq101, K101, R101_1, R101_2, R101_3, R101_4, R101_5, R101_6, R101_7⟩ := hQ101
  have N101 := Fr.app N0 Nq101
  obtain ⟨fs, hr, hrun, hended, hW, hsame⟩ := X101.leave (v := some (.ref b107101)) (fun h => by rw [Bd.returns] at h; cases h)
  refine ⟨_, _, pre0 _ ?_, hrun, hended, _, _, rfl, ?_, ⟨_, rfl⟩, hW, hsame.mono (by decide) (by decide)⟩
  · skip
    show Steps p.tables e below (s₁.setTop (mkF m 0 #[.val (.ref ra0)] [])) _
    refine XS.aloadN X0.here hx rfl (hb hby d8_0) rfl rfl ?_
    show Steps p.tables e below (s₁.setTop (mkF m 1 #[.val (.ref ra0)] [(.ref ra0)])) _
    refine st101.trans ?_
    show Steps p.tables e below (T101.setTop (mkF m 4 #[.val (.ref ra0)] [(.ref b107101)])) _
    jvm_step X101.here [X101.here.top, hx, (hb hby d8_4), X101.method', Bd.returns, Value.isRef, FieldType.isReference]
    first | (intro acts; rw [hr _ acts rfl rfl rfl]) | rw [hr _ _ rfl rfl rfl]
    exact Steps.refl _
  · show Q8x43 Z ra0 uo1 uo2 ui3 ui4 uk5 h0 n0 _ T101.heap _
    exact ⟨b107101, rfl, N101, ((Keep.refl h0 [ra0]).trans K101 (allS (P := (fun x => x ∈ [ra0] ∨ h0.size ≤ x)) (Or.inl (List.mem_of_getElem? (i := 0) rfl)) all0)), R101_1, R101_2, (Nat.le_trans (Nat.le_refl _) R101_3), R101_4, R101_5, R101_6, R101_7⟩
set_option maxRecDepth 65536 in
set_option maxHeartbeats 40000000 in
theorem tl_B (l : Launch) (Z : State) (a0 : Array Value) (hw : ∀ d ∈ tables_1, d.before a0 Z = true) (ws : List Jvm.Cond) (hEL : EW Z a0 own_EL) (p1 : Int32) (p2 : Int32) (p3 : Int32) (cz : Int32) (sf : Value) (v3 : Int32) (v4 : Int32) (v5 : Int32) (c1 : Int32) (c2 : Int32) (s8 : Addr) (s9 : Addr) (b8 : Addr) (k8 : ClassId) (b9 : Addr) (k9 : ClassId) (cl : Addr) (cb : Addr) (ck : ClassId) (x0 : Int32) (x1 : Int32) (wb : Addr) (wk : ClassId) (w0 : Int32) (w1 : Int32) (v11 : Int32) (v12 : Int32) (hs : Heap) (n0 : Nat) (h0 : Heap) (Z0 : n0 ≤ h0.size) (H0 : Sta Z h0 "java/lang/String" "COMPACT_STRINGS" "Z" (.int cz)) (H1 : ¬ (cz = (0 : Int32))) (H2 : Sta Z h0 "java/lang/StringUTF16" "$assertionsDisabled" "Z" (.int (1 : Int32))) (H3 : Sta Z h0 "java/lang/StringUTF16" "HI_BYTE_SHIFT" "I" (.int (0 : Int32))) (H4 : Sta Z h0 "java/lang/StringUTF16" "LO_BYTE_SHIFT" "I" (.int (8 : Int32))) (H5 : Sta Z h0 "jdk/internal/util/Preconditions" "SIOOBE_FORMATTER" "Ljava/util/function/BiFunction;" sf) (H6 : sf.category = 1) (H7 : Exa Z h0 s8 "java/lang/String") (H8 : Fld Z h0 s8 "java/lang/String" "coder" "B" (.int (own_cd v3 c1))) (H9 : Fld Z h0 s8 "java/lang/String" "value" "[B" (.ref b8)) (H10 : Arv Z h0 b8 k8 .byte (own_bn v3 c1) (own_bs v3 c1) (.int (0 : Int32))) (H11 : Exa Z h0 s9 "java/lang/String") (H12 : Fld Z h0 s9 "java/lang/String" "coder" "B" (.int (own_cd v5 c2))) (H13 : Fld Z h0 s9 "java/lang/String" "value" "[B" (.ref b9)) (H14 : Arv Z h0 b9 k9 .byte (own_bn v5 c2) (own_bs v5 c2) (.int (0 : Int32))) (H15 : Exa Z h0 cl "com/example/rouse/rouse/shell/CommandLine") (H16 : Fld Z h0 cl "com/example/rouse/rouse/shell/CommandLine" "words" "I" (.int (2 : Int32))) (H17 : Fld Z h0 cl "com/example/rouse/rouse/shell/CommandLine" "characters" "[C" (.ref cb)) (H18 : Fld Z h0 cl "com/example/rouse/rouse/shell/CommandLine" "wordEnds" "[I" (.ref wb)) (H19 : Arv Z h0 cb ck .char (16 : Int32) (own_zl (.int x0) (.int x1)) (.int (0 : Int32))) (H20 : Arv Z h0 wb wk .int (16 : Int32) (own_zl (.int w0) (.int w1)) (.int (0 : Int32))) (H21 : own_chr x0) (H22 : own_chr x1) (H23 : own_01 v3) (H24 : own_01 v5) (H25 : own_we w0 = v3) (H26 : own_we w1 = (v3 + v5)) (H27 : w0 < (0 : Int32)) (H28 : w1 < (0 : Int32)) (H29 : own_tx v3 x0 c1) (H30 : own_tx v5 (own_at v3 x0 x1) c2) (H31 : ¬ (v4 = (0 : Int32))) {p : Program} {e : Env} {s : State} {m : MethodId} {below : List Frame} {meth : Method} {c : Code} {s₁ : State} (Bd : BodyLoose p l x (head1 (Jvm.Cond.code x code maxLocals ret :: ws) room_1) code maxLocals ret e s m #[(.int p1), (.int p2), (.int p3)] below meth c s₁) (hml : c.maxLocals = 16) (hh : s.heap = hs) {vm0 : Vm} {T : State} {locs : List Loc} {k0 : Nat} (hZ : Z.Warmed39 (s.setVm vm0).vm) (hown : (s.setVm vm0).vm.findClass "com/example/rouse/rouse/shell/CommandLineEndCommandPinLaw" = some m.cls) (X0 : Stand p l e room_1 (s.setVm vm0) m #[(.int p1), (.int p2), (.int p3)] below meth c T locs 12 160) (N0 : Fr n0 locs) (e0 : T.heap = h0) (hS0 : s.Since vm0 k0) (hk0 : k0 ≤ h0.size) (hH : CHv Z own_EL vm0 h0) (Cr0 : CHr Z own_EL s.vm hs vm0 h0) (pre0 : ∀ t, Steps p.tables e below (T.setTop (mkF m 174 #[.val (.int p1), .val (.int p2), .val (.int p3), .val (.int v3), .val (.int v4), .val (.int v5), .val (.int c1), .val (.int c2), .val (.ref s8), .val (.ref s9), .val (.ref cl), .val (.int v11), .val (.int v12), .unset, .unset, .unset] [])) t → Steps p.tables e below (s₁.setTop (entryFrame m #[(.int p1), (.int p2), (.int p3)] maxLocals)) t) :
    ∃ s₂ o, Steps p.tables e below (s₁.setTop (entryFrame m #[(.int p1), (.int p2), (.int p3)] maxLocals)) s₂ ∧ s₂.status = .running ∧ Ended s₂ below o ∧ ∃ v L, o = .returned v ∧ Q0 Z p1 p2 p3 cz sf hs n0 v s₂.heap L ∧ CHr Z own_EL s.vm s.heap s₂.vm s₂.heap ∧ ReturnedEndW s o s₂ L room_1.cells room_1.slots := by
  have hx := Bd.exec
  have hby := Bd.bytes
  have hnm := (name_of_methodNamed Bd.named Bd.method).1
  obtain ⟨cq101, kq101, q101a, q101b, q101c⟩ := isOf hZ e0 H15
  obtain ⟨_, _, ⟨T101, L101, k101, n101⟩, -, X101, ⟨Lc101, hQ101, l101, y101, z101⟩, st101⟩ := X0.virtualBack hx (y := (⟨"com/example/rouse/rouse/shell/CommandLine", "iterator", "()Ljava/util/Iterator;"⟩ : MethodName)) (z := (⟨"com/example/rouse/rouse/shell/CommandLine", "iterator", "()Ljava/util/Iterator;"⟩ : MethodName)) hown (mvT hZ (own_w hw 49 rfl)) (mvT hZ (own_w hw 50 rfl)) (notFace_of_selects (args := #[]) (mvT hZ (own_w hw 52 rfl))) (mvT hZ (own_w hw 52 rfl)) (mvT hZ (own_w hw 51 rfl)) (by decide) (backOf (W := 0) (rm6x30 l Z a0 hw [] cl h0 n0 Z0) hZ (own_w hw 53 rfl) (own_w hw 11 rfl) (by decide) (by decide)) q101a q101c (g := (mkF m 176 #[.val (.int p1), .val (.int p2), .val (.int p3), .val (.int v3), .val (.int v4), .val (.int v5), .val (.int c1), .val (.int c2), .val (.ref s8), .val (.ref s9), .val (.ref cl), .val (.int v11), .val (.int v12), .unset, .unset, .unset] [(.ref cl)])) rfl (by rw [hml]; rfl) (Steps.refl _) (argsL := []) (rest := []) (lenOf pd_21 rfl) rfl (by show 2 * 0 + _ ≤ _; exact Nat.le_of_eq rfl) (hb hby at_176) (fun _ _ => ⟨rfl, e0, (by decide : 12 + 1 ≤ _), (by decide : 160 + 2 ≤ _)⟩)
  dsimp only [Pt.U, Pt.locs, Pt.cells, Pt.slots] at X101 l101 y101 z101 st101 hQ101
  subst l101 y101 z101
  obtain ⟨b101101, rfl, Nq101, K101, R101_1, R101_2, R101_3, R101_4⟩ := hQ101
  have N101 := Fr.app N0 Nq101
  have hs102 : ∀ x ∈ ([] : List Addr), Safe Z own_EL vm0 h0 x := (all0 (P := fun x => Safe Z own_EL vm0 h0 x))
  have Hc102 := CHv.keep K101 hs102 hH
  have Cr102 := Cr0.trans (CHr.keep K101 hs102 hH)
  have SbR101_1 := Safe.keep K101 hs102 hH (Safe.new R101_1)
  have g103 : n0 ≤ b101101 := Nat.le_trans Z0 R101_1
  have f104 := (H16.keep K101 nin0)
  have f105 := (H18.keep K101 nin0)
  have f106 := (H20.keep K101 nin0)
  have z108 : n0 ≤ T101.heap.size := (Nat.le_trans Z0 K101.1)
  obtain ⟨cq107, kq107, q107a, q107b, q107c⟩ := isOf hZ rfl R101_2
  obtain ⟨_, _, ⟨T107, L107, k107, n107⟩, -, X107, ⟨Lc107, hQ107, l107, y107, z107⟩, st107⟩ := X101.interfaceBack hx (xi := (⟨"java/util/Iterator", "next", "()Ljava/lang/Object;"⟩ : MethodName)) (y := (⟨"com/example/rouse/rouse/shell/CommandLine$1", "next", "()Ljava/lang/Object;"⟩ : MethodName)) hown (mvT hZ (own_w hw 63 rfl)) (mvT hZ (own_w hw 64 rfl)) (mvT hZ (own_w hw 65 rfl)) (mvT hZ (own_w hw 66 rfl)) (mvT hZ (own_w hw 67 rfl)) (mvT hZ (own_w hw 68 rfl)) (mvT hZ (own_w hw 69 rfl)) (mvT hZ (own_w hw 70 rfl)) (by decide) (backOf (W := 0) (rm8x39 l Z a0 hw [] b101101 cl wb w0 w1 wk T101.heap n0 z108 R101_2 R101_3 R101_4 f104 f105 f106 H27 g103) hZ (own_w hw 71 rfl) (own_w hw 56 rfl) (by decide) (by decide)) q107a q107b q107c (g := (mkF m 183 #[.val (.int p1), .val (.int p2), .val (.int p3), .val (.int v3), .val (.int v4), .val (.int v5), .val (.int c1), .val (.int c2), .val (.ref s8), .val (.ref s9), .val (.ref cl), .val (.int v11), .val (.int v12), .val (.ref b101101), .unset, .unset] [(.ref b101101)])) rfl (by rw [hml]; rfl) (Steps.refl _) (argsL := []) (rest := []) (lenOf pd_25 rfl) rfl (by show 2 * 0 + _ ≤ _; exact Nat.le_of_eq rfl) (hb hby at_183) (fun _ _ => ⟨rfl, rfl, (by decide : 13 + 1 ≤ _), (by decide : 162 + 4 ≤ _)⟩)
  dsimp only [Pt.U, Pt.locs, Pt.cells, Pt.slots] at X107 l107 y107 z107 st107 hQ107
  subst l107 y107 z107
  obtain ⟨b107101107, rfl, Nq107, K107, R107_1, R107_2, R107_3, R107_4, R107_5, R107_6, R107_7⟩ := hQ107
  have N107 := Fr.app N101 Nq107
  have hs109 : ∀ x ∈ ([b101101] : List Addr), Safe Z own_EL vm0 T101.heap x := (allS (P := fun x => Safe Z own_EL vm0 T101.heap x) SbR101_1 (all0 (P := fun x => Safe Z own_EL vm0 T101.heap x)))
  have Hc109 := CHv.keep K107 hs109 Hc102
  have Cr109 := Cr102.trans (CHr.keep K107 hs109 Hc102)
  have Sf109_0 := Safe.keep K107 hs109 Hc102 SbR101_1
  have SbR107_3 := Safe.keep K107 hs109 Hc102 (Safe.new R107_3)
  obtain ⟨T110, X110, e110, st110⟩ := castY X107 hx hZ hown (own_w hw 112 rfl) rfl (Ins.self R107_4) (g := (mkF m 188 #[.val (.int p1), .val (.int p2), .val (.int p3), .val (.int v3), .val (.int v4), .val (.int v5), .val (.int c1), .val (.int c2), .val (.ref s8), .val (.ref s9), .val (.ref cl), .val (.int v11), .val (.int v12), .val (.ref b101101), .unset, .unset] [(.ref b107101107)])) rfl rfl (hb hby at_188)
  have z112 : n0 ≤ T107.heap.size := (Nat.le_trans z108 K107.1)
  obtain ⟨cq111, kq111, q111a, q111b, q111c⟩ := isOf hZ e110 R107_4
  obtain ⟨_, _, ⟨T111, L111, k111, n111⟩, -, X111, ⟨Lc111, hQ111, l111, y111, z111⟩, st111⟩ := X110.virtualBack hx (y := (⟨"com/example/rouse/rouse/shell/CommandLine$Words", "size", "()I"⟩ : MethodName)) (z := (⟨"com/example/rouse/rouse/shell/CommandLine$Words", "size", "()I"⟩ : MethodName)) hown (mvT hZ (own_w hw 114 rfl)) (mvT hZ (own_w hw 115 rfl)) (notFace_of_selects (args := #[]) (mvT hZ (own_w hw 117 rfl))) (mvT hZ (own_w hw 117 rfl)) (mvT hZ (own_w hw 116 rfl)) (by decide) (backOf (W := 0) (rm14x42 l Z a0 hw [] b107101107 T107.heap n0 z112 R107_7 R107_5) hZ (own_w hw 118 rfl) (own_w hw 88 rfl) (by decide) (by decide)) q111a q111c (g := (mkF m 200 #[.val (.int p1), .val (.int p2), .val (.int p3), .val (.int v3), .val (.int v4), .val (.int v5), .val (.int c1), .val (.int c2), .val (.ref s8), .val (.ref s9), .val (.ref cl), .val (.int v11), .val (.int v12), .val (.ref b101101), .val (.ref b107101107), .unset] [(.ref b107101107)])) rfl (by rw [hml]; rfl) (Steps.refl _) (argsL := []) (rest := []) (lenOf pd_15 rfl) rfl (by show 2 * 0 + _ ≤ _; exact Nat.le_of_eq rfl) (hb hby at_200) (fun _ _ => ⟨rfl, e110, (by decide : 14 + 0 ≤ _), (by decide : 166 + 0 ≤ _)⟩)
  dsimp only [Pt.U, Pt.locs, Pt.cells, Pt.slots] at X111 l111 y111 z111 st111 hQ111
  subst l111 y111 z111
  obtain ⟨rfl, Nq111, Heq111⟩ := hQ111
  have N111 := Fr.app N107 Nq111
  have f113 := (own_sta_keep (own_sta_keep H0 K101 own_pl0) K107 (own_plS (own_pl_exa R101_2) own_pl0))
  have f114 := (own_sta_keep (own_sta_keep H2 K101 own_pl0) K107 (own_plS (own_pl_exa R101_2) own_pl0))
  have f115 := (own_sta_keep (own_sta_keep H3 K101 own_pl0) K107 (own_plS (own_pl_exa R101_2) own_pl0))
  have f116 := (own_sta_keep (own_sta_keep H4 K101 own_pl0) K107 (own_plS (own_pl_exa R101_2) own_pl0))
  have f117 := (own_sta_keep (own_sta_keep H5 K101 own_pl0) K107 (own_plS (own_pl_exa R101_2) own_pl0))
  have f118 := ((H15.keep K101).keep K107)
  have ne119 : cl ≠ b101101 := (Nat.ne_of_lt (Nat.lt_of_lt_of_le H15.lt R101_1))
  have f120 := ((H17.keep K101 nin0).keep K107 (ninS ne119 nin0))
  have f121 := (f105.keep K107 (ninS ne119 nin0))
  have ne122 : cb ≠ b101101 := (Nat.ne_of_lt (Nat.lt_of_lt_of_le H19.lt R101_1))
  have f123 := ((H19.keep K101 nin0).keep K107 (ninS ne122 nin0))
  have ne124 : wb ≠ b101101 := (Nat.ne_of_lt (Nat.lt_of_lt_of_le H20.lt R101_1))
  have f125 := (f106.keep K107 (ninS ne124 nin0))
  obtain ⟨cq126, kq126, q126a, q126b, q126c⟩ := isOf hZ Heq111 R107_4
  obtain ⟨_, _, ⟨T126, L126, k126, n126⟩, -, X126, hS126', hgr126, ⟨Lc126, hQ126, l126, y126, z126, Cq126⟩, st126⟩ := X111.virtualBackS hx (y := (⟨"com/example/rouse/rouse/shell/CommandLine$Words", "get", "(I)Ljava/lang/String;"⟩ : MethodName)) (z := (⟨"com/example/rouse/rouse/shell/CommandLine$Words", "get", "(I)Ljava/lang/String;"⟩ : MethodName)) hown (mvT hZ (own_w hw 119 rfl)) (mvT hZ (own_w hw 120 rfl)) (notFace_of_selects (args := #[]) (mvT hZ (own_w hw 122 rfl))) (mvT hZ (own_w hw 122 rfl)) (mvT hZ (own_w hw 121 rfl)) (by decide) (backOfSH (W := 1) (rm15g00 l Z a0 hw [] hEL b107101107 cz sf cl cb ck x0 x1 wb wk w0 w1 v3 v5 (1 : Int32) T107.heap n0 z112 (by first | assumption | decide) f113 H1 f114 f115 f116 f117 H6 R107_4 R107_6 R107_5 R107_7 f118 f120 f121 f123 f125 H21 H22 H23 H24 H25 H26) hZ (own_w hw 123 rfl) (own_w hw 88 rfl) (by decide) (by decide) hEL Hc109) q126a q126c (g := (mkF m 212 #[.val (.int p1), .val (.int p2), .val (.int p3), .val (.int v3), .val (.int v4), .val (.int v5), .val (.int c1), .val (.int c2), .val (.ref s8), .val (.ref s9), .val (.ref cl), .val (.int v11), .val (.int v12), .val (.ref b101101), .val (.ref b107101107), .unset] [(.int (0 : Int32)), (.ref b107101107), (.ref s8)])) rfl (by rw [hml]; rfl) (Steps.refl _) (argsL := [(.int (0 : Int32))]) (rest := [(.ref s8)]) (lenOf pd_26 rfl) rfl (by show 2 * 0 + _ ≤ _; exact Nat.le_of_eq rfl) (hb hby at_212) (fun _ _ => ⟨rfl, Heq111, (by decide : 14 + 5 ≤ _), (by decide : 166 + 12 ≤ _)⟩)
  dsimp only [Pt.U, Pt.locs, Pt.cells, Pt.slots] at X126 l126 y126 z126 st126 hQ126 hS126' hgr126 Cq126
  subst l126 y126 z126
  obtain ⟨X126, hS126, hZ, hown⟩ := rebS hS0 (by rw [Heq111]; exact (Nat.le_trans (Nat.le_trans hk0 K101.1) K107.1)) X126 hS126' hgr126 hZ hown
  have Cr126 := Cr109.trans Cq126
  have Hc126 := Cq126.1
  have f127 := (R101_2.keep K107)
  have Sf126_0 := Cq126.safe f127.lt Sf109_0
  have Sf126_1 := Cq126.safe R107_4.lt SbR107_3
  obtain ⟨x126, b126, k126, rfl, Nq126, K126, R126_1, R126_2, R126_3, R126_4⟩ := hQ126
  have N126 := Fr.app N111 Nq126
  have f128 := (own_sta_keep f113 K126 own_pl0)
  have f129 := (((H7.keep K101).keep K107).keep K126)
  have ne130 : s8 ≠ b101101 := (Nat.ne_of_lt (Nat.lt_of_lt_of_le H7.lt R101_1))
  have f131 := (((H8.keep K101 nin0).keep K107 (ninS ne130 nin0)).keep K126 nin0)
  have f132 := (((H9.keep K101 nin0).keep K107 (ninS ne130 nin0)).keep K126 nin0)
  have ne133 : b8 ≠ b101101 := (Nat.ne_of_lt (Nat.lt_of_lt_of_le H10.lt R101_1))
  have f134 := (((H10.keep K101 nin0).keep K107 (ninS ne133 nin0)).keep K126 nin0)
  have z136 : n0 ≤ T126.heap.size := (Nat.le_trans z112 K126.1)
  obtain ⟨cq135, kq135, q135a, q135b, q135c⟩ := isOf hZ rfl f129
  obtain ⟨_, _, ⟨T135, L135, k135, n135⟩, -, X135, ⟨Lc135, hQ135, l135, y135, z135⟩, st135⟩ := X126.virtualBack hx (y := (⟨"java/lang/String", "equals", "(Ljava/lang/Object;)Z"⟩ : MethodName)) (z := (⟨"java/lang/String", "equals", "(Ljava/lang/Object;)Z"⟩ : MethodName)) hown (mvT hZ (own_w hw 164 rfl)) (mvT hZ (own_w hw 165 rfl)) (notFace_of_selects (args := #[]) (mvT hZ (own_w hw 167 rfl))) (mvT hZ (own_w hw 167 rfl)) (mvT hZ (own_w hw 166 rfl)) (by decide) (backOf (W := 0) (rm25g l Z a0 hw [] s8 x126 cz b8 k8 b126 k126 v3 c1 x0 T126.heap n0 z136 f128 H1 f129 f131 f132 f134 R126_1 R126_2 R126_3 R126_4 H23 (H29.imp_right Eq.symm)) hZ (own_w hw 168 rfl) (own_w hw 2 rfl) (by decide) (by decide)) q135a q135c (g := (mkF m 215 #[.val (.int p1), .val (.int p2), .val (.int p3), .val (.int v3), .val (.int v4), .val (.int v5), .val (.int c1), .val (.int c2), .val (.ref s8), .val (.ref s9), .val (.ref cl), .val (.int v11), .val (.int v12), .val (.ref b101101), .val (.ref b107101107), .unset] [(.ref x126), (.ref s8)])) rfl (by rw [hml]; rfl) (Steps.refl _) (argsL := [(.ref x126)]) (rest := []) (lenOf pd_27 rfl) rfl (by show 2 * 0 + _ ≤ _; exact Nat.le_of_eq rfl) (hb hby at_215) (fun _ _ => ⟨rfl, rfl, (by decide : 19 + 0 ≤ _), (by decide : 178 + 0 ≤ _)⟩)
  dsimp only [Pt.U, Pt.locs, Pt.cells, Pt.slots] at X135 l135 y135 z135 st135 hQ135
  subst l135 y135 z135
  obtain ⟨rfl, Nq135, Heq135⟩ := hQ135
  have N135 := Fr.app N126 Nq135
  have f137 := (f127.keep K126)
  have f138 := (R107_1.keep K126 nin0)
  have f139 := (R107_2.keep K126 nin0)
  have f140 := ((f104.keep K107 (ninS ne119 nin0)).keep K126 nin0)
  have f141 := (f121.keep K126 nin0)
  have f142 := (f125.keep K126 nin0)
  obtain ⟨cq143, kq143, q143a, q143b, q143c⟩ := isOf hZ Heq135 f137
  obtain ⟨_, _, ⟨T143, L143, k143, n143⟩, -, X143, ⟨Lc143, hQ143, l143, y143, z143⟩, st143⟩ := X135.interfaceBack hx (xi := (⟨"java/util/Iterator", "next", "()Ljava/lang/Object;"⟩ : MethodName)) (y := (⟨"com/example/rouse/rouse/shell/CommandLine$1", "next", "()Ljava/lang/Object;"⟩ : MethodName)) hown (mvT hZ (own_w hw 63 rfl)) (mvT hZ (own_w hw 64 rfl)) (mvT hZ (own_w hw 65 rfl)) (mvT hZ (own_w hw 66 rfl)) (mvT hZ (own_w hw 67 rfl)) (mvT hZ (own_w hw 68 rfl)) (mvT hZ (own_w hw 69 rfl)) (mvT hZ (own_w hw 70 rfl)) (by decide) (backOf (W := 0) (rm8x43 l Z a0 hw [] b101101 cl wb w0 w1 wk T126.heap n0 z136 f137 f138 f139 f140 f141 f142 H28 g103) hZ (own_w hw 71 rfl) (own_w hw 56 rfl) (by decide) (by decide)) q143a q143b q143c (g := (mkF m 225 #[.val (.int p1), .val (.int p2), .val (.int p3), .val (.int v3), .val (.int v4), .val (.int v5), .val (.int c1), .val (.int c2), .val (.ref s8), .val (.ref s9), .val (.ref cl), .val (.int v11), .val (.int v12), .val (.ref b101101), .val (.ref b107101107), .unset] [(.ref b101101)])) rfl (by rw [hml]; rfl) (Steps.refl _) (argsL := []) (rest := []) (lenOf pd_25 rfl) rfl (by show 2 * 0 + _ ≤ _; exact Nat.le_of_eq rfl) (hb hby at_225) (fun _ _ => ⟨rfl, Heq135, (by decide : 19 + 1 ≤ _), (by decide : 178 + 4 ≤ _)⟩)
  dsimp only [Pt.U, Pt.locs, Pt.cells, Pt.slots] at X143 l143 y143 z143 st143 hQ143
  subst l143 y143 z143
  obtain ⟨b107101143, rfl, Nq143, K143, R143_1, R143_2, R143_3, R143_4, R143_5, R143_6, R143_7⟩ := hQ143
  have N143 := Fr.app N135 Nq143
  have hs144 : ∀ x ∈ ([b101101] : List Addr), Safe Z own_EL T126.vm T126.heap x := (allS (P := fun x => Safe Z own_EL T126.vm T126.heap x) Sf126_0 (all0 (P := fun x => Safe Z own_EL T126.vm T126.heap x)))
  have Hc144 := CHv.keep K143 hs144 Hc126
  have Cr144 := Cr126.trans (CHr.keep K143 hs144 Hc126)
  have Sf144_0 := Safe.keep K143 hs144 Hc126 Sf126_0
  have Sf144_1 := Safe.keep K143 hs144 Hc126 Sf126_1
  have SbR143_3 := Safe.keep K143 hs144 Hc126 (Safe.new R143_3)
  obtain ⟨T145, X145, e145, st145⟩ := castY X143 hx hZ hown (own_w hw 112 rfl) rfl (Ins.self R143_4) (g := (mkF m 230 #[.val (.int p1), .val (.int p2), .val (.int p3), .val (.int v3), .val (.int v4), .val (.int v5), .val (.int c1), .val (.int c2), .val (.ref s8), .val (.ref s9), .val (.ref cl), .val (.int v11), .val (.int v12), .val (.ref b101101), .val (.ref b107101107), .unset] [(.ref b107101143)])) rfl rfl (hb hby at_230)
  have z147 : n0 ≤ T143.heap.size := (Nat.le_trans z136 K143.1)
  obtain ⟨cq146, kq146, q146a, q146b, q146c⟩ := isOf hZ e145 R143_4
  obtain ⟨_, _, ⟨T146, L146, k146, n146⟩, -, X146, ⟨Lc146, hQ146, l146, y146, z146⟩, st146⟩ := X145.virtualBack hx (y := (⟨"com/example/rouse/rouse/shell/CommandLine$Words", "size", "()I"⟩ : MethodName)) (z := (⟨"com/example/rouse/rouse/shell/CommandLine$Words", "size", "()I"⟩ : MethodName)) hown (mvT hZ (own_w hw 114 rfl)) (mvT hZ (own_w hw 115 rfl)) (notFace_of_selects (args := #[]) (mvT hZ (own_w hw 117 rfl))) (mvT hZ (own_w hw 117 rfl)) (mvT hZ (own_w hw 116 rfl)) (by decide) (backOf (W := 0) (rm14x24 l Z a0 hw [] b107101143 T143.heap n0 z147 R143_7 R143_5) hZ (own_w hw 118 rfl) (own_w hw 88 rfl) (by decide) (by decide)) q146a q146c (g := (mkF m 237 #[.val (.int p1), .val (.int p2), .val (.int p3), .val (.int v3), .val (.int v4), .val (.int v5), .val (.int c1), .val (.int c2), .val (.ref s8), .val (.ref s9), .val (.ref cl), .val (.int v11), .val (.int v12), .val (.ref b101101), .val (.ref b107101107), .val (.ref b107101143)] [(.ref b107101143)])) rfl (by rw [hml]; rfl) (Steps.refl _) (argsL := []) (rest := []) (lenOf pd_15 rfl) rfl (by show 2 * 0 + _ ≤ _; exact Nat.le_of_eq rfl) (hb hby at_237) (fun _ _ => ⟨rfl, e145, (by decide : 20 + 0 ≤ _), (by decide : 182 + 0 ≤ _)⟩)
  dsimp only [Pt.U, Pt.locs, Pt.cells, Pt.slots] at X146 l146 y146 z146 st146 hQ146
  subst l146 y146 z146
  obtain ⟨rfl, Nq146, Heq146⟩ := hQ146
  have N146 := Fr.app N143 Nq146
  have f148 := (own_sta_keep f128 K143 (own_plS (own_pl_exa f137) own_pl0))
  have f149 := (own_sta_keep (own_sta_keep f114 K126 own_pl0) K143 (own_plS (own_pl_exa f137) own_pl0))
  have f150 := (own_sta_keep (own_sta_keep f115 K126 own_pl0) K143 (own_plS (own_pl_exa f137) own_pl0))
  have f151 := (own_sta_keep (own_sta_keep f116 K126 own_pl0) K143 (own_plS (own_pl_exa f137) own_pl0))
  have f152 := (own_sta_keep (own_sta_keep f117 K126 own_pl0) K143 (own_plS (own_pl_exa f137) own_pl0))
  have f153 := ((f118.keep K126).keep K143)
  have f154 := ((f120.keep K126 nin0).keep K143 (ninS ne119 nin0))
  have f155 := (f141.keep K143 (ninS ne119 nin0))
  have f156 := ((f123.keep K126 nin0).keep K143 (ninS ne122 nin0))
  have f157 := (f142.keep K143 (ninS ne124 nin0))
  obtain ⟨cq158, kq158, q158a, q158b, q158c⟩ := isOf hZ Heq146 R143_4
  obtain ⟨_, _, ⟨T158, L158, k158, n158⟩, -, X158, hS158', hgr158, ⟨Lc158, hQ158, l158, y158, z158, Cq158⟩, st158⟩ := X146.virtualBackS hx (y := (⟨"com/example/rouse/rouse/shell/CommandLine$Words", "get", "(I)Ljava/lang/String;"⟩ : MethodName)) (z := (⟨"com/example/rouse/rouse/shell/CommandLine$Words", "get", "(I)Ljava/lang/String;"⟩ : MethodName)) hown (mvT hZ (own_w hw 119 rfl)) (mvT hZ (own_w hw 120 rfl)) (notFace_of_selects (args := #[]) (mvT hZ (own_w hw 122 rfl))) (mvT hZ (own_w hw 122 rfl)) (mvT hZ (own_w hw 121 rfl)) (by decide) (backOfSH (W := 1) (rm15g10 l Z a0 hw [] hEL b107101143 cz sf cl cb ck x0 x1 wb wk w0 w1 v3 v5 T143.heap n0 z147 f148 H1 f149 f150 f151 f152 H6 R143_4 R143_6 R143_5 R143_7 f153 f154 f155 f156 f157 H21 H22 H23 H24 H25 H26) hZ (own_w hw 123 rfl) (own_w hw 88 rfl) (by decide) (by decide) hEL Hc144) q158a q158c (g := (mkF m 249 #[.val (.int p1), .val (.int p2), .val (.int p3), .val (.int v3), .val (.int v4), .val (.int v5), .val (.int c1), .val (.int c2), .val (.ref s8), .val (.ref s9), .val (.ref cl), .val (.int v11), .val (.int v12), .val (.ref b101101), .val (.ref b107101107), .val (.ref b107101143)] [(.int (0 : Int32)), (.ref b107101143), (.ref s9)])) rfl (by rw [hml]; rfl) (Steps.refl _) (argsL := [(.int (0 : Int32))]) (rest := [(.ref s9)]) (lenOf pd_26 rfl) rfl (by show 2 * 0 + _ ≤ _; exact Nat.le_of_eq rfl) (hb hby at_249) (fun _ _ => ⟨rfl, Heq146, (by decide : 20 + 5 ≤ _), (by decide : 182 + 12 ≤ _)⟩)
  dsimp only [Pt.U, Pt.locs, Pt.cells, Pt.slots] at X158 l158 y158 z158 st158 hQ158 hS158' hgr158 Cq158
  subst l158 y158 z158
  obtain ⟨X158, hS158, hZ, hown⟩ := rebS hS126 (by rw [Heq146]; exact (Nat.le_trans (Nat.le_refl _) K143.1)) X158 hS158' hgr158 hZ hown
  have Cr158 := Cr144.trans Cq158
  have Hc158 := Cq158.1
  have f159 := (f137.keep K143)
  have f160 := ((R107_4.keep K126).keep K143)
  have Sf158_0 := Cq158.safe f159.lt Sf144_0
  have Sf158_1 := Cq158.safe f160.lt Sf144_1
  have Sf158_2 := Cq158.safe R143_4.lt SbR143_3
  obtain ⟨x158, b158, k158, rfl, Nq158, K158, R158_1, R158_2, R158_3, R158_4⟩ := hQ158
  have N158 := Fr.app N146 Nq158
  have f161 := (own_sta_keep f148 K158 own_pl0)
  have f162 := (((((H11.keep K101).keep K107).keep K126).keep K143).keep K158)
  have ne163 : s9 ≠ b101101 := (Nat.ne_of_lt (Nat.lt_of_lt_of_le H11.lt R101_1))
  have f164 := (((((H12.keep K101 nin0).keep K107 (ninS ne163 nin0)).keep K126 nin0).keep K143 (ninS ne163 nin0)).keep K158 nin0)
  have f165 := (((((H13.keep K101 nin0).keep K107 (ninS ne163 nin0)).keep K126 nin0).keep K143 (ninS ne163 nin0)).keep K158 nin0)
  have ne166 : b9 ≠ b101101 := (Nat.ne_of_lt (Nat.lt_of_lt_of_le H14.lt R101_1))
  have f167 := (((((H14.keep K101 nin0).keep K107 (ninS ne166 nin0)).keep K126 nin0).keep K143 (ninS ne166 nin0)).keep K158 nin0)
  have z169 : n0 ≤ T158.heap.size := (Nat.le_trans z147 K158.1)
  obtain ⟨cq168, kq168, q168a, q168b, q168c⟩ := isOf hZ rfl f162
  obtain ⟨_, _, ⟨T168, L168, k168, n168⟩, -, X168, ⟨Lc168, hQ168, l168, y168, z168⟩, st168⟩ := X158.virtualBack hx (y := (⟨"java/lang/String", "equals", "(Ljava/lang/Object;)Z"⟩ : MethodName)) (z := (⟨"java/lang/String", "equals", "(Ljava/lang/Object;)Z"⟩ : MethodName)) hown (mvT hZ (own_w hw 164 rfl)) (mvT hZ (own_w hw 165 rfl)) (notFace_of_selects (args := #[]) (mvT hZ (own_w hw 167 rfl))) (mvT hZ (own_w hw 167 rfl)) (mvT hZ (own_w hw 166 rfl)) (by decide) (backOf (W := 0) (rm25g l Z a0 hw [] s9 x158 cz b9 k9 b158 k158 v5 c2 (own_at v3 x0 x1) T158.heap n0 z169 f161 H1 f162 f164 f165 f167 R158_1 R158_2 R158_3 R158_4 H24 (H30.imp_right Eq.symm)) hZ (own_w hw 168 rfl) (own_w hw 2 rfl) (by decide) (by decide)) q168a q168c (g := (mkF m 252 #[.val (.int p1), .val (.int p2), .val (.int p3), .val (.int v3), .val (.int v4), .val (.int v5), .val (.int c1), .val (.int c2), .val (.ref s8), .val (.ref s9), .val (.ref cl), .val (.int v11), .val (.int v12), .val (.ref b101101), .val (.ref b107101107), .val (.ref b107101143)] [(.ref x158), (.ref s9)])) rfl (by rw [hml]; rfl) (Steps.refl _) (argsL := [(.ref x158)]) (rest := []) (lenOf pd_27 rfl) rfl (by show 2 * 0 + _ ≤ _; exact Nat.le_of_eq rfl) (hb hby at_252) (fun _ _ => ⟨rfl, rfl, (by decide : 25 + 0 ≤ _), (by decide : 194 + 0 ≤ _)⟩)
  dsimp only [Pt.U, Pt.locs, Pt.cells, Pt.slots] at X168 l168 y168 z168 st168 hQ168
  subst l168 y168 z168
  obtain ⟨rfl, Nq168, Heq168⟩ := hQ168
  have N168 := Fr.app N158 Nq168
  have f170 := (R143_1.keep K158 nin0)
  have f171 := (R143_2.keep K158 nin0)
  have f172 := ((f140.keep K143 (ninS ne119 nin0)).keep K158 nin0)
  have f174 := (f159.keep K158)
  obtain ⟨cq173, kq173, q173a, q173b, q173c⟩ := isOf hZ Heq168 f174
  obtain ⟨_, _, ⟨T173, L173, k173, n173⟩, -, X173, ⟨Lc173, hQ173, l173, y173, z173⟩, st173⟩ := X168.interfaceBack hx (xi := (⟨"java/util/Iterator", "hasNext", "()Z"⟩ : MethodName)) (y := (⟨"com/example/rouse/rouse/shell/CommandLine$1", "hasNext", "()Z"⟩ : MethodName)) hown (mvT hZ (own_w hw 176 rfl)) (mvT hZ (own_w hw 177 rfl)) (mvT hZ (own_w hw 178 rfl)) (mvT hZ (own_w hw 179 rfl)) (mvT hZ (own_w hw 79 rfl)) (mvT hZ (own_w hw 180 rfl)) (mvT hZ (own_w hw 181 rfl)) (mvT hZ (own_w hw 70 rfl)) (by decide) (backOf (W := 0) (rm10x36 l Z a0 hw [] b101101 cl T158.heap n0 z169 f170 f171 f172) hZ (own_w hw 81 rfl) (own_w hw 56 rfl) (by decide) (by decide)) q173a q173b q173c (g := (mkF m 304 #[.val (.int p1), .val (.int p2), .val (.int p3), .val (.int v3), .val (.int v4), .val (.int v5), .val (.int c1), .val (.int c2), .val (.ref s8), .val (.ref s9), .val (.ref cl), .val (.int v11), .val (.int v12), .val (.ref b101101), .val (.ref b107101107), .val (.ref b107101143)] [(.ref b101101)])) rfl (by rw [hml]; rfl) (Steps.refl _) (argsL := []) (rest := []) (lenOf pd_22 rfl) rfl (by show 2 * 0 + _ ≤ _; exact Nat.le_of_eq rfl) (hb hby at_304) (fun _ _ => ⟨rfl, Heq168, (by decide : 25 + 0 ≤ _), (by decide : 194 + 0 ≤ _)⟩)
  dsimp only [Pt.U, Pt.locs, Pt.cells, Pt.slots] at X173 l173 y173 z173 st173 hQ173
  subst l173 y173 z173
  obtain ⟨rfl, Nq173, Heq173⟩ := hQ173
  have N173 := Fr.app N168 Nq173
  obtain ⟨fs, hr, hrun, hended, hEnd⟩ := X173.leaveW hS158 (by rw [Heq173]; exact (Nat.le_refl _)) (v := some (.int (1 : Int32))) (fun h => by rw [Bd.returns] at h; cases h)
  refine ⟨_, _, pre0 _ ?_, hrun, hended, _, _, rfl, ?_, (show CHr Z own_EL s.vm s.heap T173.vm T173.heap from by rw [hh, Heq173]; exact Cr158.trans (CHv.at X173 hZ hEL Hc158)), hEnd.1, hEnd.2.1, hEnd.2.2.1, hEnd.2.2.2.mono (by decide) (by decide)⟩
  · skip
    show Steps p.tables e below (T.setTop (mkF m 174 #[.val (.int p1), .val (.int p2), .val (.int p3), .val (.int v3), .val (.int v4), .val (.int v5), .val (.int c1), .val (.int c2), .val (.ref s8), .val (.ref s9), .val (.ref cl), .val (.int v11), .val (.int v12), .unset, .unset, .unset] [])) _
    refine XS.aload X0.here hx rfl (hb hby at_174) rfl rfl ?_
    show Steps p.tables e below (T.setTop (mkF m 176 #[.val (.int p1), .val (.int p2), .val (.int p3), .val (.int v3), .val (.int v4), .val (.int v5), .val (.int c1), .val (.int c2), .val (.ref s8), .val (.ref s9), .val (.ref cl), .val (.int v11), .val (.int v12), .unset, .unset, .unset] [(.ref cl)])) _
    refine st101.trans ?_
    show Steps p.tables e below (T101.setTop (mkF m 179 #[.val (.int p1), .val (.int p2), .val (.int p3), .val (.int v3), .val (.int v4), .val (.int v5), .val (.int c1), .val (.int c2), .val (.ref s8), .val (.ref s9), .val (.ref cl), .val (.int v11), .val (.int v12), .unset, .unset, .unset] [(.ref b101101)])) _
    refine XS.astore X101.here hx rfl (hb hby at_179) rfl rfl (l' := #[.val (.int p1), .val (.int p2), .val (.int p3), .val (.int v3), .val (.int v4), .val (.int v5), .val (.int c1), .val (.int c2), .val (.ref s8), .val (.ref s9), .val (.ref cl), .val (.int v11), .val (.int v12), .val (.ref b101101), .unset, .unset]) rfl ?_
    refine XS.aload X101.here hx rfl (hb hby at_181) rfl rfl ?_
    show Steps p.tables e below (T101.setTop (mkF m 183 #[.val (.int p1), .val (.int p2), .val (.int p3), .val (.int v3), .val (.int v4), .val (.int v5), .val (.int c1), .val (.int c2), .val (.ref s8), .val (.ref s9), .val (.ref cl), .val (.int v11), .val (.int v12), .val (.ref b101101), .unset, .unset] [(.ref b101101)])) _
    refine st107.trans ?_
    show Steps p.tables e below (T107.setTop (mkF m 188 #[.val (.int p1), .val (.int p2), .val (.int p3), .val (.int v3), .val (.int v4), .val (.int v5), .val (.int c1), .val (.int c2), .val (.ref s8), .val (.ref s9), .val (.ref cl), .val (.int v11), .val (.int v12), .val (.ref b101101), .unset, .unset] [(.ref b107101107)])) _
    refine st110 _ ?_
    refine XS.astore X110.here hx rfl (hb hby at_191) rfl rfl (l' := #[.val (.int p1), .val (.int p2), .val (.int p3), .val (.int v3), .val (.int v4), .val (.int v5), .val (.int c1), .val (.int c2), .val (.ref s8), .val (.ref s9), .val (.ref cl), .val (.int v11), .val (.int v12), .val (.ref b101101), .val (.ref b107101107), .unset]) rfl ?_
    refine XS.iload X110.here hx rfl (hb hby at_193) rfl ?_
    refine XS.ifNo X110.here hx rfl (hb hby at_195) rfl ((if0 _ _).trans (feq (H31 : ¬ (v4 = (0 : Int32)))).1) ?_
    refine XS.aload X110.here hx rfl (hb hby at_198) rfl rfl ?_
    show Steps p.tables e below (T110.setTop (mkF m 200 #[.val (.int p1), .val (.int p2), .val (.int p3), .val (.int v3), .val (.int v4), .val (.int v5), .val (.int c1), .val (.int c2), .val (.ref s8), .val (.ref s9), .val (.ref cl), .val (.int v11), .val (.int v12), .val (.ref b101101), .val (.ref b107101107), .unset] [(.ref b107101107)])) _
    refine st111.trans ?_
    show Steps p.tables e below (T111.setTop (mkF m 203 #[.val (.int p1), .val (.int p2), .val (.int p3), .val (.int v3), .val (.int v4), .val (.int v5), .val (.int c1), .val (.int c2), .val (.ref s8), .val (.ref s9), .val (.ref cl), .val (.int v11), .val (.int v12), .val (.ref b101101), .val (.ref b107101107), .unset] [(.int (1 : Int32))])) _
    refine XS.iconst X111.here hx rfl (hb hby at_203) ?_
    refine XS.icmpNo X111.here hx rfl (hb hby at_204) rfl (teq (by decide : (1 : Int32) = (1 : Int32))).2 ?_
    refine XS.aload X111.here hx rfl (hb hby at_207) rfl rfl ?_
    refine XS.aload X111.here hx rfl (hb hby at_209) rfl rfl ?_
    refine XS.iconst X111.here hx rfl (hb hby at_211) ?_
    show Steps p.tables e below (T111.setTop (mkF m 212 #[.val (.int p1), .val (.int p2), .val (.int p3), .val (.int v3), .val (.int v4), .val (.int v5), .val (.int c1), .val (.int c2), .val (.ref s8), .val (.ref s9), .val (.ref cl), .val (.int v11), .val (.int v12), .val (.ref b101101), .val (.ref b107101107), .unset] [(.int (0 : Int32)), (.ref b107101107), (.ref s8)])) _
    refine st126.trans ?_
    show Steps p.tables e below (T126.setTop (mkF m 215 #[.val (.int p1), .val (.int p2), .val (.int p3), .val (.int v3), .val (.int v4), .val (.int v5), .val (.int c1), .val (.int c2), .val (.ref s8), .val (.ref s9), .val (.ref cl), .val (.int v11), .val (.int v12), .val (.ref b101101), .val (.ref b107101107), .unset] [(.ref x126), (.ref s8)])) _
    refine st135.trans ?_
    show Steps p.tables e below (T135.setTop (mkF m 218 #[.val (.int p1), .val (.int p2), .val (.int p3), .val (.int v3), .val (.int v4), .val (.int v5), .val (.int c1), .val (.int c2), .val (.ref s8), .val (.ref s9), .val (.ref cl), .val (.int v11), .val (.int v12), .val (.ref b101101), .val (.ref b107101107), .unset] [(.int (1 : Int32))])) _
    refine XS.ifYes X135.here hx rfl (pc0 := 218) (pc' := 223) rfl (hb hby at_218) rfl ((if0 _ _).trans (feq (by decide : ¬ ((1 : Int32) = (0 : Int32)))).2) (by decide) (by decide) ?_
    refine XS.aload X135.here hx rfl (hb hby at_223) rfl rfl ?_
    show Steps p.tables e below (T135.setTop (mkF m 225 #[.val (.int p1), .val (.int p2), .val (.int p3), .val (.int v3), .val (.int v4), .val (.int v5), .val (.int c1), .val (.int c2), .val (.ref s8), .val (.ref s9), .val (.ref cl), .val (.int v11), .val (.int v12), .val (.ref b101101), .val (.ref b107101107), .unset] [(.ref b101101)])) _
    refine st143.trans ?_
    show Steps p.tables e below (T143.setTop (mkF m 230 #[.val (.int p1), .val (.int p2), .val (.int p3), .val (.int v3), .val (.int v4), .val (.int v5), .val (.int c1), .val (.int c2), .val (.ref s8), .val (.ref s9), .val (.ref cl), .val (.int v11), .val (.int v12), .val (.ref b101101), .val (.ref b107101107), .unset] [(.ref b107101143)])) _
    refine st145 _ ?_
    refine XS.astore X145.here hx rfl (hb hby at_233) rfl rfl (l' := #[.val (.int p1), .val (.int p2), .val (.int p3), .val (.int v3), .val (.int v4), .val (.int v5), .val (.int c1), .val (.int c2), .val (.ref s8), .val (.ref s9), .val (.ref cl), .val (.int v11), .val (.int v12), .val (.ref b101101), .val (.ref b107101107), .val (.ref b107101143)]) rfl ?_
    refine XS.aload X145.here hx rfl (hb hby at_235) rfl rfl ?_
    show Steps p.tables e below (T145.setTop (mkF m 237 #[.val (.int p1), .val (.int p2), .val (.int p3), .val (.int v3), .val (.int v4), .val (.int v5), .val (.int c1), .val (.int c2), .val (.ref s8), .val (.ref s9), .val (.ref cl), .val (.int v11), .val (.int v12), .val (.ref b101101), .val (.ref b107101107), .val (.ref b107101143)] [(.ref b107101143)])) _
    refine st146.trans ?_
    show Steps p.tables e below (T146.setTop (mkF m 240 #[.val (.int p1), .val (.int p2), .val (.int p3), .val (.int v3), .val (.int v4), .val (.int v5), .val (.int c1), .val (.int c2), .val (.ref s8), .val (.ref s9), .val (.ref cl), .val (.int v11), .val (.int v12), .val (.ref b101101), .val (.ref b107101107), .val (.ref b107101143)] [(.int (1 : Int32))])) _
    refine XS.iconst X146.here hx rfl (hb hby at_240) ?_
    refine XS.icmpNo X146.here hx rfl (hb hby at_241) rfl (teq (by decide : (1 : Int32) = (1 : Int32))).2 ?_
    refine XS.aload X146.here hx rfl (hb hby at_244) rfl rfl ?_
    refine XS.aload X146.here hx rfl (hb hby at_246) rfl rfl ?_
    refine XS.iconst X146.here hx rfl (hb hby at_248) ?_
    show Steps p.tables e below (T146.setTop (mkF m 249 #[.val (.int p1), .val (.int p2), .val (.int p3), .val (.int v3), .val (.int v4), .val (.int v5), .val (.int c1), .val (.int c2), .val (.ref s8), .val (.ref s9), .val (.ref cl), .val (.int v11), .val (.int v12), .val (.ref b101101), .val (.ref b107101107), .val (.ref b107101143)] [(.int (0 : Int32)), (.ref b107101143), (.ref s9)])) _
    refine st158.trans ?_
    show Steps p.tables e below (T158.setTop (mkF m 252 #[.val (.int p1), .val (.int p2), .val (.int p3), .val (.int v3), .val (.int v4), .val (.int v5), .val (.int c1), .val (.int c2), .val (.ref s8), .val (.ref s9), .val (.ref cl), .val (.int v11), .val (.int v12), .val (.ref b101101), .val (.ref b107101107), .val (.ref b107101143)] [(.ref x158), (.ref s9)])) _
    refine st168.trans ?_
    show Steps p.tables e below (T168.setTop (mkF m 255 #[.val (.int p1), .val (.int p2), .val (.int p3), .val (.int v3), .val (.int v4), .val (.int v5), .val (.int c1), .val (.int c2), .val (.ref s8), .val (.ref s9), .val (.ref cl), .val (.int v11), .val (.int v12), .val (.ref b101101), .val (.ref b107101107), .val (.ref b107101143)] [(.int (1 : Int32))])) _
    refine XS.ifYes X168.here hx rfl (pc0 := 255) (pc' := 260) rfl (hb hby at_255) rfl ((if0 _ _).trans (feq (by decide : ¬ ((1 : Int32) = (0 : Int32)))).2) (by decide) (by decide) ?_
    refine XS.goto X168.here hx rfl (pc0 := 260) (pc' := 302) rfl (hb hby at_260) (by decide) (by decide) ?_
    refine XS.aload X168.here hx rfl (hb hby at_302) rfl rfl ?_
    show Steps p.tables e below (T168.setTop (mkF m 304 #[.val (.int p1), .val (.int p2), .val (.int p3), .val (.int v3), .val (.int v4), .val (.int v5), .val (.int c1), .val (.int c2), .val (.ref s8), .val (.ref s9), .val (.ref cl), .val (.int v11), .val (.int v12), .val (.ref b101101), .val (.ref b107101107), .val (.ref b107101143)] [(.ref b101101)])) _
    refine st173.trans ?_
    show Steps p.tables e below (T173.setTop (mkF m 309 #[.val (.int p1), .val (.int p2), .val (.int p3), .val (.int v3), .val (.int v4), .val (.int v5), .val (.int c1), .val (.int c2), .val (.ref s8), .val (.ref s9), .val (.ref cl), .val (.int v11), .val (.int v12), .val (.ref b101101), .val (.ref b107101107), .val (.ref b107101143)] [(.int (0 : Int32))])) _
    refine XS.ifNo X173.here hx rfl (hb hby at_309) rfl ((if0 _ _).trans (teq (by decide : (0 : Int32) = (0 : Int32))).2) ?_
    refine XS.iconst X173.here hx rfl (hb hby at_312) ?_
    refine XS.goto X173.here hx rfl (pc0 := 313) (pc' := 317) rfl (hb hby at_313) (by decide) (by decide) ?_
    show Steps p.tables e below (T173.setTop (mkF m 317 #[.val (.int p1), .val (.int p2), .val (.int p3), .val (.int v3), .val (.int v4), .val (.int v5), .val (.int c1), .val (.int c2), .val (.ref s8), .val (.ref s9), .val (.ref cl), .val (.int v11), .val (.int v12), .val (.ref b101101), .val (.ref b107101107), .val (.ref b107101143)] [(.int (1 : Int32))])) _
    exact retN X173 hx (t := .boolean) Bd.returns (by simp) (hb hby at_317) hr
  · show Q0 Z p1 p2 p3 cz sf hs n0 _ T173.heap _
    rw [Heq173]
    exact ⟨rfl, N173⟩
theorem d5_0 : decode prog_64_method_4_code 0 = .ok (.aload_n 0, 1) := by decide +kernel
theorem d5_1 : decode prog_64_method_4_code 1 = .ok (.getfield 39, 3) := by decide +kernel
theorem d5_4 : decode prog_64_method_4_code 4 = .ok (.aload_n 0, 1) := by decide +kernel
theorem d5_5 : decode prog_64_method_4_code 5 = .ok (.getfield 45, 3) := by decide +kernel
theorem d5_8 : decode prog_64_method_4_code 8 = .ok (.if_icmp .le 7, 3) := by decide +kernel
theorem d5_15 : decode prog_64_method_4_code 15 = .ok (.iconst 0, 1) := by decide +kernel
theorem d5_16 : decode prog_64_method_4_code 16 = .ok (.ireturn, 1) := by decide +kernel
theorem ef_5x48 (m : MethodId) (ra0 : Addr) : entryFrame m #[(.ref ra0)] 1 = mkF m 0 #[.val (.ref ra0)] [] := by first | (simp [entryFrame, mkF, argsToLocals, Value.category]; done) | rfl
def Q5x48 (Z : State) (ra0 : Addr) (h0 : Heap) (n0 : Nat) (v : Option Value) (h : Heap) (L : List Loc) : Prop := v = some (.int (0 : Int32)) ∧ Fr n0 L ∧ h = h0
set_option maxRecDepth 65536 in
set_option maxHeartbeats 40000000 in
theorem rm5x48 (l : Launch) (Z : State) (a0 : Array Value) (hw : ∀ d ∈ tables_1, d.before a0 Z = true) (ws : List Jvm.Cond) (ra0 : Addr) (h0 : Heap) (n0 : Nat) (Z0 : n0 ≤ h0.size) (H0 : Fld Z h0 ra0 "com/example/rouse/rouse/shell/CommandLine" "words" "I" (.int (2 : Int32))) (H1 : Fld Z h0 ra0 "com/example/rouse/rouse/shell/CommandLine" "commandStart" "I" (.int (2 : Int32))) :
    own_MF l (⟨"com/example/rouse/rouse/shell/CommandLine", "commandHasWords", "()Z"⟩ : MethodName) (Jvm.Cond.code (⟨"com/example/rouse/rouse/shell/CommandLine", "commandHasWords", "()Z"⟩ : MethodName) prog_64_method_4_code 1 (some .boolean) :: ws) ({ frames := 0, cells := 0, slots := 0, locals := 0 } : Room) #[(.ref ra0)] Z h0 (Q5x48 Z ra0 h0 n0) := by
  refine MetFree.of_bodySF (plainFor_of_name pn_com_example_rouse_rouse_shell_CommandLine) hisR ?_
  intro p e s m args below meth c s₁ Bd hml0 hP hK
  obtain ⟨rfl, hZ, hh⟩ := hP
  have hx := Bd.exec
  have hby := Bd.bytes
  have hml : c.maxLocals = 1 := hml0
  have hown : s.vm.findClass "com/example/rouse/rouse/shell/CommandLine" = some m.cls := findClass_of_methodNamed Bd.named
  have hnm := (name_of_methodNamed Bd.named Bd.method).1
  have X0 : Stand p l e ({ frames := 0, cells := 0, slots := 0, locals := 0 } : Room) s m #[(.ref ra0)] below meth c s₁ [] 0 0 := Stand.of_body Bd
  have e0 : s₁.heap = h0 := by rw [← hh, Bd.state]; rfl
  have N0 := Fr.nil n0
  have pre0 : ∀ t, Steps p.tables e below (s₁.setTop (mkF m 0 #[.val (.ref ra0)] [])) t → Steps p.tables e below (s₁.setTop (entryFrame m #[(.ref ra0)] 1)) t := fun t k => castTop (ef_5x48 m ra0) k
  obtain ⟨T101, X101, e101, st101⟩ := getF X0 hx hZ hown (host := "") (Or.inl (own_w hw 33 rfl)) Via.refl e0 H0 (g := (mkF m 1 #[.val (.ref ra0)] [(.ref ra0)])) rfl rfl (hb hby d5_1)
  obtain ⟨T102, X102, e102, st102⟩ := getF X101 hx hZ hown (host := "") (Or.inl (own_w hw 42 rfl)) Via.refl e101 H1 (g := (mkF m 5 #[.val (.ref ra0)] [(.ref ra0), (.int (2 : Int32))])) rfl rfl (hb hby d5_5)
  obtain ⟨fs, hr, hrun, hended, hW, hsame⟩ := X102.leave (v := some (.int (0 : Int32))) (fun h => by rw [Bd.returns] at h; cases h)
  refine ⟨_, _, pre0 _ ?_, hrun, hended, _, _, rfl, ?_, ⟨_, rfl⟩, hW, hsame.mono (by decide) (by decide)⟩
  · skip
    show Steps p.tables e below (s₁.setTop (mkF m 0 #[.val (.ref ra0)] [])) _
    refine XS.aloadN X0.here hx rfl (hb hby d5_0) rfl rfl ?_
    refine st101 _ ?_
    refine XS.aloadN X101.here hx rfl (hb hby d5_4) rfl rfl ?_
    refine st102 _ ?_
    refine XS.icmpYes X102.here hx rfl (pc0 := 8) (pc' := 15) rfl (hb hby d5_8) rfl (flt (by decide : ¬ ((2 : Int32) < (2 : Int32)))).2.2.2 (by decide) (by decide) ?_
    refine XS.iconst X102.here hx rfl (hb hby d5_15) ?_
    show Steps p.tables e below (T102.setTop (mkF m 16 #[.val (.ref ra0)] [(.int (0 : Int32))])) _
    exact retN X102 hx (t := .boolean) Bd.returns (by simp) (hb hby d5_16) hr
  · show Q5x48 Z ra0 h0 n0 _ T102.heap _
    rw [e102]
    exact ⟨rfl, N0, rfl⟩
set_option maxRecDepth 65536 in
set_option maxHeartbeats 40000000 in
theorem tl_C (l : Launch) (Z : State) (a0 : Array Value) (hw : ∀ d ∈ tables_1, d.before a0 Z = true) (ws : List Jvm.Cond) (hEL : EW Z a0 own_EL) (p1 : Int32) (p2 : Int32) (p3 : Int32) (cz : Int32) (sf : Value) (v3 : Int32) (v4 : Int32) (v5 : Int32) (c1 : Int32) (c2 : Int32) (s8 : Addr) (s9 : Addr) (b8 : Addr) (k8 : ClassId) (b9 : Addr) (k9 : ClassId) (cl : Addr) (cb : Addr) (ck : ClassId) (x0 : Int32) (x1 : Int32) (wb : Addr) (wk : ClassId) (w0 : Int32) (w1 : Int32) (cs : Int32) (v11 : Int32) (hs : Heap) (n0 : Nat) (h0 : Heap) (Z0 : n0 ≤ h0.size) (H0 : Sta Z h0 "java/lang/String" "COMPACT_STRINGS" "Z" (.int cz)) (H1 : ¬ (cz = (0 : Int32))) (H2 : Sta Z h0 "java/lang/StringUTF16" "$assertionsDisabled" "Z" (.int (1 : Int32))) (H3 : Sta Z h0 "java/lang/StringUTF16" "HI_BYTE_SHIFT" "I" (.int (0 : Int32))) (H4 : Sta Z h0 "java/lang/StringUTF16" "LO_BYTE_SHIFT" "I" (.int (8 : Int32))) (H5 : Sta Z h0 "jdk/internal/util/Preconditions" "SIOOBE_FORMATTER" "Ljava/util/function/BiFunction;" sf) (H6 : sf.category = 1) (H7 : Exa Z h0 s8 "java/lang/String") (H8 : Fld Z h0 s8 "java/lang/String" "coder" "B" (.int (own_cd v3 c1))) (H9 : Fld Z h0 s8 "java/lang/String" "value" "[B" (.ref b8)) (H10 : Arv Z h0 b8 k8 .byte (own_bn v3 c1) (own_bs v3 c1) (.int (0 : Int32))) (H11 : Exa Z h0 s9 "java/lang/String") (H12 : Fld Z h0 s9 "java/lang/String" "coder" "B" (.int (own_cd v5 c2))) (H13 : Fld Z h0 s9 "java/lang/String" "value" "[B" (.ref b9)) (H14 : Arv Z h0 b9 k9 .byte (own_bn v5 c2) (own_bs v5 c2) (.int (0 : Int32))) (H15 : Exa Z h0 cl "com/example/rouse/rouse/shell/CommandLine") (H16 : Fld Z h0 cl "com/example/rouse/rouse/shell/CommandLine" "words" "I" (.int (1 : Int32))) (H17 : Fld Z h0 cl "com/example/rouse/rouse/shell/CommandLine" "commandStart" "I" (.int cs)) (H18 : Fld Z h0 cl "com/example/rouse/rouse/shell/CommandLine" "length" "I" (.int v3)) (H19 : Fld Z h0 cl "com/example/rouse/rouse/shell/CommandLine" "characters" "[C" (.ref cb)) (H20 : Fld Z h0 cl "com/example/rouse/rouse/shell/CommandLine" "wordEnds" "[I" (.ref wb)) (H21 : Arv Z h0 cb ck .char (16 : Int32) (own_zl (.int x0) (.int x1)) (.int (0 : Int32))) (H22 : Arv Z h0 wb wk .int (16 : Int32) (own_zl (.int w0) (.int w1)) (.int (0 : Int32))) (H23 : n0 ≤ cl) (H24 : n0 ≤ cb) (H25 : n0 ≤ wb) (H26 : cb ≠ wb) (H27 : own_chr x0) (H28 : own_chr x1) (H29 : own_chr c2) (H30 : own_01 v3) (H31 : own_01 v5) (H32 : own_we w0 = v3) (H33 : own_sg v4 w0) (H34 : ¬ (v11 = v4)) (H35 : own_tx v3 x0 c1) {p : Program} {e : Env} {s : State} {m : MethodId} {below : List Frame} {meth : Method} {c : Code} {s₁ : State} (Bd : BodyLoose p l x (head1 (Jvm.Cond.code x code maxLocals ret :: ws) room_1) code maxLocals ret e s m #[(.int p1), (.int p2), (.int p3)] below meth c s₁) (hml : c.maxLocals = 16) (hh : s.heap = hs) {vm0 : Vm} {T : State} {locs : List Loc} {k0 : Nat} (hZ : Z.Warmed39 (s.setVm vm0).vm) (hown : (s.setVm vm0).vm.findClass "com/example/rouse/rouse/shell/CommandLineEndCommandPinLaw" = some m.cls) (X0 : Stand p l e room_1 (s.setVm vm0) m #[(.int p1), (.int p2), (.int p3)] below meth c T locs 12 160) (N0 : Fr n0 locs) (e0 : T.heap = h0) (hS0 : s.Since vm0 k0) (hk0 : k0 ≤ h0.size) (hH : CHv Z own_EL vm0 h0) (Cr0 : CHr Z own_EL s.vm hs vm0 h0) (pre0 : ∀ t, Steps p.tables e below (T.setTop (mkF m 131 #[.val (.int p1), .val (.int p2), .val (.int p3), .val (.int v3), .val (.int v4), .val (.int v5), .val (.int c1), .val (.int c2), .val (.ref s8), .val (.ref s9), .val (.ref cl), .val (.int v11), .unset, .unset, .unset, .unset] [])) t → Steps p.tables e below (s₁.setTop (entryFrame m #[(.int p1), (.int p2), (.int p3)] maxLocals)) t) :
    ∃ s₂ o, Steps p.tables e below (s₁.setTop (entryFrame m #[(.int p1), (.int p2), (.int p3)] maxLocals)) s₂ ∧ s₂.status = .running ∧ Ended s₂ below o ∧ ∃ v L, o = .returned v ∧ Q0 Z p1 p2 p3 cz sf hs n0 v s₂.heap L ∧ CHr Z own_EL s.vm s.heap s₂.vm s₂.heap ∧ ReturnedEndW s o s₂ L room_1.cells room_1.slots := by
  have hx := Bd.exec
  have hby := Bd.bytes
  have hnm := (name_of_methodNamed Bd.named Bd.method).1
  have pre101 : ∀ t, Steps p.tables e below (T.setTop (mkF m 133 #[.val (.int p1), .val (.int p2), .val (.int p3), .val (.int v3), .val (.int v4), .val (.int v5), .val (.int c1), .val (.int c2), .val (.ref s8), .val (.ref s9), .val (.ref cl), .val (.int v11), .unset, .unset, .unset, .unset] [(.int v5)])) t → Steps p.tables e below (s₁.setTop (entryFrame m #[(.int p1), (.int p2), (.int p3)] maxLocals)) t := fun t kt => by
    refine pre0 t ?_
    show Steps p.tables e below (T.setTop (mkF m 131 #[.val (.int p1), .val (.int p2), .val (.int p3), .val (.int v3), .val (.int v4), .val (.int v5), .val (.int c1), .val (.int c2), .val (.ref s8), .val (.ref s9), .val (.ref cl), .val (.int v11), .unset, .unset, .unset, .unset] [])) _
    refine XS.iload X0.here hx rfl (hb hby at_131) rfl ?_
    show Steps p.tables e below (T.setTop (mkF m 133 #[.val (.int p1), .val (.int p2), .val (.int p3), .val (.int v3), .val (.int v4), .val (.int v5), .val (.int c1), .val (.int c2), .val (.ref s8), .val (.ref s9), .val (.ref cl), .val (.int v11), .unset, .unset, .unset, .unset] [(.int v5)])) _
    exact kt
  by_cases hc133_102 : v5 = (0 : Int32)
  · skip
    obtain ⟨cq103, kq103, q103a, q103b, q103c⟩ := isOf hZ e0 H15
    obtain ⟨_, _, ⟨T103, L103, k103, n103⟩, -, X103, ⟨Lc103, hQ103, l103, y103, z103⟩, st103⟩ := X0.virtualBack hx (y := (⟨"com/example/rouse/rouse/shell/CommandLine", "endWord", "()V"⟩ : MethodName)) (z := (⟨"com/example/rouse/rouse/shell/CommandLine", "endWord", "()V"⟩ : MethodName)) hown (mvT hZ (own_w hw 28 rfl)) (mvT hZ (own_w hw 29 rfl)) (notFace_of_selects (args := #[]) (mvT hZ (own_w hw 31 rfl))) (mvT hZ (own_w hw 31 rfl)) (mvT hZ (own_w hw 30 rfl)) (by decide) (backOf (W := 0) (rm3k1 l Z a0 hw [] cl cb wb wk w0 w1 cs v3 h0 n0 Z0 H15 H16 H17 H18 H19 H20 H22 H23 H25) hZ (own_w hw 32 rfl) (own_w hw 11 rfl) (by decide) (by decide)) q103a q103c (g := (mkF m 145 #[.val (.int p1), .val (.int p2), .val (.int p3), .val (.int v3), .val (.int v4), .val (.int v5), .val (.int c1), .val (.int c2), .val (.ref s8), .val (.ref s9), .val (.ref cl), .val (.int v11), .unset, .unset, .unset, .unset] [(.ref cl)])) rfl (by rw [hml]; rfl) (Steps.refl _) (argsL := []) (rest := []) (lenOf pd_14 rfl) rfl (by show 2 * 0 + _ ≤ _; exact Nat.le_of_eq rfl) (hb hby at_145) (fun _ _ => ⟨rfl, e0, (by decide : 12 + 0 ≤ _), (by decide : 160 + 0 ≤ _)⟩)
    dsimp only [Pt.U, Pt.locs, Pt.cells, Pt.slots] at X103 l103 y103 z103 st103 hQ103
    subst l103 y103 z103
    obtain ⟨rfl, Nq103, K103, R103_1, R103_2, R103_3, R103_4, R103_5, R103_6⟩ := hQ103
    have N103 := Fr.app N0 Nq103
    have hs104 : ∀ x ∈ ([cl, wb] : List Addr), Safe Z own_EL vm0 h0 x := (allS (P := fun x => Safe Z own_EL vm0 h0 x) (Safe.exa hZ.alike H15 (by decide) (by decide)) (allS (P := fun x => Safe Z own_EL vm0 h0 x) (own_safe_arv hZ.alike H22 (by decide)) (all0 (P := fun x => Safe Z own_EL vm0 h0 x))))
    have Hc104 := CHv.keep K103 hs104 hH
    have Cr104 := Cr0.trans (CHr.keep K103 hs104 hH)
    have f105 := (H15.keep K103)
    have z107 : n0 ≤ T103.heap.size := (Nat.le_trans Z0 K103.1)
    obtain ⟨cq106, kq106, q106a, q106b, q106c⟩ := isOf hZ rfl f105
    obtain ⟨_, _, ⟨T106, L106, k106, n106⟩, -, X106, ⟨Lc106, hQ106, l106, y106, z106⟩, st106⟩ := X103.virtualBack hx (y := (⟨"com/example/rouse/rouse/shell/CommandLine", "endCommand", "()V"⟩ : MethodName)) (z := (⟨"com/example/rouse/rouse/shell/CommandLine", "endCommand", "()V"⟩ : MethodName)) hown (mvT hZ (own_w hw 37 rfl)) (mvT hZ (own_w hw 38 rfl)) (notFace_of_selects (args := #[]) (mvT hZ (own_w hw 40 rfl))) (mvT hZ (own_w hw 40 rfl)) (mvT hZ (own_w hw 39 rfl)) (by decide) (backOf (W := 0) (rm4k1 l Z a0 hw [] cl cb wb wk w0 v3 cs v3 T103.heap n0 z107 f105 R103_1 R103_2 R103_3 R103_4 R103_5 R103_6 H23 H25) hZ (own_w hw 41 rfl) (own_w hw 11 rfl) (by decide) (by decide)) q106a q106c (g := (mkF m 150 #[.val (.int p1), .val (.int p2), .val (.int p3), .val (.int v3), .val (.int v4), .val (.int v5), .val (.int c1), .val (.int c2), .val (.ref s8), .val (.ref s9), .val (.ref cl), .val (.int v11), .unset, .unset, .unset, .unset] [(.ref cl)])) rfl (by rw [hml]; rfl) (Steps.refl _) (argsL := []) (rest := []) (lenOf pd_14 rfl) rfl (by show 2 * 0 + _ ≤ _; exact Nat.le_of_eq rfl) (hb hby at_150) (fun _ _ => ⟨rfl, rfl, (by decide : 12 + 0 ≤ _), (by decide : 160 + 0 ≤ _)⟩)
    dsimp only [Pt.U, Pt.locs, Pt.cells, Pt.slots] at X106 l106 y106 z106 st106 hQ106
    subst l106 y106 z106
    obtain ⟨rfl, Nq106, K106, R106_1, R106_2, R106_3, R106_4, R106_5, R106_6⟩ := hQ106
    have N106 := Fr.app N103 Nq106
    have hs108 : ∀ x ∈ ([cl, wb] : List Addr), Safe Z own_EL vm0 T103.heap x := (allS (P := fun x => Safe Z own_EL vm0 T103.heap x) (Safe.exa hZ.alike f105 (by decide) (by decide)) (allS (P := fun x => Safe Z own_EL vm0 T103.heap x) (own_safe_arv hZ.alike R103_6 (by decide)) (all0 (P := fun x => Safe Z own_EL vm0 T103.heap x))))
    have Hc108 := CHv.keep K106 hs108 Hc104
    have Cr108 := Cr104.trans (CHr.keep K106 hs108 Hc104)
    have z110 : n0 ≤ T106.heap.size := (Nat.le_trans z107 K106.1)
    have f111 := (f105.keep K106)
    obtain ⟨cq109, kq109, q109a, q109b, q109c⟩ := isOf hZ rfl f111
    obtain ⟨_, _, ⟨T109, L109, k109, n109⟩, -, X109, ⟨Lc109, hQ109, l109, y109, z109⟩, st109⟩ := X106.virtualBack hx (y := (⟨"com/example/rouse/rouse/shell/CommandLine", "commandHasWords", "()Z"⟩ : MethodName)) (z := (⟨"com/example/rouse/rouse/shell/CommandLine", "commandHasWords", "()Z"⟩ : MethodName)) hown (mvT hZ (own_w hw 44 rfl)) (mvT hZ (own_w hw 45 rfl)) (notFace_of_selects (args := #[]) (mvT hZ (own_w hw 47 rfl))) (mvT hZ (own_w hw 47 rfl)) (mvT hZ (own_w hw 46 rfl)) (by decide) (backOf (W := 0) (rm5x48 l Z a0 hw [] cl T106.heap n0 z110 R106_1 R106_2) hZ (own_w hw 48 rfl) (own_w hw 11 rfl) (by decide) (by decide)) q109a q109c (g := (mkF m 155 #[.val (.int p1), .val (.int p2), .val (.int p3), .val (.int v3), .val (.int v4), .val (.int v5), .val (.int c1), .val (.int c2), .val (.ref s8), .val (.ref s9), .val (.ref cl), .val (.int v11), .unset, .unset, .unset, .unset] [(.ref cl)])) rfl (by rw [hml]; rfl) (Steps.refl _) (argsL := []) (rest := []) (lenOf pd_22 rfl) rfl (by show 2 * 0 + _ ≤ _; exact Nat.le_of_eq rfl) (hb hby at_155) (fun _ _ => ⟨rfl, rfl, (by decide : 12 + 0 ≤ _), (by decide : 160 + 0 ≤ _)⟩)
    dsimp only [Pt.U, Pt.locs, Pt.cells, Pt.slots] at X109 l109 y109 z109 st109 hQ109
    subst l109 y109 z109
    obtain ⟨rfl, Nq109, Heq109⟩ := hQ109
    have N109 := Fr.app N106 Nq109
    have pre112 : ∀ t, Steps p.tables e below (T109.setTop (mkF m 174 #[.val (.int p1), .val (.int p2), .val (.int p3), .val (.int v3), .val (.int v4), .val (.int v5), .val (.int c1), .val (.int c2), .val (.ref s8), .val (.ref s9), .val (.ref cl), .val (.int v11), .val (.int (0 : Int32)), .unset, .unset, .unset] [])) t → Steps p.tables e below (s₁.setTop (entryFrame m #[(.int p1), (.int p2), (.int p3)] maxLocals)) t := fun t kt => by
      refine pre101 t ?_
      show Steps p.tables e below (T.setTop (mkF m 133 #[.val (.int p1), .val (.int p2), .val (.int p3), .val (.int v3), .val (.int v4), .val (.int v5), .val (.int c1), .val (.int c2), .val (.ref s8), .val (.ref s9), .val (.ref cl), .val (.int v11), .unset, .unset, .unset, .unset] [(.int v5)])) _
      refine XS.ifYes X0.here hx rfl (pc0 := 133) (pc' := 143) rfl (hb hby at_133) rfl ((if0 _ _).trans (teq (hc133_102 : v5 = (0 : Int32))).1) (by decide) (by decide) ?_
      refine XS.aload X0.here hx rfl (hb hby at_143) rfl rfl ?_
      show Steps p.tables e below (T.setTop (mkF m 145 #[.val (.int p1), .val (.int p2), .val (.int p3), .val (.int v3), .val (.int v4), .val (.int v5), .val (.int c1), .val (.int c2), .val (.ref s8), .val (.ref s9), .val (.ref cl), .val (.int v11), .unset, .unset, .unset, .unset] [(.ref cl)])) _
      refine st103.trans ?_
      show Steps p.tables e below (T103.setTop (mkF m 148 #[.val (.int p1), .val (.int p2), .val (.int p3), .val (.int v3), .val (.int v4), .val (.int v5), .val (.int c1), .val (.int c2), .val (.ref s8), .val (.ref s9), .val (.ref cl), .val (.int v11), .unset, .unset, .unset, .unset] [])) _
      refine XS.aload X103.here hx rfl (hb hby at_148) rfl rfl ?_
      show Steps p.tables e below (T103.setTop (mkF m 150 #[.val (.int p1), .val (.int p2), .val (.int p3), .val (.int v3), .val (.int v4), .val (.int v5), .val (.int c1), .val (.int c2), .val (.ref s8), .val (.ref s9), .val (.ref cl), .val (.int v11), .unset, .unset, .unset, .unset] [(.ref cl)])) _
      refine st106.trans ?_
      show Steps p.tables e below (T106.setTop (mkF m 153 #[.val (.int p1), .val (.int p2), .val (.int p3), .val (.int v3), .val (.int v4), .val (.int v5), .val (.int c1), .val (.int c2), .val (.ref s8), .val (.ref s9), .val (.ref cl), .val (.int v11), .unset, .unset, .unset, .unset] [])) _
      refine XS.aload X106.here hx rfl (hb hby at_153) rfl rfl ?_
      show Steps p.tables e below (T106.setTop (mkF m 155 #[.val (.int p1), .val (.int p2), .val (.int p3), .val (.int v3), .val (.int v4), .val (.int v5), .val (.int c1), .val (.int c2), .val (.ref s8), .val (.ref s9), .val (.ref cl), .val (.int v11), .unset, .unset, .unset, .unset] [(.ref cl)])) _
      refine st109.trans ?_
      show Steps p.tables e below (T109.setTop (mkF m 158 #[.val (.int p1), .val (.int p2), .val (.int p3), .val (.int v3), .val (.int v4), .val (.int v5), .val (.int c1), .val (.int c2), .val (.ref s8), .val (.ref s9), .val (.ref cl), .val (.int v11), .unset, .unset, .unset, .unset] [(.int (0 : Int32))])) _
      refine XS.istore X109.here hx rfl (hb hby at_158) rfl (l' := #[.val (.int p1), .val (.int p2), .val (.int p3), .val (.int v3), .val (.int v4), .val (.int v5), .val (.int c1), .val (.int c2), .val (.ref s8), .val (.ref s9), .val (.ref cl), .val (.int v11), .val (.int (0 : Int32)), .unset, .unset, .unset]) rfl ?_
      refine XS.iload X109.here hx rfl (hb hby at_160) rfl ?_
      refine XS.iload X109.here hx rfl (hb hby at_162) rfl ?_
      refine XS.icmpNo X109.here hx rfl (hb hby at_164) rfl (feq (H34 : ¬ (v11 = v4))).1 ?_
      refine XS.iload X109.here hx rfl (hb hby at_167) rfl ?_
      refine XS.ifYes X109.here hx rfl (pc0 := 169) (pc' := 174) rfl (hb hby at_169) rfl ((if0 _ _).trans (teq (by decide : (0 : Int32) = (0 : Int32))).1) (by decide) (by decide) ?_
      show Steps p.tables e below (T109.setTop (mkF m 174 #[.val (.int p1), .val (.int p2), .val (.int p3), .val (.int v3), .val (.int v4), .val (.int v5), .val (.int c1), .val (.int c2), .val (.ref s8), .val (.ref s9), .val (.ref cl), .val (.int v11), .val (.int (0 : Int32)), .unset, .unset, .unset] [])) _
      exact kt
    by_cases hs174_113 : v4 = (0 : Int32)
    · skip
      have f114 := (own_sta_keep (own_sta_keep H0 K103 (own_plS (own_pl_exa H15) (own_plS (own_pl_arv H22) own_pl0))) K106 (own_plS (own_pl_exa f105) (own_plS (own_pl_arv R103_6) own_pl0)))
      have f115 := (own_sta_keep (own_sta_keep H2 K103 (own_plS (own_pl_exa H15) (own_plS (own_pl_arv H22) own_pl0))) K106 (own_plS (own_pl_exa f105) (own_plS (own_pl_arv R103_6) own_pl0)))
      have f116 := (own_sta_keep (own_sta_keep H3 K103 (own_plS (own_pl_exa H15) (own_plS (own_pl_arv H22) own_pl0))) K106 (own_plS (own_pl_exa f105) (own_plS (own_pl_arv R103_6) own_pl0)))
      have f117 := (own_sta_keep (own_sta_keep H4 K103 (own_plS (own_pl_exa H15) (own_plS (own_pl_arv H22) own_pl0))) K106 (own_plS (own_pl_exa f105) (own_plS (own_pl_arv R103_6) own_pl0)))
      have f118 := (own_sta_keep (own_sta_keep H5 K103 (own_plS (own_pl_exa H15) (own_plS (own_pl_arv H22) own_pl0))) K106 (own_plS (own_pl_exa f105) (own_plS (own_pl_arv R103_6) own_pl0)))
      have f119 := ((H7.keep K103).keep K106)
      have ne120 : s8 ≠ wb := Exa.neArv f119 R106_6 (own_w hw 3 rfl)
      have ne121 : s8 ≠ cl := ne_exa f119 f111 (by decide)
      have f122 := ((H8.keep K103 (ninS ne121 (ninS ne120 nin0))).keep K106 (ninS ne121 (ninS ne120 nin0)))
      have f123 := ((H9.keep K103 (ninS ne121 (ninS ne120 nin0))).keep K106 (ninS ne121 (ninS ne120 nin0)))
      have ne124 : b8 ≠ wb := own_ne_arv H10 H22 (by decide)
      have ne125 : cl ≠ b8 := Exa.neArv H15 H10 (own_w hw 10 rfl)
      have f126 := ((H10.keep K103 (ninS (Ne.symm ne125) (ninS ne124 nin0))).keep K106 (ninS (Ne.symm ne125) (ninS ne124 nin0)))
      have f127 := ((H11.keep K103).keep K106)
      have ne128 : s9 ≠ wb := Exa.neArv f127 R106_6 (own_w hw 3 rfl)
      have ne129 : s9 ≠ cl := ne_exa f127 f111 (by decide)
      have f130 := ((H12.keep K103 (ninS ne129 (ninS ne128 nin0))).keep K106 (ninS ne129 (ninS ne128 nin0)))
      have f131 := ((H13.keep K103 (ninS ne129 (ninS ne128 nin0))).keep K106 (ninS ne129 (ninS ne128 nin0)))
      have ne132 : b9 ≠ wb := own_ne_arv H14 H22 (by decide)
      have ne133 : cl ≠ b9 := Exa.neArv H15 H14 (own_w hw 10 rfl)
      have f134 := ((H14.keep K103 (ninS (Ne.symm ne133) (ninS ne132 nin0))).keep K106 (ninS (Ne.symm ne133) (ninS ne132 nin0)))
      have ne135 : cl ≠ cb := Exa.neArv H15 H21 (own_w hw 10 rfl)
      have f136 := ((H21.keep K103 (ninS (Ne.symm ne135) (ninS H26 nin0))).keep K106 (ninS (Ne.symm ne135) (ninS H26 nin0)))
      exact tl_A l Z a0 hw ws hEL p1 p2 p3 cz sf v3 v4 v5 c1 c2 s8 s9 b8 k8 b9 k9 cl cb ck x0 x1 wb wk w0 (v3 ^^^ (-1 : Int32)) v11 (0 : Int32) hs n0 T106.heap z110 f114 H1 f115 f116 f117 f118 H6 f119 f122 f123 f126 f127 f130 f131 f134 f111 R106_1 R106_4 R106_5 f136 R106_6 H27 H28 H30 H31 H32 (own_wx0 H30 hc133_102) (H33.1 hs174_113) (own_wl0 H30) H35 (Or.inl hc133_102) hs174_113 Bd hml hh hZ hown (X109.mono (by decide) (by decide)) N109 Heq109 hS0 (Nat.le_trans (Nat.le_trans hk0 K103.1) K106.1) Hc108 Cr108 pre112
    · skip
      have f137 := (own_sta_keep (own_sta_keep H0 K103 (own_plS (own_pl_exa H15) (own_plS (own_pl_arv H22) own_pl0))) K106 (own_plS (own_pl_exa f105) (own_plS (own_pl_arv R103_6) own_pl0)))
      have f138 := (own_sta_keep (own_sta_keep H2 K103 (own_plS (own_pl_exa H15) (own_plS (own_pl_arv H22) own_pl0))) K106 (own_plS (own_pl_exa f105) (own_plS (own_pl_arv R103_6) own_pl0)))
      have f139 := (own_sta_keep (own_sta_keep H3 K103 (own_plS (own_pl_exa H15) (own_plS (own_pl_arv H22) own_pl0))) K106 (own_plS (own_pl_exa f105) (own_plS (own_pl_arv R103_6) own_pl0)))
      have f140 := (own_sta_keep (own_sta_keep H4 K103 (own_plS (own_pl_exa H15) (own_plS (own_pl_arv H22) own_pl0))) K106 (own_plS (own_pl_exa f105) (own_plS (own_pl_arv R103_6) own_pl0)))
      have f141 := (own_sta_keep (own_sta_keep H5 K103 (own_plS (own_pl_exa H15) (own_plS (own_pl_arv H22) own_pl0))) K106 (own_plS (own_pl_exa f105) (own_plS (own_pl_arv R103_6) own_pl0)))
      have f142 := ((H7.keep K103).keep K106)
      have ne143 : s8 ≠ wb := Exa.neArv f142 R106_6 (own_w hw 3 rfl)
      have ne144 : s8 ≠ cl := ne_exa f142 f111 (by decide)
      have f145 := ((H8.keep K103 (ninS ne144 (ninS ne143 nin0))).keep K106 (ninS ne144 (ninS ne143 nin0)))
      have f146 := ((H9.keep K103 (ninS ne144 (ninS ne143 nin0))).keep K106 (ninS ne144 (ninS ne143 nin0)))
      have ne147 : b8 ≠ wb := own_ne_arv H10 H22 (by decide)
      have ne148 : cl ≠ b8 := Exa.neArv H15 H10 (own_w hw 10 rfl)
      have f149 := ((H10.keep K103 (ninS (Ne.symm ne148) (ninS ne147 nin0))).keep K106 (ninS (Ne.symm ne148) (ninS ne147 nin0)))
      have f150 := ((H11.keep K103).keep K106)
      have ne151 : s9 ≠ wb := Exa.neArv f150 R106_6 (own_w hw 3 rfl)
      have ne152 : s9 ≠ cl := ne_exa f150 f111 (by decide)
      have f153 := ((H12.keep K103 (ninS ne152 (ninS ne151 nin0))).keep K106 (ninS ne152 (ninS ne151 nin0)))
      have f154 := ((H13.keep K103 (ninS ne152 (ninS ne151 nin0))).keep K106 (ninS ne152 (ninS ne151 nin0)))
      have ne155 : b9 ≠ wb := own_ne_arv H14 H22 (by decide)
      have ne156 : cl ≠ b9 := Exa.neArv H15 H14 (own_w hw 10 rfl)
      have f157 := ((H14.keep K103 (ninS (Ne.symm ne156) (ninS ne155 nin0))).keep K106 (ninS (Ne.symm ne156) (ninS ne155 nin0)))
      have ne158 : cl ≠ cb := Exa.neArv H15 H21 (own_w hw 10 rfl)
      have f159 := ((H21.keep K103 (ninS (Ne.symm ne158) (ninS H26 nin0))).keep K106 (ninS (Ne.symm ne158) (ninS H26 nin0)))
      exact tl_B l Z a0 hw ws hEL p1 p2 p3 cz sf v3 v4 v5 c1 c2 s8 s9 b8 k8 b9 k9 cl cb ck x0 x1 wb wk w0 (v3 ^^^ (-1 : Int32)) v11 (0 : Int32) hs n0 T106.heap z110 f137 H1 f138 f139 f140 f141 H6 f142 f145 f146 f149 f150 f153 f154 f157 f111 R106_1 R106_4 R106_5 f159 R106_6 H27 H28 H30 H31 H32 (own_wx0 H30 hc133_102) (H33.2 hs174_113) (own_wl0 H30) H35 (Or.inl hc133_102) hs174_113 Bd hml hh hZ hown (X109.mono (by decide) (by decide)) N109 Heq109 hS0 (Nat.le_trans (Nat.le_trans hk0 K103.1) K106.1) Hc108 Cr108 pre112
  · skip
    obtain ⟨cq160, kq160, q160a, q160b, q160c⟩ := isOf hZ e0 H15
    obtain ⟨_, _, ⟨T160, L160, k160, n160⟩, -, X160, ⟨Lc160, hQ160, l160, y160, z160⟩, st160⟩ := X0.virtualBack hx (y := (⟨"com/example/rouse/rouse/shell/CommandLine", "append", "(C)V"⟩ : MethodName)) (z := (⟨"com/example/rouse/rouse/shell/CommandLine", "append", "(C)V"⟩ : MethodName)) hown (mvT hZ (own_w hw 194 rfl)) (mvT hZ (own_w hw 195 rfl)) (notFace_of_selects (args := #[]) (mvT hZ (own_w hw 197 rfl))) (mvT hZ (own_w hw 197 rfl)) (mvT hZ (own_w hw 196 rfl)) (by decide) (backOf (W := 0) (rm31g l Z a0 hw [] cl c2 (1 : Int32) cs cb ck wb x0 x1 v3 h0 n0 Z0 H15 H16 H17 H18 H19 H20 H21 H23 H24 H30) hZ (own_w hw 198 rfl) (own_w hw 11 rfl) (by decide) (by decide)) q160a q160c (g := (mkF m 140 #[.val (.int p1), .val (.int p2), .val (.int p3), .val (.int v3), .val (.int v4), .val (.int v5), .val (.int c1), .val (.int c2), .val (.ref s8), .val (.ref s9), .val (.ref cl), .val (.int v11), .unset, .unset, .unset, .unset] [(.int c2), (.ref cl)])) rfl (by rw [hml]; rfl) (Steps.refl _) (argsL := [(.int c2)]) (rest := []) (lenOf pd_28 rfl) rfl (by show 2 * 0 + _ ≤ _; exact Nat.le_of_eq rfl) (hb hby at_140) (fun _ _ => ⟨rfl, e0, (by decide : 12 + 0 ≤ _), (by decide : 160 + 0 ≤ _)⟩)
    dsimp only [Pt.U, Pt.locs, Pt.cells, Pt.slots] at X160 l160 y160 z160 st160 hQ160
    subst l160 y160 z160
    obtain ⟨rfl, Nq160, K160, R160_1, R160_2, R160_3, R160_4, R160_5, R160_6⟩ := hQ160
    have N160 := Fr.app N0 Nq160
    have hs161 : ∀ x ∈ ([cl, cb] : List Addr), Safe Z own_EL vm0 h0 x := (allS (P := fun x => Safe Z own_EL vm0 h0 x) (Safe.exa hZ.alike H15 (by decide) (by decide)) (allS (P := fun x => Safe Z own_EL vm0 h0 x) (own_safe_arv hZ.alike H21 (by decide)) (all0 (P := fun x => Safe Z own_EL vm0 h0 x))))
    have Hc161 := CHv.keep K160 hs161 hH
    have Cr161 := Cr0.trans (CHr.keep K160 hs161 hH)
    have f162 := (H15.keep K160)
    have ne163 : cl ≠ wb := Exa.neArv H15 H22 (own_w hw 10 rfl)
    have f164 := (H22.keep K160 (ninS (Ne.symm ne163) (ninS (Ne.symm H26) nin0)))
    have z166 : n0 ≤ T160.heap.size := (Nat.le_trans Z0 K160.1)
    obtain ⟨cq165, kq165, q165a, q165b, q165c⟩ := isOf hZ rfl f162
    obtain ⟨_, _, ⟨T165, L165, k165, n165⟩, -, X165, ⟨Lc165, hQ165, l165, y165, z165⟩, st165⟩ := X160.virtualBack hx (y := (⟨"com/example/rouse/rouse/shell/CommandLine", "endWord", "()V"⟩ : MethodName)) (z := (⟨"com/example/rouse/rouse/shell/CommandLine", "endWord", "()V"⟩ : MethodName)) hown (mvT hZ (own_w hw 28 rfl)) (mvT hZ (own_w hw 29 rfl)) (notFace_of_selects (args := #[]) (mvT hZ (own_w hw 31 rfl))) (mvT hZ (own_w hw 31 rfl)) (mvT hZ (own_w hw 30 rfl)) (by decide) (backOf (W := 0) (rm3k1 l Z a0 hw [] cl cb wb wk w0 w1 cs (v3 + (1 : Int32)) T160.heap n0 z166 f162 R160_1 R160_2 R160_3 R160_4 R160_5 f164 H23 H25) hZ (own_w hw 32 rfl) (own_w hw 11 rfl) (by decide) (by decide)) q165a q165c (g := (mkF m 145 #[.val (.int p1), .val (.int p2), .val (.int p3), .val (.int v3), .val (.int v4), .val (.int v5), .val (.int c1), .val (.int c2), .val (.ref s8), .val (.ref s9), .val (.ref cl), .val (.int v11), .unset, .unset, .unset, .unset] [(.ref cl)])) rfl (by rw [hml]; rfl) (Steps.refl _) (argsL := []) (rest := []) (lenOf pd_14 rfl) rfl (by show 2 * 0 + _ ≤ _; exact Nat.le_of_eq rfl) (hb hby at_145) (fun _ _ => ⟨rfl, rfl, (by decide : 12 + 0 ≤ _), (by decide : 160 + 0 ≤ _)⟩)
    dsimp only [Pt.U, Pt.locs, Pt.cells, Pt.slots] at X165 l165 y165 z165 st165 hQ165
    subst l165 y165 z165
    obtain ⟨rfl, Nq165, K165, R165_1, R165_2, R165_3, R165_4, R165_5, R165_6⟩ := hQ165
    have N165 := Fr.app N160 Nq165
    have hs167 : ∀ x ∈ ([cl, wb] : List Addr), Safe Z own_EL vm0 T160.heap x := (allS (P := fun x => Safe Z own_EL vm0 T160.heap x) (Safe.exa hZ.alike f162 (by decide) (by decide)) (allS (P := fun x => Safe Z own_EL vm0 T160.heap x) (own_safe_arv hZ.alike f164 (by decide)) (all0 (P := fun x => Safe Z own_EL vm0 T160.heap x))))
    have Hc167 := CHv.keep K165 hs167 Hc161
    have Cr167 := Cr161.trans (CHr.keep K165 hs167 Hc161)
    have f168 := (f162.keep K165)
    have z170 : n0 ≤ T165.heap.size := (Nat.le_trans z166 K165.1)
    obtain ⟨cq169, kq169, q169a, q169b, q169c⟩ := isOf hZ rfl f168
    obtain ⟨_, _, ⟨T169, L169, k169, n169⟩, -, X169, ⟨Lc169, hQ169, l169, y169, z169⟩, st169⟩ := X165.virtualBack hx (y := (⟨"com/example/rouse/rouse/shell/CommandLine", "endCommand", "()V"⟩ : MethodName)) (z := (⟨"com/example/rouse/rouse/shell/CommandLine", "endCommand", "()V"⟩ : MethodName)) hown (mvT hZ (own_w hw 37 rfl)) (mvT hZ (own_w hw 38 rfl)) (notFace_of_selects (args := #[]) (mvT hZ (own_w hw 40 rfl))) (mvT hZ (own_w hw 40 rfl)) (mvT hZ (own_w hw 39 rfl)) (by decide) (backOf (W := 0) (rm4k1 l Z a0 hw [] cl cb wb wk w0 (v3 + (1 : Int32)) cs (v3 + (1 : Int32)) T165.heap n0 z170 f168 R165_1 R165_2 R165_3 R165_4 R165_5 R165_6 H23 H25) hZ (own_w hw 41 rfl) (own_w hw 11 rfl) (by decide) (by decide)) q169a q169c (g := (mkF m 150 #[.val (.int p1), .val (.int p2), .val (.int p3), .val (.int v3), .val (.int v4), .val (.int v5), .val (.int c1), .val (.int c2), .val (.ref s8), .val (.ref s9), .val (.ref cl), .val (.int v11), .unset, .unset, .unset, .unset] [(.ref cl)])) rfl (by rw [hml]; rfl) (Steps.refl _) (argsL := []) (rest := []) (lenOf pd_14 rfl) rfl (by show 2 * 0 + _ ≤ _; exact Nat.le_of_eq rfl) (hb hby at_150) (fun _ _ => ⟨rfl, rfl, (by decide : 12 + 0 ≤ _), (by decide : 160 + 0 ≤ _)⟩)
    dsimp only [Pt.U, Pt.locs, Pt.cells, Pt.slots] at X169 l169 y169 z169 st169 hQ169
    subst l169 y169 z169
    obtain ⟨rfl, Nq169, K169, R169_1, R169_2, R169_3, R169_4, R169_5, R169_6⟩ := hQ169
    have N169 := Fr.app N165 Nq169
    have hs171 : ∀ x ∈ ([cl, wb] : List Addr), Safe Z own_EL vm0 T165.heap x := (allS (P := fun x => Safe Z own_EL vm0 T165.heap x) (Safe.exa hZ.alike f168 (by decide) (by decide)) (allS (P := fun x => Safe Z own_EL vm0 T165.heap x) (own_safe_arv hZ.alike R165_6 (by decide)) (all0 (P := fun x => Safe Z own_EL vm0 T165.heap x))))
    have Hc171 := CHv.keep K169 hs171 Hc167
    have Cr171 := Cr167.trans (CHr.keep K169 hs171 Hc167)
    have z173 : n0 ≤ T169.heap.size := (Nat.le_trans z170 K169.1)
    have f174 := (f168.keep K169)
    obtain ⟨cq172, kq172, q172a, q172b, q172c⟩ := isOf hZ rfl f174
    obtain ⟨_, _, ⟨T172, L172, k172, n172⟩, -, X172, ⟨Lc172, hQ172, l172, y172, z172⟩, st172⟩ := X169.virtualBack hx (y := (⟨"com/example/rouse/rouse/shell/CommandLine", "commandHasWords", "()Z"⟩ : MethodName)) (z := (⟨"com/example/rouse/rouse/shell/CommandLine", "commandHasWords", "()Z"⟩ : MethodName)) hown (mvT hZ (own_w hw 44 rfl)) (mvT hZ (own_w hw 45 rfl)) (notFace_of_selects (args := #[]) (mvT hZ (own_w hw 47 rfl))) (mvT hZ (own_w hw 47 rfl)) (mvT hZ (own_w hw 46 rfl)) (by decide) (backOf (W := 0) (rm5x48 l Z a0 hw [] cl T169.heap n0 z173 R169_1 R169_2) hZ (own_w hw 48 rfl) (own_w hw 11 rfl) (by decide) (by decide)) q172a q172c (g := (mkF m 155 #[.val (.int p1), .val (.int p2), .val (.int p3), .val (.int v3), .val (.int v4), .val (.int v5), .val (.int c1), .val (.int c2), .val (.ref s8), .val (.ref s9), .val (.ref cl), .val (.int v11), .unset, .unset, .unset, .unset] [(.ref cl)])) rfl (by rw [hml]; rfl) (Steps.refl _) (argsL := []) (rest := []) (lenOf pd_22 rfl) rfl (by show 2 * 0 + _ ≤ _; exact Nat.le_of_eq rfl) (hb hby at_155) (fun _ _ => ⟨rfl, rfl, (by decide : 12 + 0 ≤ _), (by decide : 160 + 0 ≤ _)⟩)
    dsimp only [Pt.U, Pt.locs, Pt.cells, Pt.slots] at X172 l172 y172 z172 st172 hQ172
    subst l172 y172 z172
    obtain ⟨rfl, Nq172, Heq172⟩ := hQ172
    have N172 := Fr.app N169 Nq172
    have pre175 : ∀ t, Steps p.tables e below (T172.setTop (mkF m 174 #[.val (.int p1), .val (.int p2), .val (.int p3), .val (.int v3), .val (.int v4), .val (.int v5), .val (.int c1), .val (.int c2), .val (.ref s8), .val (.ref s9), .val (.ref cl), .val (.int v11), .val (.int (0 : Int32)), .unset, .unset, .unset] [])) t → Steps p.tables e below (s₁.setTop (entryFrame m #[(.int p1), (.int p2), (.int p3)] maxLocals)) t := fun t kt => by
      refine pre101 t ?_
      show Steps p.tables e below (T.setTop (mkF m 133 #[.val (.int p1), .val (.int p2), .val (.int p3), .val (.int v3), .val (.int v4), .val (.int v5), .val (.int c1), .val (.int c2), .val (.ref s8), .val (.ref s9), .val (.ref cl), .val (.int v11), .unset, .unset, .unset, .unset] [(.int v5)])) _
      refine XS.ifNo X0.here hx rfl (hb hby at_133) rfl ((if0 _ _).trans (feq (hc133_102 : ¬ (v5 = (0 : Int32)))).1) ?_
      refine XS.aload X0.here hx rfl (hb hby at_136) rfl rfl ?_
      refine XS.iload X0.here hx rfl (hb hby at_138) rfl ?_
      show Steps p.tables e below (T.setTop (mkF m 140 #[.val (.int p1), .val (.int p2), .val (.int p3), .val (.int v3), .val (.int v4), .val (.int v5), .val (.int c1), .val (.int c2), .val (.ref s8), .val (.ref s9), .val (.ref cl), .val (.int v11), .unset, .unset, .unset, .unset] [(.int c2), (.ref cl)])) _
      refine st160.trans ?_
      show Steps p.tables e below (T160.setTop (mkF m 143 #[.val (.int p1), .val (.int p2), .val (.int p3), .val (.int v3), .val (.int v4), .val (.int v5), .val (.int c1), .val (.int c2), .val (.ref s8), .val (.ref s9), .val (.ref cl), .val (.int v11), .unset, .unset, .unset, .unset] [])) _
      refine XS.aload X160.here hx rfl (hb hby at_143) rfl rfl ?_
      show Steps p.tables e below (T160.setTop (mkF m 145 #[.val (.int p1), .val (.int p2), .val (.int p3), .val (.int v3), .val (.int v4), .val (.int v5), .val (.int c1), .val (.int c2), .val (.ref s8), .val (.ref s9), .val (.ref cl), .val (.int v11), .unset, .unset, .unset, .unset] [(.ref cl)])) _
      refine st165.trans ?_
      show Steps p.tables e below (T165.setTop (mkF m 148 #[.val (.int p1), .val (.int p2), .val (.int p3), .val (.int v3), .val (.int v4), .val (.int v5), .val (.int c1), .val (.int c2), .val (.ref s8), .val (.ref s9), .val (.ref cl), .val (.int v11), .unset, .unset, .unset, .unset] [])) _
      refine XS.aload X165.here hx rfl (hb hby at_148) rfl rfl ?_
      show Steps p.tables e below (T165.setTop (mkF m 150 #[.val (.int p1), .val (.int p2), .val (.int p3), .val (.int v3), .val (.int v4), .val (.int v5), .val (.int c1), .val (.int c2), .val (.ref s8), .val (.ref s9), .val (.ref cl), .val (.int v11), .unset, .unset, .unset, .unset] [(.ref cl)])) _
      refine st169.trans ?_
      show Steps p.tables e below (T169.setTop (mkF m 153 #[.val (.int p1), .val (.int p2), .val (.int p3), .val (.int v3), .val (.int v4), .val (.int v5), .val (.int c1), .val (.int c2), .val (.ref s8), .val (.ref s9), .val (.ref cl), .val (.int v11), .unset, .unset, .unset, .unset] [])) _
      refine XS.aload X169.here hx rfl (hb hby at_153) rfl rfl ?_
      show Steps p.tables e below (T169.setTop (mkF m 155 #[.val (.int p1), .val (.int p2), .val (.int p3), .val (.int v3), .val (.int v4), .val (.int v5), .val (.int c1), .val (.int c2), .val (.ref s8), .val (.ref s9), .val (.ref cl), .val (.int v11), .unset, .unset, .unset, .unset] [(.ref cl)])) _
      refine st172.trans ?_
      show Steps p.tables e below (T172.setTop (mkF m 158 #[.val (.int p1), .val (.int p2), .val (.int p3), .val (.int v3), .val (.int v4), .val (.int v5), .val (.int c1), .val (.int c2), .val (.ref s8), .val (.ref s9), .val (.ref cl), .val (.int v11), .unset, .unset, .unset, .unset] [(.int (0 : Int32))])) _
      refine XS.istore X172.here hx rfl (hb hby at_158) rfl (l' := #[.val (.int p1), .val (.int p2), .val (.int p3), .val (.int v3), .val (.int v4), .val (.int v5), .val (.int c1), .val (.int c2), .val (.ref s8), .val (.ref s9), .val (.ref cl), .val (.int v11), .val (.int (0 : Int32)), .unset, .unset, .unset]) rfl ?_
      refine XS.iload X172.here hx rfl (hb hby at_160) rfl ?_
      refine XS.iload X172.here hx rfl (hb hby at_162) rfl ?_
      refine XS.icmpNo X172.here hx rfl (hb hby at_164) rfl (feq (H34 : ¬ (v11 = v4))).1 ?_
      refine XS.iload X172.here hx rfl (hb hby at_167) rfl ?_
      refine XS.ifYes X172.here hx rfl (pc0 := 169) (pc' := 174) rfl (hb hby at_169) rfl ((if0 _ _).trans (teq (by decide : (0 : Int32) = (0 : Int32))).1) (by decide) (by decide) ?_
      show Steps p.tables e below (T172.setTop (mkF m 174 #[.val (.int p1), .val (.int p2), .val (.int p3), .val (.int v3), .val (.int v4), .val (.int v5), .val (.int c1), .val (.int c2), .val (.ref s8), .val (.ref s9), .val (.ref cl), .val (.int v11), .val (.int (0 : Int32)), .unset, .unset, .unset] [])) _
      exact kt
    by_cases hs174_176 : v4 = (0 : Int32)
    · skip
      have f177 := (own_sta_keep (own_sta_keep (own_sta_keep H0 K160 (own_plS (own_pl_exa H15) (own_plS (own_pl_arv H21) own_pl0))) K165 (own_plS (own_pl_exa f162) (own_plS (own_pl_arv f164) own_pl0))) K169 (own_plS (own_pl_exa f168) (own_plS (own_pl_arv R165_6) own_pl0)))
      have f178 := (own_sta_keep (own_sta_keep (own_sta_keep H2 K160 (own_plS (own_pl_exa H15) (own_plS (own_pl_arv H21) own_pl0))) K165 (own_plS (own_pl_exa f162) (own_plS (own_pl_arv f164) own_pl0))) K169 (own_plS (own_pl_exa f168) (own_plS (own_pl_arv R165_6) own_pl0)))
      have f179 := (own_sta_keep (own_sta_keep (own_sta_keep H3 K160 (own_plS (own_pl_exa H15) (own_plS (own_pl_arv H21) own_pl0))) K165 (own_plS (own_pl_exa f162) (own_plS (own_pl_arv f164) own_pl0))) K169 (own_plS (own_pl_exa f168) (own_plS (own_pl_arv R165_6) own_pl0)))
      have f180 := (own_sta_keep (own_sta_keep (own_sta_keep H4 K160 (own_plS (own_pl_exa H15) (own_plS (own_pl_arv H21) own_pl0))) K165 (own_plS (own_pl_exa f162) (own_plS (own_pl_arv f164) own_pl0))) K169 (own_plS (own_pl_exa f168) (own_plS (own_pl_arv R165_6) own_pl0)))
      have f181 := (own_sta_keep (own_sta_keep (own_sta_keep H5 K160 (own_plS (own_pl_exa H15) (own_plS (own_pl_arv H21) own_pl0))) K165 (own_plS (own_pl_exa f162) (own_plS (own_pl_arv f164) own_pl0))) K169 (own_plS (own_pl_exa f168) (own_plS (own_pl_arv R165_6) own_pl0)))
      have f182 := (((H7.keep K160).keep K165).keep K169)
      have ne183 : s8 ≠ cb := Exa.neArv (H7.keep K160) R160_6 (own_w hw 3 rfl)
      have ne184 : s8 ≠ cl := ne_exa f182 f174 (by decide)
      have ne185 : s8 ≠ wb := Exa.neArv f182 R169_6 (own_w hw 3 rfl)
      have f186 := (((H8.keep K160 (ninS ne184 (ninS ne183 nin0))).keep K165 (ninS ne184 (ninS ne185 nin0))).keep K169 (ninS ne184 (ninS ne185 nin0)))
      have f187 := (((H9.keep K160 (ninS ne184 (ninS ne183 nin0))).keep K165 (ninS ne184 (ninS ne185 nin0))).keep K169 (ninS ne184 (ninS ne185 nin0)))
      have ne188 : b8 ≠ cb := own_ne_arv H10 H21 (by decide)
      have ne189 : cl ≠ b8 := Exa.neArv H15 H10 (own_w hw 10 rfl)
      have ne190 : b8 ≠ wb := own_ne_arv H10 H22 (by decide)
      have f191 := (((H10.keep K160 (ninS (Ne.symm ne189) (ninS ne188 nin0))).keep K165 (ninS (Ne.symm ne189) (ninS ne190 nin0))).keep K169 (ninS (Ne.symm ne189) (ninS ne190 nin0)))
      have f192 := (((H11.keep K160).keep K165).keep K169)
      have ne193 : s9 ≠ cb := Exa.neArv (H11.keep K160) R160_6 (own_w hw 3 rfl)
      have ne194 : s9 ≠ cl := ne_exa f192 f174 (by decide)
      have ne195 : s9 ≠ wb := Exa.neArv f192 R169_6 (own_w hw 3 rfl)
      have f196 := (((H12.keep K160 (ninS ne194 (ninS ne193 nin0))).keep K165 (ninS ne194 (ninS ne195 nin0))).keep K169 (ninS ne194 (ninS ne195 nin0)))
      have f197 := (((H13.keep K160 (ninS ne194 (ninS ne193 nin0))).keep K165 (ninS ne194 (ninS ne195 nin0))).keep K169 (ninS ne194 (ninS ne195 nin0)))
      have ne198 : b9 ≠ cb := own_ne_arv H14 H21 (by decide)
      have ne199 : cl ≠ b9 := Exa.neArv H15 H14 (own_w hw 10 rfl)
      have ne200 : b9 ≠ wb := own_ne_arv H14 H22 (by decide)
      have f201 := (((H14.keep K160 (ninS (Ne.symm ne199) (ninS ne198 nin0))).keep K165 (ninS (Ne.symm ne199) (ninS ne200 nin0))).keep K169 (ninS (Ne.symm ne199) (ninS ne200 nin0)))
      have ne202 : cl ≠ cb := Exa.neArv f162 R160_6 (own_w hw 10 rfl)
      have f203 := ((R160_6.keep K165 (ninS (Ne.symm ne202) (ninS H26 nin0))).keep K169 (ninS (Ne.symm ne202) (ninS H26 nin0)))
      exact tl_A l Z a0 hw ws hEL p1 p2 p3 cz sf v3 v4 v5 c1 c2 s8 s9 b8 k8 b9 k9 cl cb ck (own_at v3 (nar .char c2) x0) (own_at v3 x1 (nar .char c2)) wb wk w0 ((v3 + (1 : Int32)) ^^^ (-1 : Int32)) v11 (0 : Int32) hs n0 T169.heap z173 f177 H1 f178 f179 f180 f181 H6 f182 f186 f187 f191 f192 f196 f197 f201 f174 R169_1 R169_4 R169_5 f203 R169_6 (own_chat (own_nn _) H27) (own_chat H28 (own_nn _)) H30 H31 H32 (own_wx1 H30 (H31.resolve_left hc133_102)) (H33.1 hs174_176) (own_wl1 H30) (own_txa H30 H35) (Or.inr (own_txb H30 H29)) hs174_176 Bd hml hh hZ hown (X172.mono (by decide) (by decide)) N172 Heq172 hS0 (Nat.le_trans (Nat.le_trans (Nat.le_trans hk0 K160.1) K165.1) K169.1) Hc171 Cr171 pre175
    · skip
      have f204 := (own_sta_keep (own_sta_keep (own_sta_keep H0 K160 (own_plS (own_pl_exa H15) (own_plS (own_pl_arv H21) own_pl0))) K165 (own_plS (own_pl_exa f162) (own_plS (own_pl_arv f164) own_pl0))) K169 (own_plS (own_pl_exa f168) (own_plS (own_pl_arv R165_6) own_pl0)))
      have f205 := (own_sta_keep (own_sta_keep (own_sta_keep H2 K160 (own_plS (own_pl_exa H15) (own_plS (own_pl_arv H21) own_pl0))) K165 (own_plS (own_pl_exa f162) (own_plS (own_pl_arv f164) own_pl0))) K169 (own_plS (own_pl_exa f168) (own_plS (own_pl_arv R165_6) own_pl0)))
      have f206 := (own_sta_keep (own_sta_keep (own_sta_keep H3 K160 (own_plS (own_pl_exa H15) (own_plS (own_pl_arv H21) own_pl0))) K165 (own_plS (own_pl_exa f162) (own_plS (own_pl_arv f164) own_pl0))) K169 (own_plS (own_pl_exa f168) (own_plS (own_pl_arv R165_6) own_pl0)))
      have f207 := (own_sta_keep (own_sta_keep (own_sta_keep H4 K160 (own_plS (own_pl_exa H15) (own_plS (own_pl_arv H21) own_pl0))) K165 (own_plS (own_pl_exa f162) (own_plS (own_pl_arv f164) own_pl0))) K169 (own_plS (own_pl_exa f168) (own_plS (own_pl_arv R165_6) own_pl0)))
      have f208 := (own_sta_keep (own_sta_keep (own_sta_keep H5 K160 (own_plS (own_pl_exa H15) (own_plS (own_pl_arv H21) own_pl0))) K165 (own_plS (own_pl_exa f162) (own_plS (own_pl_arv f164) own_pl0))) K169 (own_plS (own_pl_exa f168) (own_plS (own_pl_arv R165_6) own_pl0)))
      have f209 := (((H7.keep K160).keep K165).keep K169)
      have ne210 : s8 ≠ cb := Exa.neArv (H7.keep K160) R160_6 (own_w hw 3 rfl)
      have ne211 : s8 ≠ cl := ne_exa f209 f174 (by decide)
      have ne212 : s8 ≠ wb := Exa.neArv f209 R169_6 (own_w hw 3 rfl)
      have f213 := (((H8.keep K160 (ninS ne211 (ninS ne210 nin0))).keep K165 (ninS ne211 (ninS ne212 nin0))).keep K169 (ninS ne211 (ninS ne212 nin0)))
      have f214 := (((H9.keep K160 (ninS ne211 (ninS ne210 nin0))).keep K165 (ninS ne211 (ninS ne212 nin0))).keep K169 (ninS ne211 (ninS ne212 nin0)))
      have ne215 : b8 ≠ cb := own_ne_arv H10 H21 (by decide)
      have ne216 : cl ≠ b8 := Exa.neArv H15 H10 (own_w hw 10 rfl)
      have ne217 : b8 ≠ wb := own_ne_arv H10 H22 (by decide)
      have f218 := (((H10.keep K160 (ninS (Ne.symm ne216) (ninS ne215 nin0))).keep K165 (ninS (Ne.symm ne216) (ninS ne217 nin0))).keep K169 (ninS (Ne.symm ne216) (ninS ne217 nin0)))
      have f219 := (((H11.keep K160).keep K165).keep K169)
      have ne220 : s9 ≠ cb := Exa.neArv (H11.keep K160) R160_6 (own_w hw 3 rfl)
      have ne221 : s9 ≠ cl := ne_exa f219 f174 (by decide)
      have ne222 : s9 ≠ wb := Exa.neArv f219 R169_6 (own_w hw 3 rfl)
      have f223 := (((H12.keep K160 (ninS ne221 (ninS ne220 nin0))).keep K165 (ninS ne221 (ninS ne222 nin0))).keep K169 (ninS ne221 (ninS ne222 nin0)))
      have f224 := (((H13.keep K160 (ninS ne221 (ninS ne220 nin0))).keep K165 (ninS ne221 (ninS ne222 nin0))).keep K169 (ninS ne221 (ninS ne222 nin0)))
      have ne225 : b9 ≠ cb := own_ne_arv H14 H21 (by decide)
      have ne226 : cl ≠ b9 := Exa.neArv H15 H14 (own_w hw 10 rfl)
      have ne227 : b9 ≠ wb := own_ne_arv H14 H22 (by decide)
      have f228 := (((H14.keep K160 (ninS (Ne.symm ne226) (ninS ne225 nin0))).keep K165 (ninS (Ne.symm ne226) (ninS ne227 nin0))).keep K169 (ninS (Ne.symm ne226) (ninS ne227 nin0)))
      have ne229 : cl ≠ cb := Exa.neArv f162 R160_6 (own_w hw 10 rfl)
      have f230 := ((R160_6.keep K165 (ninS (Ne.symm ne229) (ninS H26 nin0))).keep K169 (ninS (Ne.symm ne229) (ninS H26 nin0)))
      exact tl_B l Z a0 hw ws hEL p1 p2 p3 cz sf v3 v4 v5 c1 c2 s8 s9 b8 k8 b9 k9 cl cb ck (own_at v3 (nar .char c2) x0) (own_at v3 x1 (nar .char c2)) wb wk w0 ((v3 + (1 : Int32)) ^^^ (-1 : Int32)) v11 (0 : Int32) hs n0 T169.heap z173 f204 H1 f205 f206 f207 f208 H6 f209 f213 f214 f218 f219 f223 f224 f228 f174 R169_1 R169_4 R169_5 f230 R169_6 (own_chat (own_nn _) H27) (own_chat H28 (own_nn _)) H30 H31 H32 (own_wx1 H30 (H31.resolve_left hc133_102)) (H33.2 hs174_176) (own_wl1 H30) (own_txa H30 H35) (Or.inr (own_txb H30 H29)) hs174_176 Bd hml hh hZ hown (X172.mono (by decide) (by decide)) N172 Heq172 hS0 (Nat.le_trans (Nat.le_trans (Nat.le_trans hk0 K160.1) K165.1) K169.1) Hc171 Cr171 pre175
theorem d1_0 : decode prog_64_method_1_code 0 = .ok (.aload_n 0, 1) := by decide +kernel
theorem d1_1 : decode prog_64_method_1_code 1 = .ok (.invokespecial 1, 3) := by decide +kernel
theorem d1_4 : decode prog_64_method_1_code 4 = .ok (.aload_n 0, 1) := by decide +kernel
theorem d1_5 : decode prog_64_method_1_code 5 = .ok (.bipush 16, 2) := by decide +kernel
theorem d1_7 : decode prog_64_method_1_code 7 = .ok (.newarray .char, 2) := by decide +kernel
theorem d1_9 : decode prog_64_method_1_code 9 = .ok (.putfield 9, 3) := by decide +kernel
theorem d1_12 : decode prog_64_method_1_code 12 = .ok (.aload_n 0, 1) := by decide +kernel
theorem d1_13 : decode prog_64_method_1_code 13 = .ok (.bipush 16, 2) := by decide +kernel
theorem d1_15 : decode prog_64_method_1_code 15 = .ok (.newarray .int, 2) := by decide +kernel
theorem d1_17 : decode prog_64_method_1_code 17 = .ok (.putfield 13, 3) := by decide +kernel
theorem d1_20 : decode prog_64_method_1_code 20 = .ok (.aload_n 0, 1) := by decide +kernel
theorem d1_21 : decode prog_64_method_1_code 21 = .ok (.iload_n 1, 1) := by decide +kernel
theorem d1_22 : decode prog_64_method_1_code 22 = .ok (.putfield 17, 3) := by decide +kernel
theorem d1_25 : decode prog_64_method_1_code 25 = .ok (.aload_n 0, 1) := by decide +kernel
theorem d1_26 : decode prog_64_method_1_code 26 = .ok (.iload_n 2, 1) := by decide +kernel
theorem d1_27 : decode prog_64_method_1_code 27 = .ok (.putfield 21, 3) := by decide +kernel
theorem d1_30 : decode prog_64_method_1_code 30 = .ok (.return_, 1) := by decide +kernel
theorem ef_1x50 (m : MethodId) (ra0 : Addr) : entryFrame m #[(.ref ra0), (.int (16 : Int32)), (.int (16 : Int32))] 3 = mkF m 0 #[.val (.ref ra0), .val (.int (16 : Int32)), .val (.int (16 : Int32))] [] := by first | (simp [entryFrame, mkF, argsToLocals, Value.category]; done) | rfl
def Q1x50 (Z : State) (ra0 : Addr) (h0 : Heap) (n0 : Nat) (v : Option Value) (h : Heap) (L : List Loc) : Prop := ∃ (b106 : Addr) (k106 : ClassId) (b102 : Addr) (k102 : ClassId), v = none ∧ Fr n0 L ∧ Keep h0 h [ra0] ∧ Fld Z h ra0 "com/example/rouse/rouse/shell/CommandLine" "characters" "[C" (.ref b102) ∧ Fld Z h ra0 "com/example/rouse/rouse/shell/CommandLine" "commandStart" "I" (.int (0 : Int32)) ∧ Fld Z h ra0 "com/example/rouse/rouse/shell/CommandLine" "length" "I" (.int (0 : Int32)) ∧ Fld Z h ra0 "com/example/rouse/rouse/shell/CommandLine" "maxCharacters" "I" (.int (16 : Int32)) ∧ Fld Z h ra0 "com/example/rouse/rouse/shell/CommandLine" "maxWords" "I" (.int (16 : Int32)) ∧ Fld Z h ra0 "com/example/rouse/rouse/shell/CommandLine" "wordEnds" "[I" (.ref b106) ∧ Fld Z h ra0 "com/example/rouse/rouse/shell/CommandLine" "words" "I" (.int (0 : Int32)) ∧ h0.size ≤ b106 ∧ Exa Z h b106 "[I" ∧ Arv Z h b106 k106 .int (16 : Int32) (own_zl (.int (0 : Int32)) (.int (0 : Int32))) (.int (0 : Int32)) ∧ h0.size ≤ b102 ∧ Exa Z h b102 "[C" ∧ Arv Z h b102 k102 .char (16 : Int32) (own_zl (.int (0 : Int32)) (.int (0 : Int32))) (.int (0 : Int32)) ∧ b102 ≠ b106
set_option maxRecDepth 65536 in
set_option maxHeartbeats 40000000 in
theorem rm1x50 (l : Launch) (Z : State) (a0 : Array Value) (hw : ∀ d ∈ tables_1, d.before a0 Z = true) (ws : List Jvm.Cond) (ra0 : Addr) (h0 : Heap) (n0 : Nat) (Z0 : n0 ≤ h0.size) (H0 : Exa Z h0 ra0 "com/example/rouse/rouse/shell/CommandLine") (H1 : Fld Z h0 ra0 "com/example/rouse/rouse/shell/CommandLine" "characters" "[C" .null) (H2 : n0 ≤ ra0) (H3 : Fld Z h0 ra0 "com/example/rouse/rouse/shell/CommandLine" "wordEnds" "[I" .null) (H4 : Fld Z h0 ra0 "com/example/rouse/rouse/shell/CommandLine" "maxCharacters" "I" (.int (0 : Int32))) (H5 : Fld Z h0 ra0 "com/example/rouse/rouse/shell/CommandLine" "maxWords" "I" (.int (0 : Int32))) (H6 : Fld Z h0 ra0 "com/example/rouse/rouse/shell/CommandLine" "commandStart" "I" (.int (0 : Int32))) (H7 : Fld Z h0 ra0 "com/example/rouse/rouse/shell/CommandLine" "length" "I" (.int (0 : Int32))) (H8 : Fld Z h0 ra0 "com/example/rouse/rouse/shell/CommandLine" "words" "I" (.int (0 : Int32))) :
    own_MF l (⟨"com/example/rouse/rouse/shell/CommandLine", "<init>", "(II)V"⟩ : MethodName) (Jvm.Cond.code (⟨"com/example/rouse/rouse/shell/CommandLine", "<init>", "(II)V"⟩ : MethodName) prog_64_method_1_code 3 none :: ws) ({ frames := 1, cells := 2, slots := 32, locals := 12 } : Room) #[(.ref ra0), (.int (16 : Int32)), (.int (16 : Int32))] Z h0 (Q1x50 Z ra0 h0 n0) := by
  refine MetFree.of_bodySF (plainFor_of_name pn_com_example_rouse_rouse_shell_CommandLine) hisR ?_
  intro p e s m args below meth c s₁ Bd hml0 hP hK
  obtain ⟨rfl, hZ, hh⟩ := hP
  have hx := Bd.exec
  have hby := Bd.bytes
  have hml : c.maxLocals = 3 := hml0
  have hown : s.vm.findClass "com/example/rouse/rouse/shell/CommandLine" = some m.cls := findClass_of_methodNamed Bd.named
  have hnm := (name_of_methodNamed Bd.named Bd.method).1
  have X0 : Stand p l e ({ frames := 1, cells := 2, slots := 32, locals := 12 } : Room) s m #[(.ref ra0), (.int (16 : Int32)), (.int (16 : Int32))] below meth c s₁ [] 0 0 := Stand.of_body Bd
  have e0 : s₁.heap = h0 := by rw [← hh, Bd.state]; rfl
  have N0 := Fr.nil n0
  have pre0 : ∀ t, Steps p.tables e below (s₁.setTop (mkF m 0 #[.val (.ref ra0), .val (.int (16 : Int32)), .val (.int (16 : Int32))] [])) t → Steps p.tables e below (s₁.setTop (entryFrame m #[(.ref ra0), (.int (16 : Int32)), (.int (16 : Int32))] 3)) t := fun t k => castTop (ef_1x50 m ra0) k
  obtain ⟨T101, X101, e101, st101⟩ := initO X0 hx hZ hown (own_w hw 15 rfl) (own_w hw 16 rfl) (own_w hw 17 rfl) e0 (g := (mkF m 1 #[.val (.ref ra0), .val (.int (16 : Int32)), .val (.int (16 : Int32))] [(.ref ra0)])) rfl (by rw [hml]; rfl) rfl (hb hby d1_1) (by decide) (W := 0) (by show 2 * 0 + _ ≤ _; exact Nat.le_of_eq rfl) (by decide)
  obtain ⟨T102, h102, k102, X102, e102, E102, A102, Qe102, st102⟩ := newPE X101 hx hZ (own_w hw 18 rfl) e101 (g := (mkF m 7 #[.val (.ref ra0), .val (.int (16 : Int32)), .val (.int (16 : Int32))] [(.int (16 : Int32)), (.ref ra0)])) rfl (hb hby d1_7) rfl (by decide) (cap := 16) (by decide) (by decide) (by decide) (by decide) (ad := "[C") (by decide)
  obtain ⟨b102, g102⟩ : ∃ z, z = h0.size := ⟨_, rfl⟩
  rw [← g102] at A102 Qe102 st102
  have V102 : Arv Z h102 b102 k102 .char (16 : Int32) (own_zl (.int (0 : Int32)) (.int (0 : Int32))) (.int (0 : Int32)) := (Arv.new A102 (by decide)).pad (pad_rep [] (.int (0 : Int32)) 16)
  have f103 := (H1.ext E102)
  have f104 := (H0.ext E102)
  obtain ⟨T105, h105, X105, e105, W105, st105⟩ := putF X102 hx hZ hown (host := "") (Or.inl (own_w hw 19 rfl)) Via.refl e102 f103 f104 (Or.inl (own_w hw 20 rfl)) (own_w hw 10 rfl) (ty := (.array .char)) (by decide) rfl rfl (g := (mkF m 9 #[.val (.ref ra0), .val (.int (16 : Int32)), .val (.int (16 : Int32))] [(.ref b102), (.ref ra0)])) rfl rfl (hb hby d1_9)
  have Fw105 := f103.same W105
  have N105 := Fr.snoc X105 N0 H2
  obtain ⟨T106, h106, k106, X106, e106, E106, A106, Qe106, st106⟩ := newPE X105 hx hZ (own_w hw 21 rfl) e105 (g := (mkF m 15 #[.val (.ref ra0), .val (.int (16 : Int32)), .val (.int (16 : Int32))] [(.int (16 : Int32)), (.ref ra0)])) rfl (hb hby d1_15) rfl (by decide) (cap := 16) (by decide) (by decide) (by decide) (by decide) (ad := "[I") (by decide)
  obtain ⟨b106, g106⟩ : ∃ z, z = h105.size := ⟨_, rfl⟩
  rw [← g106] at A106 Qe106 st106
  have V106 : Arv Z h106 b106 k106 .int (16 : Int32) (own_zl (.int (0 : Int32)) (.int (0 : Int32))) (.int (0 : Int32)) := (Arv.new A106 (by decide)).pad (pad_rep [] (.int (0 : Int32)) 16)
  have f107 := (((H3.ext E102).other W105 (Or.inr (slot_ne (Or.inl (own_w hw 23 rfl)) (Or.inl (own_w hw 20 rfl)) (by decide) (t := (.array .int)) (t' := (.array .char)) (by decide) (by decide)))).ext E106)
  have f108 := ((f104.wr W105).ext E106)
  obtain ⟨T109, h109, X109, e109, W109, st109⟩ := putF X106 hx hZ hown (host := "") (Or.inl (own_w hw 22 rfl)) Via.refl e106 f107 f108 (Or.inl (own_w hw 23 rfl)) (own_w hw 10 rfl) (ty := (.array .int)) (by decide) rfl rfl (g := (mkF m 17 #[.val (.ref ra0), .val (.int (16 : Int32)), .val (.int (16 : Int32))] [(.ref b106), (.ref ra0)])) rfl rfl (hb hby d1_17)
  have Fw109 := f107.same W109
  have N109 := Fr.snoc X109 N105 H2
  have f110 := ((((H4.ext E102).other W105 (Or.inr (slot_ne (Or.inr (own_w hw 25 rfl)) (Or.inl (own_w hw 20 rfl)) (by decide) (t := .int) (t' := (.array .char)) (by decide) (by decide)))).ext E106).other W109 (Or.inr (slot_ne (Or.inr (own_w hw 25 rfl)) (Or.inl (own_w hw 23 rfl)) (by decide) (t := .int) (t' := (.array .int)) (by decide) (by decide))))
  have f111 := (f108.wr W109)
  obtain ⟨T112, h112, X112, e112, W112, st112⟩ := putF X109 hx hZ hown (host := "") (Or.inl (own_w hw 24 rfl)) Via.refl e109 f110 f111 (Or.inr ⟨(own_w hw 25 rfl), rfl, hnm⟩) (own_w hw 10 rfl) (ty := .int) (by decide) rfl rfl (g := (mkF m 22 #[.val (.ref ra0), .val (.int (16 : Int32)), .val (.int (16 : Int32))] [(.int (16 : Int32)), (.ref ra0)])) rfl rfl (hb hby d1_22)
  have Fw112 := f110.same W112
  have N112 := Fr.snoc X112 N109 H2
  have f113 := (((((H5.ext E102).other W105 (Or.inr (slot_ne (Or.inr (own_w hw 27 rfl)) (Or.inl (own_w hw 20 rfl)) (by decide) (t := .int) (t' := (.array .char)) (by decide) (by decide)))).ext E106).other W109 (Or.inr (slot_ne (Or.inr (own_w hw 27 rfl)) (Or.inl (own_w hw 23 rfl)) (by decide) (t := .int) (t' := (.array .int)) (by decide) (by decide)))).other W112 (Or.inr (slot_ne (Or.inr (own_w hw 27 rfl)) (Or.inr (own_w hw 25 rfl)) (by decide) (t := .int) (t' := .int) (by decide) (by decide))))
  have f114 := (f111.wr W112)
  obtain ⟨T115, h115, X115, e115, W115, st115⟩ := putF X112 hx hZ hown (host := "") (Or.inl (own_w hw 26 rfl)) Via.refl e112 f113 f114 (Or.inr ⟨(own_w hw 27 rfl), rfl, hnm⟩) (own_w hw 10 rfl) (ty := .int) (by decide) rfl rfl (g := (mkF m 27 #[.val (.ref ra0), .val (.int (16 : Int32)), .val (.int (16 : Int32))] [(.int (16 : Int32)), (.ref ra0)])) rfl rfl (hb hby d1_27)
  have Fw115 := f113.same W115
  have N115 := Fr.snoc X115 N112 H2
  have f116 := ((((Fw105.ext E106).other W109 (Or.inr (slot_ne (Or.inl (own_w hw 20 rfl)) (Or.inl (own_w hw 23 rfl)) (by decide) (t := (.array .char)) (t' := (.array .int)) (by decide) (by decide)))).other W112 (Or.inr (slot_ne (Or.inl (own_w hw 20 rfl)) (Or.inr (own_w hw 25 rfl)) (by decide) (t := (.array .char)) (t' := .int) (by decide) (by decide)))).other W115 (Or.inr (slot_ne (Or.inl (own_w hw 20 rfl)) (Or.inr (own_w hw 27 rfl)) (by decide) (t := (.array .char)) (t' := .int) (by decide) (by decide))))
  have f117 := ((((((H6.ext E102).other W105 (Or.inr (slot_ne (Or.inl (own_w hw 43 rfl)) (Or.inl (own_w hw 20 rfl)) (by decide) (t := .int) (t' := (.array .char)) (by decide) (by decide)))).ext E106).other W109 (Or.inr (slot_ne (Or.inl (own_w hw 43 rfl)) (Or.inl (own_w hw 23 rfl)) (by decide) (t := .int) (t' := (.array .int)) (by decide) (by decide)))).other W112 (Or.inr (slot_ne (Or.inl (own_w hw 43 rfl)) (Or.inr (own_w hw 25 rfl)) (by decide) (t := .int) (t' := .int) (by decide) (by decide)))).other W115 (Or.inr (slot_ne (Or.inl (own_w hw 43 rfl)) (Or.inr (own_w hw 27 rfl)) (by decide) (t := .int) (t' := .int) (by decide) (by decide))))
  have f118 := ((((((H7.ext E102).other W105 (Or.inr (slot_ne (Or.inl (own_w hw 36 rfl)) (Or.inl (own_w hw 20 rfl)) (by decide) (t := .int) (t' := (.array .char)) (by decide) (by decide)))).ext E106).other W109 (Or.inr (slot_ne (Or.inl (own_w hw 36 rfl)) (Or.inl (own_w hw 23 rfl)) (by decide) (t := .int) (t' := (.array .int)) (by decide) (by decide)))).other W112 (Or.inr (slot_ne (Or.inl (own_w hw 36 rfl)) (Or.inr (own_w hw 25 rfl)) (by decide) (t := .int) (t' := .int) (by decide) (by decide)))).other W115 (Or.inr (slot_ne (Or.inl (own_w hw 36 rfl)) (Or.inr (own_w hw 27 rfl)) (by decide) (t := .int) (t' := .int) (by decide) (by decide))))
  have f119 := (Fw112.other W115 (Or.inr (slot_ne (Or.inr (own_w hw 25 rfl)) (Or.inr (own_w hw 27 rfl)) (by decide) (t := .int) (t' := .int) (by decide) (by decide))))
  have f120 := ((Fw109.other W112 (Or.inr (slot_ne (Or.inl (own_w hw 23 rfl)) (Or.inr (own_w hw 25 rfl)) (by decide) (t := (.array .int)) (t' := .int) (by decide) (by decide)))).other W115 (Or.inr (slot_ne (Or.inl (own_w hw 23 rfl)) (Or.inr (own_w hw 27 rfl)) (by decide) (t := (.array .int)) (t' := .int) (by decide) (by decide))))
  have f121 := ((((((H8.ext E102).other W105 (Or.inr (slot_ne (Or.inl (own_w hw 34 rfl)) (Or.inl (own_w hw 20 rfl)) (by decide) (t := .int) (t' := (.array .char)) (by decide) (by decide)))).ext E106).other W109 (Or.inr (slot_ne (Or.inl (own_w hw 34 rfl)) (Or.inl (own_w hw 23 rfl)) (by decide) (t := .int) (t' := (.array .int)) (by decide) (by decide)))).other W112 (Or.inr (slot_ne (Or.inl (own_w hw 34 rfl)) (Or.inr (own_w hw 25 rfl)) (by decide) (t := .int) (t' := .int) (by decide) (by decide)))).other W115 (Or.inr (slot_ne (Or.inl (own_w hw 34 rfl)) (Or.inr (own_w hw 27 rfl)) (by decide) (t := .int) (t' := .int) (by decide) (by decide))))
  have f122 := (((Qe106.wr W109).wr W112).wr W115)
  have ne123 : ra0 ≠ b106 := (Nat.ne_of_lt (Nat.lt_of_lt_of_le (f104.wr W105).lt (Nat.le_of_eq g106.symm)))
  have f124 := (((V106.other W109 (Ne.symm ne123)).other W112 (Ne.symm ne123)).other W115 (Ne.symm ne123))
  have f125 := (((((Qe102.wr W105).ext E106).wr W109).wr W112).wr W115)
  have ne126 : ra0 ≠ b102 := (Nat.ne_of_lt (Nat.lt_of_lt_of_le H0.lt (Nat.le_of_eq g102.symm)))
  have f127 := (((((V102.other W105 (Ne.symm ne126)).ext E106).other W109 (Ne.symm ne126)).other W112 (Ne.symm ne126)).other W115 (Ne.symm ne126))
  have ne128 : b102 ≠ b106 := (Nat.ne_of_lt (Nat.lt_of_lt_of_le (Qe102.wr W105).lt (Nat.le_of_eq g106.symm)))
  obtain ⟨fs, hr, hrun, hended, hW, hsame⟩ := X115.leave (v := none) (fun _ => rfl)
  refine ⟨_, _, pre0 _ ?_, hrun, hended, _, _, rfl, ?_, ⟨_, rfl⟩, hW, hsame.mono (by decide) (by decide)⟩
  · skip
    show Steps p.tables e below (s₁.setTop (mkF m 0 #[.val (.ref ra0), .val (.int (16 : Int32)), .val (.int (16 : Int32))] [])) _
    refine XS.aloadN X0.here hx rfl (hb hby d1_0) rfl rfl ?_
    refine st101 _ ?_
    refine XS.aloadN X101.here hx rfl (hb hby d1_4) rfl rfl ?_
    refine XS.bipush X101.here hx rfl (hb hby d1_5) ?_
    refine st102 _ ?_
    refine st105 _ ?_
    refine XS.aloadN X105.here hx rfl (hb hby d1_12) rfl rfl ?_
    refine XS.bipush X105.here hx rfl (hb hby d1_13) ?_
    refine st106 _ ?_
    refine st109 _ ?_
    refine XS.aloadN X109.here hx rfl (hb hby d1_20) rfl rfl ?_
    refine XS.iloadN X109.here hx rfl (hb hby d1_21) rfl ?_
    refine st112 _ ?_
    refine XS.aloadN X112.here hx rfl (hb hby d1_25) rfl rfl ?_
    show Steps p.tables e below (T112.setTop (mkF m 26 #[.val (.ref ra0), .val (.int (16 : Int32)), .val (.int (16 : Int32))] [(.ref ra0)])) _
    refine XS.iloadN X112.here hx rfl (hb hby d1_26) rfl ?_
    refine st115 _ ?_
    show Steps p.tables e below (T115.setTop (mkF m 30 #[.val (.ref ra0), .val (.int (16 : Int32)), .val (.int (16 : Int32))] [])) _
    exact X115.returnOut hx Bd.returns (hb hby d1_30) hr
  · show Q1x50 Z ra0 h0 n0 _ T115.heap _
    rw [e115]
    exact ⟨b106, k106, b102, k102, rfl, N115, (((((((Keep.refl h0 [ra0]).ext E102).wr W105 (Or.inl (List.mem_of_getElem? (i := 0) rfl))).ext E106).wr W109 (Or.inl (List.mem_of_getElem? (i := 0) rfl))).wr W112 (Or.inl (List.mem_of_getElem? (i := 0) rfl))).wr W115 (Or.inl (List.mem_of_getElem? (i := 0) rfl))), f116, f117, f118, f119, Fw115, f120, f121, (Nat.le_trans (Nat.le_trans (Nat.le_trans (Nat.le_refl _) E102.1) (Nat.le_of_eq W105.size.symm)) (Nat.le_of_eq g106.symm)), f122, f124, (Nat.le_trans (Nat.le_refl _) (Nat.le_of_eq g102.symm)), f125, f127, ne128⟩
theorem d5_11 : decode prog_64_method_4_code 11 = .ok (.iconst 1, 1) := by decide +kernel
theorem d5_12 : decode prog_64_method_4_code 12 = .ok (.goto 4, 3) := by decide +kernel
theorem ef_5x51 (m : MethodId) (ra0 : Addr) : entryFrame m #[(.ref ra0)] 1 = mkF m 0 #[.val (.ref ra0)] [] := by first | (simp [entryFrame, mkF, argsToLocals, Value.category]; done) | rfl
def Q5x51 (Z : State) (ra0 : Addr) (h0 : Heap) (n0 : Nat) (v : Option Value) (h : Heap) (L : List Loc) : Prop := v = some (.int (1 : Int32)) ∧ Fr n0 L ∧ h = h0
set_option maxRecDepth 65536 in
set_option maxHeartbeats 40000000 in
theorem rm5x51 (l : Launch) (Z : State) (a0 : Array Value) (hw : ∀ d ∈ tables_1, d.before a0 Z = true) (ws : List Jvm.Cond) (ra0 : Addr) (h0 : Heap) (n0 : Nat) (Z0 : n0 ≤ h0.size) (H0 : Fld Z h0 ra0 "com/example/rouse/rouse/shell/CommandLine" "words" "I" (.int (1 : Int32))) (H1 : Fld Z h0 ra0 "com/example/rouse/rouse/shell/CommandLine" "commandStart" "I" (.int (0 : Int32))) :
    own_MF l (⟨"com/example/rouse/rouse/shell/CommandLine", "commandHasWords", "()Z"⟩ : MethodName) (Jvm.Cond.code (⟨"com/example/rouse/rouse/shell/CommandLine", "commandHasWords", "()Z"⟩ : MethodName) prog_64_method_4_code 1 (some .boolean) :: ws) ({ frames := 0, cells := 0, slots := 0, locals := 0 } : Room) #[(.ref ra0)] Z h0 (Q5x51 Z ra0 h0 n0) := by
  refine MetFree.of_bodySF (plainFor_of_name pn_com_example_rouse_rouse_shell_CommandLine) hisR ?_
  intro p e s m args below meth c s₁ Bd hml0 hP hK
  obtain ⟨rfl, hZ, hh⟩ := hP
  have hx := Bd.exec
  have hby := Bd.bytes
  have hml : c.maxLocals = 1 := hml0
  have hown : s.vm.findClass "com/example/rouse/rouse/shell/CommandLine" = some m.cls := findClass_of_methodNamed Bd.named
  have hnm := (name_of_methodNamed Bd.named Bd.method).1
  have X0 : Stand p l e ({ frames := 0, cells := 0, slots := 0, locals := 0 } : Room) s m #[(.ref ra0)] below meth c s₁ [] 0 0 := Stand.of_body Bd
  have e0 : s₁.heap = h0 := by rw [← hh, Bd.state]; rfl
  have N0 := Fr.nil n0
  have pre0 : ∀ t, Steps p.tables e below (s₁.setTop (mkF m 0 #[.val (.ref ra0)] [])) t → Steps p.tables e below (s₁.setTop (entryFrame m #[(.ref ra0)] 1)) t := fun t k => castTop (ef_5x51 m ra0) k
  obtain ⟨T101, X101, e101, st101⟩ := getF X0 hx hZ hown (host := "") (Or.inl (own_w hw 33 rfl)) Via.refl e0 H0 (g := (mkF m 1 #[.val (.ref ra0)] [(.ref ra0)])) rfl rfl (hb hby d5_1)
  obtain ⟨T102, X102, e102, st102⟩ := getF X101 hx hZ hown (host := "") (Or.inl (own_w hw 42 rfl)) Via.refl e101 H1 (g := (mkF m 5 #[.val (.ref ra0)] [(.ref ra0), (.int (1 : Int32))])) rfl rfl (hb hby d5_5)
  obtain ⟨fs, hr, hrun, hended, hW, hsame⟩ := X102.leave (v := some (.int (1 : Int32))) (fun h => by rw [Bd.returns] at h; cases h)
  refine ⟨_, _, pre0 _ ?_, hrun, hended, _, _, rfl, ?_, ⟨_, rfl⟩, hW, hsame.mono (by decide) (by decide)⟩
  · skip
    show Steps p.tables e below (s₁.setTop (mkF m 0 #[.val (.ref ra0)] [])) _
    refine XS.aloadN X0.here hx rfl (hb hby d5_0) rfl rfl ?_
    refine st101 _ ?_
    refine XS.aloadN X101.here hx rfl (hb hby d5_4) rfl rfl ?_
    refine st102 _ ?_
    refine XS.icmpNo X102.here hx rfl (hb hby d5_8) rfl (tlt (by decide : (0 : Int32) < (1 : Int32))).2.2.2 ?_
    refine XS.iconst X102.here hx rfl (hb hby d5_11) ?_
    refine XS.goto X102.here hx rfl (pc0 := 12) (pc' := 16) rfl (hb hby d5_12) (by decide) (by decide) ?_
    show Steps p.tables e below (T102.setTop (mkF m 16 #[.val (.ref ra0)] [(.int (1 : Int32))])) _
    exact retN X102 hx (t := .boolean) Bd.returns (by simp) (hb hby d5_16) hr
  · show Q5x51 Z ra0 h0 n0 _ T102.heap _
    rw [e102]
    exact ⟨rfl, N0, rfl⟩
theorem ef_5x52 (m : MethodId) (ra0 : Addr) : entryFrame m #[(.ref ra0)] 1 = mkF m 0 #[.val (.ref ra0)] [] := by first | (simp [entryFrame, mkF, argsToLocals, Value.category]; done) | rfl
def Q5x52 (Z : State) (ra0 : Addr) (h0 : Heap) (n0 : Nat) (v : Option Value) (h : Heap) (L : List Loc) : Prop := v = some (.int (0 : Int32)) ∧ Fr n0 L ∧ h = h0
set_option maxRecDepth 65536 in
set_option maxHeartbeats 40000000 in
theorem rm5x52 (l : Launch) (Z : State) (a0 : Array Value) (hw : ∀ d ∈ tables_1, d.before a0 Z = true) (ws : List Jvm.Cond) (ra0 : Addr) (h0 : Heap) (n0 : Nat) (Z0 : n0 ≤ h0.size) (H0 : Fld Z h0 ra0 "com/example/rouse/rouse/shell/CommandLine" "words" "I" (.int (1 : Int32))) (H1 : Fld Z h0 ra0 "com/example/rouse/rouse/shell/CommandLine" "commandStart" "I" (.int (1 : Int32))) :
    own_MF l (⟨"com/example/rouse/rouse/shell/CommandLine", "commandHasWords", "()Z"⟩ : MethodName) (Jvm.Cond.code (⟨"com/example/rouse/rouse/shell/CommandLine", "commandHasWords", "()Z"⟩ : MethodName) prog_64_method_4_code 1 (some .boolean) :: ws) ({ frames := 0, cells := 0, slots := 0, locals := 0 } : Room) #[(.ref ra0)] Z h0 (Q5x52 Z ra0 h0 n0) := by
  refine MetFree.of_bodySF (plainFor_of_name pn_com_example_rouse_rouse_shell_CommandLine) hisR ?_
  intro p e s m args below meth c s₁ Bd hml0 hP hK
  obtain ⟨rfl, hZ, hh⟩ := hP
  have hx := Bd.exec
  have hby := Bd.bytes
  have hml : c.maxLocals = 1 := hml0
  have hown : s.vm.findClass "com/example/rouse/rouse/shell/CommandLine" = some m.cls := findClass_of_methodNamed Bd.named
  have hnm := (name_of_methodNamed Bd.named Bd.method).1
  have X0 : Stand p l e ({ frames := 0, cells := 0, slots := 0, locals := 0 } : Room) s m #[(.ref ra0)] below meth c s₁ [] 0 0 := Stand.of_body Bd
  have e0 : s₁.heap = h0 := by rw [← hh, Bd.state]; rfl
  have N0 := Fr.nil n0
  have pre0 : ∀ t, Steps p.tables e below (s₁.setTop (mkF m 0 #[.val (.ref ra0)] [])) t → Steps p.tables e below (s₁.setTop (entryFrame m #[(.ref ra0)] 1)) t := fun t k => castTop (ef_5x52 m ra0) k
  obtain ⟨T101, X101, e101, st101⟩ := getF X0 hx hZ hown (host := "") (Or.inl (own_w hw 33 rfl)) Via.refl e0 H0 (g := (mkF m 1 #[.val (.ref ra0)] [(.ref ra0)])) rfl rfl (hb hby d5_1)
  obtain ⟨T102, X102, e102, st102⟩ := getF X101 hx hZ hown (host := "") (Or.inl (own_w hw 42 rfl)) Via.refl e101 H1 (g := (mkF m 5 #[.val (.ref ra0)] [(.ref ra0), (.int (1 : Int32))])) rfl rfl (hb hby d5_5)
  obtain ⟨fs, hr, hrun, hended, hW, hsame⟩ := X102.leave (v := some (.int (0 : Int32))) (fun h => by rw [Bd.returns] at h; cases h)
  refine ⟨_, _, pre0 _ ?_, hrun, hended, _, _, rfl, ?_, ⟨_, rfl⟩, hW, hsame.mono (by decide) (by decide)⟩
  · skip
    show Steps p.tables e below (s₁.setTop (mkF m 0 #[.val (.ref ra0)] [])) _
    refine XS.aloadN X0.here hx rfl (hb hby d5_0) rfl rfl ?_
    refine st101 _ ?_
    refine XS.aloadN X101.here hx rfl (hb hby d5_4) rfl rfl ?_
    refine st102 _ ?_
    refine XS.icmpYes X102.here hx rfl (pc0 := 8) (pc' := 15) rfl (hb hby d5_8) rfl (flt (by decide : ¬ ((1 : Int32) < (1 : Int32)))).2.2.2 (by decide) (by decide) ?_
    refine XS.iconst X102.here hx rfl (hb hby d5_15) ?_
    show Steps p.tables e below (T102.setTop (mkF m 16 #[.val (.ref ra0)] [(.int (0 : Int32))])) _
    exact retN X102 hx (t := .boolean) Bd.returns (by simp) (hb hby d5_16) hr
  · show Q5x52 Z ra0 h0 n0 _ T102.heap _
    rw [e102]
    exact ⟨rfl, N0, rfl⟩
set_option maxRecDepth 65536 in
set_option maxHeartbeats 40000000 in
theorem tl_D (l : Launch) (Z : State) (a0 : Array Value) (hw : ∀ d ∈ tables_1, d.before a0 Z = true) (ws : List Jvm.Cond) (hEL : EW Z a0 own_EL) (p1 : Int32) (p2 : Int32) (p3 : Int32) (cz : Int32) (sf : Value) (v3 : Int32) (v4 : Int32) (v5 : Int32) (c1 : Int32) (c2 : Int32) (s8 : Addr) (s9 : Addr) (b8 : Addr) (k8 : ClassId) (b9 : Addr) (k9 : ClassId) (hs : Heap) (n0 : Nat) (h0 : Heap) (Z0 : n0 ≤ h0.size) (H0 : Sta Z h0 "java/lang/String" "COMPACT_STRINGS" "Z" (.int cz)) (H1 : ¬ (cz = (0 : Int32))) (H2 : Sta Z h0 "java/lang/StringUTF16" "$assertionsDisabled" "Z" (.int (1 : Int32))) (H3 : Sta Z h0 "java/lang/StringUTF16" "HI_BYTE_SHIFT" "I" (.int (0 : Int32))) (H4 : Sta Z h0 "java/lang/StringUTF16" "LO_BYTE_SHIFT" "I" (.int (8 : Int32))) (H5 : Sta Z h0 "jdk/internal/util/Preconditions" "SIOOBE_FORMATTER" "Ljava/util/function/BiFunction;" sf) (H6 : sf.category = 1) (H7 : Exa Z h0 s8 "java/lang/String") (H8 : Fld Z h0 s8 "java/lang/String" "coder" "B" (.int (own_cd v3 c1))) (H9 : Fld Z h0 s8 "java/lang/String" "value" "[B" (.ref b8)) (H10 : Arv Z h0 b8 k8 .byte (own_bn v3 c1) (own_bs v3 c1) (.int (0 : Int32))) (H11 : Exa Z h0 s9 "java/lang/String") (H12 : Fld Z h0 s9 "java/lang/String" "coder" "B" (.int (own_cd v5 c2))) (H13 : Fld Z h0 s9 "java/lang/String" "value" "[B" (.ref b9)) (H14 : Arv Z h0 b9 k9 .byte (own_bn v5 c2) (own_bs v5 c2) (.int (0 : Int32))) (H15 : own_chr c1) (H16 : own_chr c2) (H17 : own_01 v3) (H18 : own_01 v4) (H19 : own_01 v5) {p : Program} {e : Env} {s : State} {m : MethodId} {below : List Frame} {meth : Method} {c : Code} {s₁ : State} (Bd : BodyLoose p l x (head1 (Jvm.Cond.code x code maxLocals ret :: ws) room_1) code maxLocals ret e s m #[(.int p1), (.int p2), (.int p3)] below meth c s₁) (hml : c.maxLocals = 16) (hh : s.heap = hs) {vm0 : Vm} {T : State} {locs : List Loc} {k0 : Nat} (hZ : Z.Warmed39 (s.setVm vm0).vm) (hown : (s.setVm vm0).vm.findClass "com/example/rouse/rouse/shell/CommandLineEndCommandPinLaw" = some m.cls) (X0 : Stand p l e room_1 (s.setVm vm0) m #[(.int p1), (.int p2), (.int p3)] below meth c T locs 4 24) (N0 : Fr n0 locs) (e0 : T.heap = h0) (hS0 : s.Since vm0 k0) (hk0 : k0 ≤ h0.size) (hH : CHv Z own_EL vm0 h0) (Cr0 : CHr Z own_EL s.vm hs vm0 h0) (pre0 : ∀ t, Steps p.tables e below (T.setTop (mkF m 85 #[.val (.int p1), .val (.int p2), .val (.int p3), .val (.int v3), .val (.int v4), .val (.int v5), .val (.int c1), .val (.int c2), .val (.ref s8), .val (.ref s9), .unset, .unset, .unset, .unset, .unset, .unset] [])) t → Steps p.tables e below (s₁.setTop (entryFrame m #[(.int p1), (.int p2), (.int p3)] maxLocals)) t) :
    ∃ s₂ o, Steps p.tables e below (s₁.setTop (entryFrame m #[(.int p1), (.int p2), (.int p3)] maxLocals)) s₂ ∧ s₂.status = .running ∧ Ended s₂ below o ∧ ∃ v L, o = .returned v ∧ Q0 Z p1 p2 p3 cz sf hs n0 v s₂.heap L ∧ CHr Z own_EL s.vm s.heap s₂.vm s₂.heap ∧ ReturnedEndW s o s₂ L room_1.cells room_1.slots := by
  have hx := Bd.exec
  have hby := Bd.bytes
  have hnm := (name_of_methodNamed Bd.named Bd.method).1
  obtain ⟨T101, h101, X101, e101, E101, A101, D101, -, st101⟩ := newO X0 hx hZ hown (own_w hw 9 rfl) (own_w hw 10 rfl) (own_w hw 11 rfl) e0 (g := (mkF m 85 #[.val (.int p1), .val (.int p2), .val (.int p3), .val (.int v3), .val (.int v4), .val (.int v5), .val (.int c1), .val (.int c2), .val (.ref s8), .val (.ref s9), .unset, .unset, .unset, .unset, .unset, .unset] [])) rfl (hb hby at_85) (by decide) (by decide)
  obtain ⟨b101, g101⟩ : ∃ z, z = h0.size := ⟨_, rfl⟩
  rw [← g101] at A101 D101 st101
  have Hc102 := CHv.ext E101 hH
  have Cr102 := Cr0.trans (CHr.ext E101 hH)
  have F103 : Fld Z h101 b101 "com/example/rouse/rouse/shell/CommandLine" "characters" "[C" .null := D101 (Or.inl (own_w hw 20 rfl)) (ty := (.array .char)) (by decide)
  have F104 : Fld Z h101 b101 "com/example/rouse/rouse/shell/CommandLine" "wordEnds" "[I" .null := D101 (Or.inl (own_w hw 23 rfl)) (ty := (.array .int)) (by decide)
  have F105 : Fld Z h101 b101 "com/example/rouse/rouse/shell/CommandLine" "maxCharacters" "I" (.int (0 : Int32)) := D101 (Or.inr (own_w hw 25 rfl)) (ty := .int) (by decide)
  have F106 : Fld Z h101 b101 "com/example/rouse/rouse/shell/CommandLine" "maxWords" "I" (.int (0 : Int32)) := D101 (Or.inr (own_w hw 27 rfl)) (ty := .int) (by decide)
  have F107 : Fld Z h101 b101 "com/example/rouse/rouse/shell/CommandLine" "words" "I" (.int (0 : Int32)) := D101 (Or.inl (own_w hw 34 rfl)) (ty := .int) (by decide)
  have F108 : Fld Z h101 b101 "com/example/rouse/rouse/shell/CommandLine" "length" "I" (.int (0 : Int32)) := D101 (Or.inl (own_w hw 36 rfl)) (ty := .int) (by decide)
  have F109 : Fld Z h101 b101 "com/example/rouse/rouse/shell/CommandLine" "commandStart" "I" (.int (0 : Int32)) := D101 (Or.inl (own_w hw 43 rfl)) (ty := .int) (by decide)
  have g110 : n0 ≤ b101 := Nat.le_trans Z0 (Nat.le_of_eq g101.symm)
  have z112 : n0 ≤ h101.size := (Nat.le_trans Z0 E101.1)
  obtain ⟨_, _, ⟨T111, L111, k111, n111⟩, -, X111, ⟨Lc111, hQ111, l111, y111, z111⟩, st111⟩ := X101.specialBack hx (y := (⟨"com/example/rouse/rouse/shell/CommandLine", "<init>", "(II)V"⟩ : MethodName)) rfl hown (mvT hZ (own_w hw 12 rfl)) (mvT hZ (own_w hw 13 rfl)) (mvT hZ (own_w hw 14 rfl)) (by decide) (backOf (W := 1) (rm1x50 l Z a0 hw [] b101 h101 n0 z112 A101 F103 g110 F104 F105 F106 F109 F108 F107) hZ (own_w hw 14 rfl) (own_w hw 11 rfl) (by decide) (by decide)) (g := (mkF m 93 #[.val (.int p1), .val (.int p2), .val (.int p3), .val (.int v3), .val (.int v4), .val (.int v5), .val (.int c1), .val (.int c2), .val (.ref s8), .val (.ref s9), .unset, .unset, .unset, .unset, .unset, .unset] [(.int (16 : Int32)), (.int (16 : Int32)), (.ref b101), (.ref b101)])) rfl (by rw [hml]; rfl) (Steps.refl _) (a := b101) (argsL := [(.int (16 : Int32)), (.int (16 : Int32))]) (rest := [(.ref b101)]) (lenOf pd_29 rfl) rfl (by show 2 * 0 + _ ≤ _; exact Nat.le_of_eq rfl) (hb hby at_93) (fun _ _ => ⟨rfl, e101, (by decide : 5 + 2 ≤ _), (by decide : 31 + 32 ≤ _)⟩)
  dsimp only [Pt.U, Pt.locs, Pt.cells, Pt.slots] at X111 l111 y111 z111 st111 hQ111
  subst l111 y111 z111
  obtain ⟨b106111, k106111, b102111, k102111, rfl, Nq111, K111, R111_1, R111_2, R111_3, R111_4, R111_5, R111_6, R111_7, R111_8, R111_9, R111_10, R111_11, R111_12, R111_13, R111_14⟩ := hQ111
  have N111 := Fr.app N0 Nq111
  have hs113 : ∀ x ∈ ([b101] : List Addr), Safe Z own_EL vm0 h101 x := (allS (P := fun x => Safe Z own_EL vm0 h101 x) (Safe.exa hZ.alike A101 (by decide) (by decide)) (all0 (P := fun x => Safe Z own_EL vm0 h101 x)))
  have Hc113 := CHv.keep K111 hs113 Hc102
  have Cr113 := Cr102.trans (CHr.keep K111 hs113 Hc102)
  have SbR111_8 := Safe.keep K111 hs113 Hc102 (Safe.new R111_8)
  have SbR111_11 := Safe.keep K111 hs113 Hc102 (Safe.new R111_11)
  have pre114 : ∀ t, Steps p.tables e below (T111.setTop (mkF m 99 #[.val (.int p1), .val (.int p2), .val (.int p3), .val (.int v3), .val (.int v4), .val (.int v5), .val (.int c1), .val (.int c2), .val (.ref s8), .val (.ref s9), .val (.ref b101), .unset, .unset, .unset, .unset, .unset] [(.int v3)])) t → Steps p.tables e below (s₁.setTop (entryFrame m #[(.int p1), (.int p2), (.int p3)] maxLocals)) t := fun t kt => by
    refine pre0 t ?_
    show Steps p.tables e below (T.setTop (mkF m 85 #[.val (.int p1), .val (.int p2), .val (.int p3), .val (.int v3), .val (.int v4), .val (.int v5), .val (.int c1), .val (.int c2), .val (.ref s8), .val (.ref s9), .unset, .unset, .unset, .unset, .unset, .unset] [])) _
    refine st101 _ ?_
    refine XS.dup X101.here hx rfl (hb hby at_88) rfl rfl ?_
    refine XS.bipush X101.here hx rfl (hb hby at_89) ?_
    refine XS.bipush X101.here hx rfl (hb hby at_91) ?_
    show Steps p.tables e below (T101.setTop (mkF m 93 #[.val (.int p1), .val (.int p2), .val (.int p3), .val (.int v3), .val (.int v4), .val (.int v5), .val (.int c1), .val (.int c2), .val (.ref s8), .val (.ref s9), .unset, .unset, .unset, .unset, .unset, .unset] [(.int (16 : Int32)), (.int (16 : Int32)), (.ref b101), (.ref b101)])) _
    refine st111.trans ?_
    show Steps p.tables e below (T111.setTop (mkF m 96 #[.val (.int p1), .val (.int p2), .val (.int p3), .val (.int v3), .val (.int v4), .val (.int v5), .val (.int c1), .val (.int c2), .val (.ref s8), .val (.ref s9), .unset, .unset, .unset, .unset, .unset, .unset] [(.ref b101)])) _
    refine XS.astore X111.here hx rfl (hb hby at_96) rfl rfl (l' := #[.val (.int p1), .val (.int p2), .val (.int p3), .val (.int v3), .val (.int v4), .val (.int v5), .val (.int c1), .val (.int c2), .val (.ref s8), .val (.ref s9), .val (.ref b101), .unset, .unset, .unset, .unset, .unset]) rfl ?_
    refine XS.iloadN X111.here hx rfl (hb hby at_98) rfl ?_
    show Steps p.tables e below (T111.setTop (mkF m 99 #[.val (.int p1), .val (.int p2), .val (.int p3), .val (.int v3), .val (.int v4), .val (.int v5), .val (.int c1), .val (.int c2), .val (.ref s8), .val (.ref s9), .val (.ref b101), .unset, .unset, .unset, .unset, .unset] [(.int v3)])) _
    exact kt
  by_cases hc99_115 : v3 = (0 : Int32)
  · skip
    have f116 := (A101.keep K111)
    have g117 : n0 ≤ b106111 := Nat.le_trans z112 R111_8
    have z119 : n0 ≤ T111.heap.size := (Nat.le_trans z112 K111.1)
    obtain ⟨cq118, kq118, q118a, q118b, q118c⟩ := isOf hZ rfl f116
    obtain ⟨_, _, ⟨T118, L118, k118, n118⟩, -, X118, ⟨Lc118, hQ118, l118, y118, z118⟩, st118⟩ := X111.virtualBack hx (y := (⟨"com/example/rouse/rouse/shell/CommandLine", "endWord", "()V"⟩ : MethodName)) (z := (⟨"com/example/rouse/rouse/shell/CommandLine", "endWord", "()V"⟩ : MethodName)) hown (mvT hZ (own_w hw 28 rfl)) (mvT hZ (own_w hw 29 rfl)) (notFace_of_selects (args := #[]) (mvT hZ (own_w hw 31 rfl))) (mvT hZ (own_w hw 31 rfl)) (mvT hZ (own_w hw 30 rfl)) (by decide) (backOf (W := 0) (rm3k0 l Z a0 hw [] b101 b102111 b106111 k106111 (0 : Int32) (0 : Int32) (0 : Int32) (0 : Int32) T111.heap n0 z119 f116 R111_7 R111_2 R111_3 R111_1 R111_6 R111_10 g110 g117) hZ (own_w hw 32 rfl) (own_w hw 11 rfl) (by decide) (by decide)) q118a q118c (g := (mkF m 111 #[.val (.int p1), .val (.int p2), .val (.int p3), .val (.int v3), .val (.int v4), .val (.int v5), .val (.int c1), .val (.int c2), .val (.ref s8), .val (.ref s9), .val (.ref b101), .unset, .unset, .unset, .unset, .unset] [(.ref b101)])) rfl (by rw [hml]; rfl) (Steps.refl _) (argsL := []) (rest := []) (lenOf pd_14 rfl) rfl (by show 2 * 0 + _ ≤ _; exact Nat.le_of_eq rfl) (hb hby at_111) (fun _ _ => ⟨rfl, rfl, (by decide : 7 + 0 ≤ _), (by decide : 63 + 0 ≤ _)⟩)
    dsimp only [Pt.U, Pt.locs, Pt.cells, Pt.slots] at X118 l118 y118 z118 st118 hQ118
    subst l118 y118 z118
    obtain ⟨rfl, Nq118, K118, R118_1, R118_2, R118_3, R118_4, R118_5, R118_6⟩ := hQ118
    have N118 := Fr.app N111 Nq118
    have hs120 : ∀ x ∈ ([b101, b106111] : List Addr), Safe Z own_EL vm0 T111.heap x := (allS (P := fun x => Safe Z own_EL vm0 T111.heap x) (Safe.exa hZ.alike f116 (by decide) (by decide)) (allS (P := fun x => Safe Z own_EL vm0 T111.heap x) SbR111_8 (all0 (P := fun x => Safe Z own_EL vm0 T111.heap x))))
    have Hc120 := CHv.keep K118 hs120 Hc113
    have Cr120 := Cr113.trans (CHr.keep K118 hs120 Hc113)
    have Sf120_0 := Safe.keep K118 hs120 Hc113 SbR111_8
    have Sf120_1 := Safe.keep K118 hs120 Hc113 SbR111_11
    have pre121 : ∀ t, Steps p.tables e below (T118.setTop (mkF m 116 #[.val (.int p1), .val (.int p2), .val (.int p3), .val (.int v3), .val (.int v4), .val (.int v5), .val (.int c1), .val (.int c2), .val (.ref s8), .val (.ref s9), .val (.ref b101), .unset, .unset, .unset, .unset, .unset] [(.int v4)])) t → Steps p.tables e below (s₁.setTop (entryFrame m #[(.int p1), (.int p2), (.int p3)] maxLocals)) t := fun t kt => by
      refine pre114 t ?_
      show Steps p.tables e below (T111.setTop (mkF m 99 #[.val (.int p1), .val (.int p2), .val (.int p3), .val (.int v3), .val (.int v4), .val (.int v5), .val (.int c1), .val (.int c2), .val (.ref s8), .val (.ref s9), .val (.ref b101), .unset, .unset, .unset, .unset, .unset] [(.int v3)])) _
      refine XS.ifYes X111.here hx rfl (pc0 := 99) (pc' := 109) rfl (hb hby at_99) rfl ((if0 _ _).trans (teq (hc99_115 : v3 = (0 : Int32))).1) (by decide) (by decide) ?_
      refine XS.aload X111.here hx rfl (hb hby at_109) rfl rfl ?_
      show Steps p.tables e below (T111.setTop (mkF m 111 #[.val (.int p1), .val (.int p2), .val (.int p3), .val (.int v3), .val (.int v4), .val (.int v5), .val (.int c1), .val (.int c2), .val (.ref s8), .val (.ref s9), .val (.ref b101), .unset, .unset, .unset, .unset, .unset] [(.ref b101)])) _
      refine st118.trans ?_
      show Steps p.tables e below (T118.setTop (mkF m 114 #[.val (.int p1), .val (.int p2), .val (.int p3), .val (.int v3), .val (.int v4), .val (.int v5), .val (.int c1), .val (.int c2), .val (.ref s8), .val (.ref s9), .val (.ref b101), .unset, .unset, .unset, .unset, .unset] [])) _
      refine XS.iload X118.here hx rfl (hb hby at_114) rfl ?_
      show Steps p.tables e below (T118.setTop (mkF m 116 #[.val (.int p1), .val (.int p2), .val (.int p3), .val (.int v3), .val (.int v4), .val (.int v5), .val (.int c1), .val (.int c2), .val (.ref s8), .val (.ref s9), .val (.ref b101), .unset, .unset, .unset, .unset, .unset] [(.int v4)])) _
      exact kt
    by_cases hc116_122 : v4 = (0 : Int32)
    · skip
      have z124 : n0 ≤ T118.heap.size := (Nat.le_trans z119 K118.1)
      have f125 := (f116.keep K118)
      obtain ⟨cq123, kq123, q123a, q123b, q123c⟩ := isOf hZ rfl f125
      obtain ⟨_, _, ⟨T123, L123, k123, n123⟩, -, X123, ⟨Lc123, hQ123, l123, y123, z123⟩, st123⟩ := X118.virtualBack hx (y := (⟨"com/example/rouse/rouse/shell/CommandLine", "commandHasWords", "()Z"⟩ : MethodName)) (z := (⟨"com/example/rouse/rouse/shell/CommandLine", "commandHasWords", "()Z"⟩ : MethodName)) hown (mvT hZ (own_w hw 44 rfl)) (mvT hZ (own_w hw 45 rfl)) (notFace_of_selects (args := #[]) (mvT hZ (own_w hw 47 rfl))) (mvT hZ (own_w hw 47 rfl)) (mvT hZ (own_w hw 46 rfl)) (by decide) (backOf (W := 0) (rm5x51 l Z a0 hw [] b101 T118.heap n0 z124 R118_1 R118_2) hZ (own_w hw 48 rfl) (own_w hw 11 rfl) (by decide) (by decide)) q123a q123c (g := (mkF m 126 #[.val (.int p1), .val (.int p2), .val (.int p3), .val (.int v3), .val (.int v4), .val (.int v5), .val (.int c1), .val (.int c2), .val (.ref s8), .val (.ref s9), .val (.ref b101), .unset, .unset, .unset, .unset, .unset] [(.ref b101)])) rfl (by rw [hml]; rfl) (Steps.refl _) (argsL := []) (rest := []) (lenOf pd_22 rfl) rfl (by show 2 * 0 + _ ≤ _; exact Nat.le_of_eq rfl) (hb hby at_126) (fun _ _ => ⟨rfl, rfl, (by decide : 7 + 0 ≤ _), (by decide : 63 + 0 ≤ _)⟩)
      dsimp only [Pt.U, Pt.locs, Pt.cells, Pt.slots] at X123 l123 y123 z123 st123 hQ123
      subst l123 y123 z123
      obtain ⟨rfl, Nq123, Heq123⟩ := hQ123
      have N123 := Fr.app N118 Nq123
      have pre126 : ∀ t, Steps p.tables e below (T123.setTop (mkF m 131 #[.val (.int p1), .val (.int p2), .val (.int p3), .val (.int v3), .val (.int v4), .val (.int v5), .val (.int c1), .val (.int c2), .val (.ref s8), .val (.ref s9), .val (.ref b101), .val (.int (1 : Int32)), .unset, .unset, .unset, .unset] [])) t → Steps p.tables e below (s₁.setTop (entryFrame m #[(.int p1), (.int p2), (.int p3)] maxLocals)) t := fun t kt => by
        refine pre121 t ?_
        show Steps p.tables e below (T118.setTop (mkF m 116 #[.val (.int p1), .val (.int p2), .val (.int p3), .val (.int v3), .val (.int v4), .val (.int v5), .val (.int c1), .val (.int c2), .val (.ref s8), .val (.ref s9), .val (.ref b101), .unset, .unset, .unset, .unset, .unset] [(.int v4)])) _
        refine XS.ifYes X118.here hx rfl (pc0 := 116) (pc' := 124) rfl (hb hby at_116) rfl ((if0 _ _).trans (teq (hc116_122 : v4 = (0 : Int32))).1) (by decide) (by decide) ?_
        refine XS.aload X118.here hx rfl (hb hby at_124) rfl rfl ?_
        show Steps p.tables e below (T118.setTop (mkF m 126 #[.val (.int p1), .val (.int p2), .val (.int p3), .val (.int v3), .val (.int v4), .val (.int v5), .val (.int c1), .val (.int c2), .val (.ref s8), .val (.ref s9), .val (.ref b101), .unset, .unset, .unset, .unset, .unset] [(.ref b101)])) _
        refine st123.trans ?_
        show Steps p.tables e below (T123.setTop (mkF m 129 #[.val (.int p1), .val (.int p2), .val (.int p3), .val (.int v3), .val (.int v4), .val (.int v5), .val (.int c1), .val (.int c2), .val (.ref s8), .val (.ref s9), .val (.ref b101), .unset, .unset, .unset, .unset, .unset] [(.int (1 : Int32))])) _
        refine XS.istore X123.here hx rfl (hb hby at_129) rfl (l' := #[.val (.int p1), .val (.int p2), .val (.int p3), .val (.int v3), .val (.int v4), .val (.int v5), .val (.int c1), .val (.int c2), .val (.ref s8), .val (.ref s9), .val (.ref b101), .val (.int (1 : Int32)), .unset, .unset, .unset, .unset]) rfl ?_
        show Steps p.tables e below (T123.setTop (mkF m 131 #[.val (.int p1), .val (.int p2), .val (.int p3), .val (.int v3), .val (.int v4), .val (.int v5), .val (.int c1), .val (.int c2), .val (.ref s8), .val (.ref s9), .val (.ref b101), .val (.int (1 : Int32)), .unset, .unset, .unset, .unset] [])) _
        exact kt
      have f127 := (own_sta_keep (own_sta_keep (H0.ext E101) K111 (own_plS (own_pl_exa A101) own_pl0)) K118 (own_plS (own_pl_exa f116) (own_plS (own_pl_exa R111_9) own_pl0)))
      have f128 := (own_sta_keep (own_sta_keep (H2.ext E101) K111 (own_plS (own_pl_exa A101) own_pl0)) K118 (own_plS (own_pl_exa f116) (own_plS (own_pl_exa R111_9) own_pl0)))
      have f129 := (own_sta_keep (own_sta_keep (H3.ext E101) K111 (own_plS (own_pl_exa A101) own_pl0)) K118 (own_plS (own_pl_exa f116) (own_plS (own_pl_exa R111_9) own_pl0)))
      have f130 := (own_sta_keep (own_sta_keep (H4.ext E101) K111 (own_plS (own_pl_exa A101) own_pl0)) K118 (own_plS (own_pl_exa f116) (own_plS (own_pl_exa R111_9) own_pl0)))
      have f131 := (own_sta_keep (own_sta_keep (H5.ext E101) K111 (own_plS (own_pl_exa A101) own_pl0)) K118 (own_plS (own_pl_exa f116) (own_plS (own_pl_exa R111_9) own_pl0)))
      have f132 := (((H7.ext E101).keep K111).keep K118)
      have ne133 : s8 ≠ b101 := (Nat.ne_of_lt (Nat.lt_of_lt_of_le H7.lt (Nat.le_of_eq g101.symm)))
      have ne134 : s8 ≠ b106111 := (Nat.ne_of_lt (Nat.lt_of_lt_of_le (H7.ext E101).lt R111_8))
      have f135 := (((H8.ext E101).keep K111 (ninS ne133 nin0)).keep K118 (ninS ne133 (ninS ne134 nin0)))
      have f136 := (((H9.ext E101).keep K111 (ninS ne133 nin0)).keep K118 (ninS ne133 (ninS ne134 nin0)))
      have ne137 : b8 ≠ b101 := (Nat.ne_of_lt (Nat.lt_of_lt_of_le H10.lt (Nat.le_of_eq g101.symm)))
      have ne138 : b8 ≠ b106111 := (Nat.ne_of_lt (Nat.lt_of_lt_of_le (H10.ext E101).lt R111_8))
      have f139 := (((H10.ext E101).keep K111 (ninS ne137 nin0)).keep K118 (ninS ne137 (ninS ne138 nin0)))
      have f140 := (((H11.ext E101).keep K111).keep K118)
      have ne141 : s9 ≠ b101 := (Nat.ne_of_lt (Nat.lt_of_lt_of_le H11.lt (Nat.le_of_eq g101.symm)))
      have ne142 : s9 ≠ b106111 := (Nat.ne_of_lt (Nat.lt_of_lt_of_le (H11.ext E101).lt R111_8))
      have f143 := (((H12.ext E101).keep K111 (ninS ne141 nin0)).keep K118 (ninS ne141 (ninS ne142 nin0)))
      have f144 := (((H13.ext E101).keep K111 (ninS ne141 nin0)).keep K118 (ninS ne141 (ninS ne142 nin0)))
      have ne145 : b9 ≠ b101 := (Nat.ne_of_lt (Nat.lt_of_lt_of_le H14.lt (Nat.le_of_eq g101.symm)))
      have ne146 : b9 ≠ b106111 := (Nat.ne_of_lt (Nat.lt_of_lt_of_le (H14.ext E101).lt R111_8))
      have f147 := (((H14.ext E101).keep K111 (ninS ne145 nin0)).keep K118 (ninS ne145 (ninS ne146 nin0)))
      have ne148 : b101 ≠ b102111 := (Nat.ne_of_lt (Nat.lt_of_lt_of_le A101.lt R111_11))
      have f149 := (R111_13.keep K118 (ninS (Ne.symm ne148) (ninS R111_14 nin0)))
      have g150 : n0 ≤ b102111 := Nat.le_trans (Nat.le_trans Z0 E101.1) R111_11
      exact tl_C l Z a0 hw ws hEL p1 p2 p3 cz sf v3 v4 v5 c1 c2 s8 s9 b8 k8 b9 k9 b101 b102111 k102111 (0 : Int32) (0 : Int32) b106111 k106111 (0 : Int32) (0 : Int32) (0 : Int32) (1 : Int32) hs n0 T118.heap z124 f127 H1 f128 f129 f130 f131 H6 f132 f135 f136 f139 f140 f143 f144 f147 f125 R118_1 R118_2 (by rw [hc99_115]; exact R118_3) R118_4 R118_5 f149 R118_6 g110 g150 g117 R111_14 own_chr0 own_chr0 H16 H17 H19 (by rw [hc99_115]; decide) (⟨fun _ => by decide, fun q => absurd hc116_122 q⟩) (by rw [hc116_122]; decide) (Or.inl hc99_115) Bd hml hh hZ hown (X123.mono (by decide) (by decide)) N123 Heq123 hS0 (Nat.le_trans (Nat.le_trans (Nat.le_trans hk0 E101.1) K111.1) K118.1) Hc120 Cr120 pre126
    · skip
      have f151 := (f116.keep K118)
      have z153 : n0 ≤ T118.heap.size := (Nat.le_trans z119 K118.1)
      obtain ⟨cq152, kq152, q152a, q152b, q152c⟩ := isOf hZ rfl f151
      obtain ⟨_, _, ⟨T152, L152, k152, n152⟩, -, X152, ⟨Lc152, hQ152, l152, y152, z152⟩, st152⟩ := X118.virtualBack hx (y := (⟨"com/example/rouse/rouse/shell/CommandLine", "endCommand", "()V"⟩ : MethodName)) (z := (⟨"com/example/rouse/rouse/shell/CommandLine", "endCommand", "()V"⟩ : MethodName)) hown (mvT hZ (own_w hw 37 rfl)) (mvT hZ (own_w hw 38 rfl)) (notFace_of_selects (args := #[]) (mvT hZ (own_w hw 40 rfl))) (mvT hZ (own_w hw 40 rfl)) (mvT hZ (own_w hw 39 rfl)) (by decide) (backOf (W := 0) (rm4k0 l Z a0 hw [] b101 b102111 b106111 k106111 (0 : Int32) (0 : Int32) (0 : Int32) (0 : Int32) T118.heap n0 z153 f151 R118_1 R118_2 R118_3 R118_4 R118_5 R118_6 g110 g117) hZ (own_w hw 41 rfl) (own_w hw 11 rfl) (by decide) (by decide)) q152a q152c (g := (mkF m 121 #[.val (.int p1), .val (.int p2), .val (.int p3), .val (.int v3), .val (.int v4), .val (.int v5), .val (.int c1), .val (.int c2), .val (.ref s8), .val (.ref s9), .val (.ref b101), .unset, .unset, .unset, .unset, .unset] [(.ref b101)])) rfl (by rw [hml]; rfl) (Steps.refl _) (argsL := []) (rest := []) (lenOf pd_14 rfl) rfl (by show 2 * 0 + _ ≤ _; exact Nat.le_of_eq rfl) (hb hby at_121) (fun _ _ => ⟨rfl, rfl, (by decide : 7 + 0 ≤ _), (by decide : 63 + 0 ≤ _)⟩)
      dsimp only [Pt.U, Pt.locs, Pt.cells, Pt.slots] at X152 l152 y152 z152 st152 hQ152
      subst l152 y152 z152
      obtain ⟨rfl, Nq152, K152, R152_1, R152_2, R152_3, R152_4, R152_5, R152_6⟩ := hQ152
      have N152 := Fr.app N118 Nq152
      have hs154 : ∀ x ∈ ([b101, b106111] : List Addr), Safe Z own_EL vm0 T118.heap x := (allS (P := fun x => Safe Z own_EL vm0 T118.heap x) (Safe.exa hZ.alike f151 (by decide) (by decide)) (allS (P := fun x => Safe Z own_EL vm0 T118.heap x) Sf120_0 (all0 (P := fun x => Safe Z own_EL vm0 T118.heap x))))
      have Hc154 := CHv.keep K152 hs154 Hc120
      have Cr154 := Cr120.trans (CHr.keep K152 hs154 Hc120)
      have Sf154_0 := Safe.keep K152 hs154 Hc120 Sf120_0
      have Sf154_1 := Safe.keep K152 hs154 Hc120 Sf120_1
      have z156 : n0 ≤ T152.heap.size := (Nat.le_trans z153 K152.1)
      have f157 := (f151.keep K152)
      obtain ⟨cq155, kq155, q155a, q155b, q155c⟩ := isOf hZ rfl f157
      obtain ⟨_, _, ⟨T155, L155, k155, n155⟩, -, X155, ⟨Lc155, hQ155, l155, y155, z155⟩, st155⟩ := X152.virtualBack hx (y := (⟨"com/example/rouse/rouse/shell/CommandLine", "commandHasWords", "()Z"⟩ : MethodName)) (z := (⟨"com/example/rouse/rouse/shell/CommandLine", "commandHasWords", "()Z"⟩ : MethodName)) hown (mvT hZ (own_w hw 44 rfl)) (mvT hZ (own_w hw 45 rfl)) (notFace_of_selects (args := #[]) (mvT hZ (own_w hw 47 rfl))) (mvT hZ (own_w hw 47 rfl)) (mvT hZ (own_w hw 46 rfl)) (by decide) (backOf (W := 0) (rm5x52 l Z a0 hw [] b101 T152.heap n0 z156 R152_1 R152_2) hZ (own_w hw 48 rfl) (own_w hw 11 rfl) (by decide) (by decide)) q155a q155c (g := (mkF m 126 #[.val (.int p1), .val (.int p2), .val (.int p3), .val (.int v3), .val (.int v4), .val (.int v5), .val (.int c1), .val (.int c2), .val (.ref s8), .val (.ref s9), .val (.ref b101), .unset, .unset, .unset, .unset, .unset] [(.ref b101)])) rfl (by rw [hml]; rfl) (Steps.refl _) (argsL := []) (rest := []) (lenOf pd_22 rfl) rfl (by show 2 * 0 + _ ≤ _; exact Nat.le_of_eq rfl) (hb hby at_126) (fun _ _ => ⟨rfl, rfl, (by decide : 7 + 0 ≤ _), (by decide : 63 + 0 ≤ _)⟩)
      dsimp only [Pt.U, Pt.locs, Pt.cells, Pt.slots] at X155 l155 y155 z155 st155 hQ155
      subst l155 y155 z155
      obtain ⟨rfl, Nq155, Heq155⟩ := hQ155
      have N155 := Fr.app N152 Nq155
      have pre158 : ∀ t, Steps p.tables e below (T155.setTop (mkF m 131 #[.val (.int p1), .val (.int p2), .val (.int p3), .val (.int v3), .val (.int v4), .val (.int v5), .val (.int c1), .val (.int c2), .val (.ref s8), .val (.ref s9), .val (.ref b101), .val (.int (0 : Int32)), .unset, .unset, .unset, .unset] [])) t → Steps p.tables e below (s₁.setTop (entryFrame m #[(.int p1), (.int p2), (.int p3)] maxLocals)) t := fun t kt => by
        refine pre121 t ?_
        show Steps p.tables e below (T118.setTop (mkF m 116 #[.val (.int p1), .val (.int p2), .val (.int p3), .val (.int v3), .val (.int v4), .val (.int v5), .val (.int c1), .val (.int c2), .val (.ref s8), .val (.ref s9), .val (.ref b101), .unset, .unset, .unset, .unset, .unset] [(.int v4)])) _
        refine XS.ifNo X118.here hx rfl (hb hby at_116) rfl ((if0 _ _).trans (feq (hc116_122 : ¬ (v4 = (0 : Int32)))).1) ?_
        refine XS.aload X118.here hx rfl (hb hby at_119) rfl rfl ?_
        show Steps p.tables e below (T118.setTop (mkF m 121 #[.val (.int p1), .val (.int p2), .val (.int p3), .val (.int v3), .val (.int v4), .val (.int v5), .val (.int c1), .val (.int c2), .val (.ref s8), .val (.ref s9), .val (.ref b101), .unset, .unset, .unset, .unset, .unset] [(.ref b101)])) _
        refine st152.trans ?_
        show Steps p.tables e below (T152.setTop (mkF m 124 #[.val (.int p1), .val (.int p2), .val (.int p3), .val (.int v3), .val (.int v4), .val (.int v5), .val (.int c1), .val (.int c2), .val (.ref s8), .val (.ref s9), .val (.ref b101), .unset, .unset, .unset, .unset, .unset] [])) _
        refine XS.aload X152.here hx rfl (hb hby at_124) rfl rfl ?_
        show Steps p.tables e below (T152.setTop (mkF m 126 #[.val (.int p1), .val (.int p2), .val (.int p3), .val (.int v3), .val (.int v4), .val (.int v5), .val (.int c1), .val (.int c2), .val (.ref s8), .val (.ref s9), .val (.ref b101), .unset, .unset, .unset, .unset, .unset] [(.ref b101)])) _
        refine st155.trans ?_
        show Steps p.tables e below (T155.setTop (mkF m 129 #[.val (.int p1), .val (.int p2), .val (.int p3), .val (.int v3), .val (.int v4), .val (.int v5), .val (.int c1), .val (.int c2), .val (.ref s8), .val (.ref s9), .val (.ref b101), .unset, .unset, .unset, .unset, .unset] [(.int (0 : Int32))])) _
        refine XS.istore X155.here hx rfl (hb hby at_129) rfl (l' := #[.val (.int p1), .val (.int p2), .val (.int p3), .val (.int v3), .val (.int v4), .val (.int v5), .val (.int c1), .val (.int c2), .val (.ref s8), .val (.ref s9), .val (.ref b101), .val (.int (0 : Int32)), .unset, .unset, .unset, .unset]) rfl ?_
        show Steps p.tables e below (T155.setTop (mkF m 131 #[.val (.int p1), .val (.int p2), .val (.int p3), .val (.int v3), .val (.int v4), .val (.int v5), .val (.int c1), .val (.int c2), .val (.ref s8), .val (.ref s9), .val (.ref b101), .val (.int (0 : Int32)), .unset, .unset, .unset, .unset] [])) _
        exact kt
      have f159 := (own_sta_keep (own_sta_keep (own_sta_keep (H0.ext E101) K111 (own_plS (own_pl_exa A101) own_pl0)) K118 (own_plS (own_pl_exa f116) (own_plS (own_pl_exa R111_9) own_pl0))) K152 (own_plS (own_pl_exa f151) (own_plS (own_pl_exa (R111_9.keep K118)) own_pl0)))
      have f160 := (own_sta_keep (own_sta_keep (own_sta_keep (H2.ext E101) K111 (own_plS (own_pl_exa A101) own_pl0)) K118 (own_plS (own_pl_exa f116) (own_plS (own_pl_exa R111_9) own_pl0))) K152 (own_plS (own_pl_exa f151) (own_plS (own_pl_exa (R111_9.keep K118)) own_pl0)))
      have f161 := (own_sta_keep (own_sta_keep (own_sta_keep (H3.ext E101) K111 (own_plS (own_pl_exa A101) own_pl0)) K118 (own_plS (own_pl_exa f116) (own_plS (own_pl_exa R111_9) own_pl0))) K152 (own_plS (own_pl_exa f151) (own_plS (own_pl_exa (R111_9.keep K118)) own_pl0)))
      have f162 := (own_sta_keep (own_sta_keep (own_sta_keep (H4.ext E101) K111 (own_plS (own_pl_exa A101) own_pl0)) K118 (own_plS (own_pl_exa f116) (own_plS (own_pl_exa R111_9) own_pl0))) K152 (own_plS (own_pl_exa f151) (own_plS (own_pl_exa (R111_9.keep K118)) own_pl0)))
      have f163 := (own_sta_keep (own_sta_keep (own_sta_keep (H5.ext E101) K111 (own_plS (own_pl_exa A101) own_pl0)) K118 (own_plS (own_pl_exa f116) (own_plS (own_pl_exa R111_9) own_pl0))) K152 (own_plS (own_pl_exa f151) (own_plS (own_pl_exa (R111_9.keep K118)) own_pl0)))
      have f164 := ((((H7.ext E101).keep K111).keep K118).keep K152)
      have ne165 : s8 ≠ b101 := (Nat.ne_of_lt (Nat.lt_of_lt_of_le H7.lt (Nat.le_of_eq g101.symm)))
      have ne166 : s8 ≠ b106111 := (Nat.ne_of_lt (Nat.lt_of_lt_of_le (H7.ext E101).lt R111_8))
      have f167 := ((((H8.ext E101).keep K111 (ninS ne165 nin0)).keep K118 (ninS ne165 (ninS ne166 nin0))).keep K152 (ninS ne165 (ninS ne166 nin0)))
      have f168 := ((((H9.ext E101).keep K111 (ninS ne165 nin0)).keep K118 (ninS ne165 (ninS ne166 nin0))).keep K152 (ninS ne165 (ninS ne166 nin0)))
      have ne169 : b8 ≠ b101 := (Nat.ne_of_lt (Nat.lt_of_lt_of_le H10.lt (Nat.le_of_eq g101.symm)))
      have ne170 : b8 ≠ b106111 := (Nat.ne_of_lt (Nat.lt_of_lt_of_le (H10.ext E101).lt R111_8))
      have f171 := ((((H10.ext E101).keep K111 (ninS ne169 nin0)).keep K118 (ninS ne169 (ninS ne170 nin0))).keep K152 (ninS ne169 (ninS ne170 nin0)))
      have f172 := ((((H11.ext E101).keep K111).keep K118).keep K152)
      have ne173 : s9 ≠ b101 := (Nat.ne_of_lt (Nat.lt_of_lt_of_le H11.lt (Nat.le_of_eq g101.symm)))
      have ne174 : s9 ≠ b106111 := (Nat.ne_of_lt (Nat.lt_of_lt_of_le (H11.ext E101).lt R111_8))
      have f175 := ((((H12.ext E101).keep K111 (ninS ne173 nin0)).keep K118 (ninS ne173 (ninS ne174 nin0))).keep K152 (ninS ne173 (ninS ne174 nin0)))
      have f176 := ((((H13.ext E101).keep K111 (ninS ne173 nin0)).keep K118 (ninS ne173 (ninS ne174 nin0))).keep K152 (ninS ne173 (ninS ne174 nin0)))
      have ne177 : b9 ≠ b101 := (Nat.ne_of_lt (Nat.lt_of_lt_of_le H14.lt (Nat.le_of_eq g101.symm)))
      have ne178 : b9 ≠ b106111 := (Nat.ne_of_lt (Nat.lt_of_lt_of_le (H14.ext E101).lt R111_8))
      have f179 := ((((H14.ext E101).keep K111 (ninS ne177 nin0)).keep K118 (ninS ne177 (ninS ne178 nin0))).keep K152 (ninS ne177 (ninS ne178 nin0)))
      have ne180 : b101 ≠ b102111 := (Nat.ne_of_lt (Nat.lt_of_lt_of_le A101.lt R111_11))
      have f181 := ((R111_13.keep K118 (ninS (Ne.symm ne180) (ninS R111_14 nin0))).keep K152 (ninS (Ne.symm ne180) (ninS R111_14 nin0)))
      have g182 : n0 ≤ b102111 := Nat.le_trans (Nat.le_trans Z0 E101.1) R111_11
      exact tl_C l Z a0 hw ws hEL p1 p2 p3 cz sf v3 v4 v5 c1 c2 s8 s9 b8 k8 b9 k9 b101 b102111 k102111 (0 : Int32) (0 : Int32) b106111 k106111 ((0 : Int32) ^^^ (-1 : Int32)) (0 : Int32) (1 : Int32) (0 : Int32) hs n0 T152.heap z156 f159 H1 f160 f161 f162 f163 H6 f164 f167 f168 f171 f172 f175 f176 f179 f157 R152_1 R152_2 (by rw [hc99_115]; exact R152_3) R152_4 R152_5 f181 R152_6 g110 g182 g117 R111_14 own_chr0 own_chr0 H16 H17 H19 (by rw [hc99_115]; decide) (⟨fun q => absurd q hc116_122, fun _ => by decide⟩) (fun q => hc116_122 q.symm) (Or.inl hc99_115) Bd hml hh hZ hown (X155.mono (by decide) (by decide)) N155 Heq155 hS0 (Nat.le_trans (Nat.le_trans (Nat.le_trans (Nat.le_trans hk0 E101.1) K111.1) K118.1) K152.1) Hc154 Cr154 pre158
  · skip
    have f183 := (A101.keep K111)
    have g184 : n0 ≤ b102111 := Nat.le_trans z112 R111_11
    have z186 : n0 ≤ T111.heap.size := (Nat.le_trans z112 K111.1)
    obtain ⟨cq185, kq185, q185a, q185b, q185c⟩ := isOf hZ rfl f183
    obtain ⟨_, _, ⟨T185, L185, k185, n185⟩, -, X185, ⟨Lc185, hQ185, l185, y185, z185⟩, st185⟩ := X111.virtualBack hx (y := (⟨"com/example/rouse/rouse/shell/CommandLine", "append", "(C)V"⟩ : MethodName)) (z := (⟨"com/example/rouse/rouse/shell/CommandLine", "append", "(C)V"⟩ : MethodName)) hown (mvT hZ (own_w hw 194 rfl)) (mvT hZ (own_w hw 195 rfl)) (notFace_of_selects (args := #[]) (mvT hZ (own_w hw 197 rfl))) (mvT hZ (own_w hw 197 rfl)) (mvT hZ (own_w hw 196 rfl)) (by decide) (backOf (W := 0) (rm31n0 l Z a0 hw [] b101 c1 (0 : Int32) (0 : Int32) b102111 k102111 b106111 (0 : Int32) (0 : Int32) T111.heap n0 z186 f183 R111_7 R111_2 R111_3 R111_1 R111_6 R111_13 g110 g184) hZ (own_w hw 198 rfl) (own_w hw 11 rfl) (by decide) (by decide)) q185a q185c (g := (mkF m 106 #[.val (.int p1), .val (.int p2), .val (.int p3), .val (.int v3), .val (.int v4), .val (.int v5), .val (.int c1), .val (.int c2), .val (.ref s8), .val (.ref s9), .val (.ref b101), .unset, .unset, .unset, .unset, .unset] [(.int c1), (.ref b101)])) rfl (by rw [hml]; rfl) (Steps.refl _) (argsL := [(.int c1)]) (rest := []) (lenOf pd_28 rfl) rfl (by show 2 * 0 + _ ≤ _; exact Nat.le_of_eq rfl) (hb hby at_106) (fun _ _ => ⟨rfl, rfl, (by decide : 7 + 0 ≤ _), (by decide : 63 + 0 ≤ _)⟩)
    dsimp only [Pt.U, Pt.locs, Pt.cells, Pt.slots] at X185 l185 y185 z185 st185 hQ185
    subst l185 y185 z185
    obtain ⟨rfl, Nq185, K185, R185_1, R185_2, R185_3, R185_4, R185_5, R185_6⟩ := hQ185
    have N185 := Fr.app N111 Nq185
    have hs187 : ∀ x ∈ ([b101, b102111] : List Addr), Safe Z own_EL vm0 T111.heap x := (allS (P := fun x => Safe Z own_EL vm0 T111.heap x) (Safe.exa hZ.alike f183 (by decide) (by decide)) (allS (P := fun x => Safe Z own_EL vm0 T111.heap x) SbR111_11 (all0 (P := fun x => Safe Z own_EL vm0 T111.heap x))))
    have Hc187 := CHv.keep K185 hs187 Hc113
    have Cr187 := Cr113.trans (CHr.keep K185 hs187 Hc113)
    have Sf187_0 := Safe.keep K185 hs187 Hc113 SbR111_8
    have Sf187_1 := Safe.keep K185 hs187 Hc113 SbR111_11
    have f188 := (f183.keep K185)
    have ne189 : b101 ≠ b106111 := (Nat.ne_of_lt (Nat.lt_of_lt_of_le A101.lt R111_8))
    have f190 := (R111_10.keep K185 (ninS (Ne.symm ne189) (ninS (Ne.symm R111_14) nin0)))
    have g191 : n0 ≤ b106111 := Nat.le_trans (Nat.le_trans Z0 E101.1) R111_8
    have z193 : n0 ≤ T185.heap.size := (Nat.le_trans z186 K185.1)
    obtain ⟨cq192, kq192, q192a, q192b, q192c⟩ := isOf hZ rfl f188
    obtain ⟨_, _, ⟨T192, L192, k192, n192⟩, -, X192, ⟨Lc192, hQ192, l192, y192, z192⟩, st192⟩ := X185.virtualBack hx (y := (⟨"com/example/rouse/rouse/shell/CommandLine", "endWord", "()V"⟩ : MethodName)) (z := (⟨"com/example/rouse/rouse/shell/CommandLine", "endWord", "()V"⟩ : MethodName)) hown (mvT hZ (own_w hw 28 rfl)) (mvT hZ (own_w hw 29 rfl)) (notFace_of_selects (args := #[]) (mvT hZ (own_w hw 31 rfl))) (mvT hZ (own_w hw 31 rfl)) (mvT hZ (own_w hw 30 rfl)) (by decide) (backOf (W := 0) (rm3k0 l Z a0 hw [] b101 b102111 b106111 k106111 (0 : Int32) (0 : Int32) (0 : Int32) ((0 : Int32) + (1 : Int32)) T185.heap n0 z193 f188 R185_1 R185_2 R185_3 R185_4 R185_5 f190 g110 g191) hZ (own_w hw 32 rfl) (own_w hw 11 rfl) (by decide) (by decide)) q192a q192c (g := (mkF m 111 #[.val (.int p1), .val (.int p2), .val (.int p3), .val (.int v3), .val (.int v4), .val (.int v5), .val (.int c1), .val (.int c2), .val (.ref s8), .val (.ref s9), .val (.ref b101), .unset, .unset, .unset, .unset, .unset] [(.ref b101)])) rfl (by rw [hml]; rfl) (Steps.refl _) (argsL := []) (rest := []) (lenOf pd_14 rfl) rfl (by show 2 * 0 + _ ≤ _; exact Nat.le_of_eq rfl) (hb hby at_111) (fun _ _ => ⟨rfl, rfl, (by decide : 7 + 0 ≤ _), (by decide : 63 + 0 ≤ _)⟩)
    dsimp only [Pt.U, Pt.locs, Pt.cells, Pt.slots] at X192 l192 y192 z192 st192 hQ192
    subst l192 y192 z192
    obtain ⟨rfl, Nq192, K192, R192_1, R192_2, R192_3, R192_4, R192_5, R192_6⟩ := hQ192
    have N192 := Fr.app N185 Nq192
    have hs194 : ∀ x ∈ ([b101, b106111] : List Addr), Safe Z own_EL vm0 T185.heap x := (allS (P := fun x => Safe Z own_EL vm0 T185.heap x) (Safe.exa hZ.alike f188 (by decide) (by decide)) (allS (P := fun x => Safe Z own_EL vm0 T185.heap x) Sf187_0 (all0 (P := fun x => Safe Z own_EL vm0 T185.heap x))))
    have Hc194 := CHv.keep K192 hs194 Hc187
    have Cr194 := Cr187.trans (CHr.keep K192 hs194 Hc187)
    have Sf194_0 := Safe.keep K192 hs194 Hc187 Sf187_0
    have Sf194_1 := Safe.keep K192 hs194 Hc187 Sf187_1
    have pre195 : ∀ t, Steps p.tables e below (T192.setTop (mkF m 116 #[.val (.int p1), .val (.int p2), .val (.int p3), .val (.int v3), .val (.int v4), .val (.int v5), .val (.int c1), .val (.int c2), .val (.ref s8), .val (.ref s9), .val (.ref b101), .unset, .unset, .unset, .unset, .unset] [(.int v4)])) t → Steps p.tables e below (s₁.setTop (entryFrame m #[(.int p1), (.int p2), (.int p3)] maxLocals)) t := fun t kt => by
      refine pre114 t ?_
      show Steps p.tables e below (T111.setTop (mkF m 99 #[.val (.int p1), .val (.int p2), .val (.int p3), .val (.int v3), .val (.int v4), .val (.int v5), .val (.int c1), .val (.int c2), .val (.ref s8), .val (.ref s9), .val (.ref b101), .unset, .unset, .unset, .unset, .unset] [(.int v3)])) _
      refine XS.ifNo X111.here hx rfl (hb hby at_99) rfl ((if0 _ _).trans (feq (hc99_115 : ¬ (v3 = (0 : Int32)))).1) ?_
      refine XS.aload X111.here hx rfl (hb hby at_102) rfl rfl ?_
      refine XS.iload X111.here hx rfl (hb hby at_104) rfl ?_
      show Steps p.tables e below (T111.setTop (mkF m 106 #[.val (.int p1), .val (.int p2), .val (.int p3), .val (.int v3), .val (.int v4), .val (.int v5), .val (.int c1), .val (.int c2), .val (.ref s8), .val (.ref s9), .val (.ref b101), .unset, .unset, .unset, .unset, .unset] [(.int c1), (.ref b101)])) _
      refine st185.trans ?_
      show Steps p.tables e below (T185.setTop (mkF m 109 #[.val (.int p1), .val (.int p2), .val (.int p3), .val (.int v3), .val (.int v4), .val (.int v5), .val (.int c1), .val (.int c2), .val (.ref s8), .val (.ref s9), .val (.ref b101), .unset, .unset, .unset, .unset, .unset] [])) _
      refine XS.aload X185.here hx rfl (hb hby at_109) rfl rfl ?_
      show Steps p.tables e below (T185.setTop (mkF m 111 #[.val (.int p1), .val (.int p2), .val (.int p3), .val (.int v3), .val (.int v4), .val (.int v5), .val (.int c1), .val (.int c2), .val (.ref s8), .val (.ref s9), .val (.ref b101), .unset, .unset, .unset, .unset, .unset] [(.ref b101)])) _
      refine st192.trans ?_
      show Steps p.tables e below (T192.setTop (mkF m 114 #[.val (.int p1), .val (.int p2), .val (.int p3), .val (.int v3), .val (.int v4), .val (.int v5), .val (.int c1), .val (.int c2), .val (.ref s8), .val (.ref s9), .val (.ref b101), .unset, .unset, .unset, .unset, .unset] [])) _
      refine XS.iload X192.here hx rfl (hb hby at_114) rfl ?_
      show Steps p.tables e below (T192.setTop (mkF m 116 #[.val (.int p1), .val (.int p2), .val (.int p3), .val (.int v3), .val (.int v4), .val (.int v5), .val (.int c1), .val (.int c2), .val (.ref s8), .val (.ref s9), .val (.ref b101), .unset, .unset, .unset, .unset, .unset] [(.int v4)])) _
      exact kt
    by_cases hc116_196 : v4 = (0 : Int32)
    · skip
      have z198 : n0 ≤ T192.heap.size := (Nat.le_trans z193 K192.1)
      have f199 := (f188.keep K192)
      obtain ⟨cq197, kq197, q197a, q197b, q197c⟩ := isOf hZ rfl f199
      obtain ⟨_, _, ⟨T197, L197, k197, n197⟩, -, X197, ⟨Lc197, hQ197, l197, y197, z197⟩, st197⟩ := X192.virtualBack hx (y := (⟨"com/example/rouse/rouse/shell/CommandLine", "commandHasWords", "()Z"⟩ : MethodName)) (z := (⟨"com/example/rouse/rouse/shell/CommandLine", "commandHasWords", "()Z"⟩ : MethodName)) hown (mvT hZ (own_w hw 44 rfl)) (mvT hZ (own_w hw 45 rfl)) (notFace_of_selects (args := #[]) (mvT hZ (own_w hw 47 rfl))) (mvT hZ (own_w hw 47 rfl)) (mvT hZ (own_w hw 46 rfl)) (by decide) (backOf (W := 0) (rm5x51 l Z a0 hw [] b101 T192.heap n0 z198 R192_1 R192_2) hZ (own_w hw 48 rfl) (own_w hw 11 rfl) (by decide) (by decide)) q197a q197c (g := (mkF m 126 #[.val (.int p1), .val (.int p2), .val (.int p3), .val (.int v3), .val (.int v4), .val (.int v5), .val (.int c1), .val (.int c2), .val (.ref s8), .val (.ref s9), .val (.ref b101), .unset, .unset, .unset, .unset, .unset] [(.ref b101)])) rfl (by rw [hml]; rfl) (Steps.refl _) (argsL := []) (rest := []) (lenOf pd_22 rfl) rfl (by show 2 * 0 + _ ≤ _; exact Nat.le_of_eq rfl) (hb hby at_126) (fun _ _ => ⟨rfl, rfl, (by decide : 7 + 0 ≤ _), (by decide : 63 + 0 ≤ _)⟩)
      dsimp only [Pt.U, Pt.locs, Pt.cells, Pt.slots] at X197 l197 y197 z197 st197 hQ197
      subst l197 y197 z197
      obtain ⟨rfl, Nq197, Heq197⟩ := hQ197
      have N197 := Fr.app N192 Nq197
      have pre200 : ∀ t, Steps p.tables e below (T197.setTop (mkF m 131 #[.val (.int p1), .val (.int p2), .val (.int p3), .val (.int v3), .val (.int v4), .val (.int v5), .val (.int c1), .val (.int c2), .val (.ref s8), .val (.ref s9), .val (.ref b101), .val (.int (1 : Int32)), .unset, .unset, .unset, .unset] [])) t → Steps p.tables e below (s₁.setTop (entryFrame m #[(.int p1), (.int p2), (.int p3)] maxLocals)) t := fun t kt => by
        refine pre195 t ?_
        show Steps p.tables e below (T192.setTop (mkF m 116 #[.val (.int p1), .val (.int p2), .val (.int p3), .val (.int v3), .val (.int v4), .val (.int v5), .val (.int c1), .val (.int c2), .val (.ref s8), .val (.ref s9), .val (.ref b101), .unset, .unset, .unset, .unset, .unset] [(.int v4)])) _
        refine XS.ifYes X192.here hx rfl (pc0 := 116) (pc' := 124) rfl (hb hby at_116) rfl ((if0 _ _).trans (teq (hc116_196 : v4 = (0 : Int32))).1) (by decide) (by decide) ?_
        refine XS.aload X192.here hx rfl (hb hby at_124) rfl rfl ?_
        show Steps p.tables e below (T192.setTop (mkF m 126 #[.val (.int p1), .val (.int p2), .val (.int p3), .val (.int v3), .val (.int v4), .val (.int v5), .val (.int c1), .val (.int c2), .val (.ref s8), .val (.ref s9), .val (.ref b101), .unset, .unset, .unset, .unset, .unset] [(.ref b101)])) _
        refine st197.trans ?_
        show Steps p.tables e below (T197.setTop (mkF m 129 #[.val (.int p1), .val (.int p2), .val (.int p3), .val (.int v3), .val (.int v4), .val (.int v5), .val (.int c1), .val (.int c2), .val (.ref s8), .val (.ref s9), .val (.ref b101), .unset, .unset, .unset, .unset, .unset] [(.int (1 : Int32))])) _
        refine XS.istore X197.here hx rfl (hb hby at_129) rfl (l' := #[.val (.int p1), .val (.int p2), .val (.int p3), .val (.int v3), .val (.int v4), .val (.int v5), .val (.int c1), .val (.int c2), .val (.ref s8), .val (.ref s9), .val (.ref b101), .val (.int (1 : Int32)), .unset, .unset, .unset, .unset]) rfl ?_
        show Steps p.tables e below (T197.setTop (mkF m 131 #[.val (.int p1), .val (.int p2), .val (.int p3), .val (.int v3), .val (.int v4), .val (.int v5), .val (.int c1), .val (.int c2), .val (.ref s8), .val (.ref s9), .val (.ref b101), .val (.int (1 : Int32)), .unset, .unset, .unset, .unset] [])) _
        exact kt
      have f201 := (own_sta_keep (own_sta_keep (own_sta_keep (H0.ext E101) K111 (own_plS (own_pl_exa A101) own_pl0)) K185 (own_plS (own_pl_exa f183) (own_plS (own_pl_exa R111_12) own_pl0))) K192 (own_plS (own_pl_exa f188) (own_plS (own_pl_exa (R111_9.keep K185)) own_pl0)))
      have f202 := (own_sta_keep (own_sta_keep (own_sta_keep (H2.ext E101) K111 (own_plS (own_pl_exa A101) own_pl0)) K185 (own_plS (own_pl_exa f183) (own_plS (own_pl_exa R111_12) own_pl0))) K192 (own_plS (own_pl_exa f188) (own_plS (own_pl_exa (R111_9.keep K185)) own_pl0)))
      have f203 := (own_sta_keep (own_sta_keep (own_sta_keep (H3.ext E101) K111 (own_plS (own_pl_exa A101) own_pl0)) K185 (own_plS (own_pl_exa f183) (own_plS (own_pl_exa R111_12) own_pl0))) K192 (own_plS (own_pl_exa f188) (own_plS (own_pl_exa (R111_9.keep K185)) own_pl0)))
      have f204 := (own_sta_keep (own_sta_keep (own_sta_keep (H4.ext E101) K111 (own_plS (own_pl_exa A101) own_pl0)) K185 (own_plS (own_pl_exa f183) (own_plS (own_pl_exa R111_12) own_pl0))) K192 (own_plS (own_pl_exa f188) (own_plS (own_pl_exa (R111_9.keep K185)) own_pl0)))
      have f205 := (own_sta_keep (own_sta_keep (own_sta_keep (H5.ext E101) K111 (own_plS (own_pl_exa A101) own_pl0)) K185 (own_plS (own_pl_exa f183) (own_plS (own_pl_exa R111_12) own_pl0))) K192 (own_plS (own_pl_exa f188) (own_plS (own_pl_exa (R111_9.keep K185)) own_pl0)))
      have f206 := ((((H7.ext E101).keep K111).keep K185).keep K192)
      have ne207 : s8 ≠ b101 := (Nat.ne_of_lt (Nat.lt_of_lt_of_le H7.lt (Nat.le_of_eq g101.symm)))
      have ne208 : s8 ≠ b102111 := (Nat.ne_of_lt (Nat.lt_of_lt_of_le (H7.ext E101).lt R111_11))
      have ne209 : s8 ≠ b106111 := (Nat.ne_of_lt (Nat.lt_of_lt_of_le (H7.ext E101).lt R111_8))
      have f210 := ((((H8.ext E101).keep K111 (ninS ne207 nin0)).keep K185 (ninS ne207 (ninS ne208 nin0))).keep K192 (ninS ne207 (ninS ne209 nin0)))
      have f211 := ((((H9.ext E101).keep K111 (ninS ne207 nin0)).keep K185 (ninS ne207 (ninS ne208 nin0))).keep K192 (ninS ne207 (ninS ne209 nin0)))
      have ne212 : b8 ≠ b101 := (Nat.ne_of_lt (Nat.lt_of_lt_of_le H10.lt (Nat.le_of_eq g101.symm)))
      have ne213 : b8 ≠ b102111 := (Nat.ne_of_lt (Nat.lt_of_lt_of_le (H10.ext E101).lt R111_11))
      have ne214 : b8 ≠ b106111 := (Nat.ne_of_lt (Nat.lt_of_lt_of_le (H10.ext E101).lt R111_8))
      have f215 := ((((H10.ext E101).keep K111 (ninS ne212 nin0)).keep K185 (ninS ne212 (ninS ne213 nin0))).keep K192 (ninS ne212 (ninS ne214 nin0)))
      have f216 := ((((H11.ext E101).keep K111).keep K185).keep K192)
      have ne217 : s9 ≠ b101 := (Nat.ne_of_lt (Nat.lt_of_lt_of_le H11.lt (Nat.le_of_eq g101.symm)))
      have ne218 : s9 ≠ b102111 := (Nat.ne_of_lt (Nat.lt_of_lt_of_le (H11.ext E101).lt R111_11))
      have ne219 : s9 ≠ b106111 := (Nat.ne_of_lt (Nat.lt_of_lt_of_le (H11.ext E101).lt R111_8))
      have f220 := ((((H12.ext E101).keep K111 (ninS ne217 nin0)).keep K185 (ninS ne217 (ninS ne218 nin0))).keep K192 (ninS ne217 (ninS ne219 nin0)))
      have f221 := ((((H13.ext E101).keep K111 (ninS ne217 nin0)).keep K185 (ninS ne217 (ninS ne218 nin0))).keep K192 (ninS ne217 (ninS ne219 nin0)))
      have ne222 : b9 ≠ b101 := (Nat.ne_of_lt (Nat.lt_of_lt_of_le H14.lt (Nat.le_of_eq g101.symm)))
      have ne223 : b9 ≠ b102111 := (Nat.ne_of_lt (Nat.lt_of_lt_of_le (H14.ext E101).lt R111_11))
      have ne224 : b9 ≠ b106111 := (Nat.ne_of_lt (Nat.lt_of_lt_of_le (H14.ext E101).lt R111_8))
      have f225 := ((((H14.ext E101).keep K111 (ninS ne222 nin0)).keep K185 (ninS ne222 (ninS ne223 nin0))).keep K192 (ninS ne222 (ninS ne224 nin0)))
      have ne226 : b101 ≠ b102111 := (Nat.ne_of_lt (Nat.lt_of_lt_of_le A101.lt R111_11))
      have f227 := (R185_6.keep K192 (ninS (Ne.symm ne226) (ninS R111_14 nin0)))
      exact tl_C l Z a0 hw ws hEL p1 p2 p3 cz sf v3 v4 v5 c1 c2 s8 s9 b8 k8 b9 k9 b101 b102111 k102111 (own_at (0 : Int32) (nar .char c1) (0 : Int32)) (own_at (0 : Int32) (0 : Int32) (nar .char c1)) b106111 k106111 ((0 : Int32) + (1 : Int32)) (0 : Int32) (0 : Int32) (1 : Int32) hs n0 T192.heap z198 f201 H1 f202 f203 f204 f205 H6 f206 f210 f211 f215 f216 f220 f221 f225 f199 R192_1 R192_2 (by rw [(H17.resolve_left hc99_115)]; exact R192_3) R192_4 R192_5 f227 R192_6 g110 g184 g191 R111_14 (own_chat (own_nn _) own_chr0) (own_chat own_chr0 (own_nn _)) H16 H17 H19 (by rw [(H17.resolve_left hc99_115)]; decide) (⟨fun _ => by decide, fun q => absurd hc116_196 q⟩) (by rw [hc116_196]; decide) (Or.inr ((own_at0 _ _).trans H15)) Bd hml hh hZ hown (X197.mono (by decide) (by decide)) N197 Heq197 hS0 (Nat.le_trans (Nat.le_trans (Nat.le_trans (Nat.le_trans hk0 E101.1) K111.1) K185.1) K192.1) Hc194 Cr194 pre200
    · skip
      have f228 := (f188.keep K192)
      have z230 : n0 ≤ T192.heap.size := (Nat.le_trans z193 K192.1)
      obtain ⟨cq229, kq229, q229a, q229b, q229c⟩ := isOf hZ rfl f228
      obtain ⟨_, _, ⟨T229, L229, k229, n229⟩, -, X229, ⟨Lc229, hQ229, l229, y229, z229⟩, st229⟩ := X192.virtualBack hx (y := (⟨"com/example/rouse/rouse/shell/CommandLine", "endCommand", "()V"⟩ : MethodName)) (z := (⟨"com/example/rouse/rouse/shell/CommandLine", "endCommand", "()V"⟩ : MethodName)) hown (mvT hZ (own_w hw 37 rfl)) (mvT hZ (own_w hw 38 rfl)) (notFace_of_selects (args := #[]) (mvT hZ (own_w hw 40 rfl))) (mvT hZ (own_w hw 40 rfl)) (mvT hZ (own_w hw 39 rfl)) (by decide) (backOf (W := 0) (rm4k0 l Z a0 hw [] b101 b102111 b106111 k106111 ((0 : Int32) + (1 : Int32)) (0 : Int32) (0 : Int32) ((0 : Int32) + (1 : Int32)) T192.heap n0 z230 f228 R192_1 R192_2 R192_3 R192_4 R192_5 R192_6 g110 g191) hZ (own_w hw 41 rfl) (own_w hw 11 rfl) (by decide) (by decide)) q229a q229c (g := (mkF m 121 #[.val (.int p1), .val (.int p2), .val (.int p3), .val (.int v3), .val (.int v4), .val (.int v5), .val (.int c1), .val (.int c2), .val (.ref s8), .val (.ref s9), .val (.ref b101), .unset, .unset, .unset, .unset, .unset] [(.ref b101)])) rfl (by rw [hml]; rfl) (Steps.refl _) (argsL := []) (rest := []) (lenOf pd_14 rfl) rfl (by show 2 * 0 + _ ≤ _; exact Nat.le_of_eq rfl) (hb hby at_121) (fun _ _ => ⟨rfl, rfl, (by decide : 7 + 0 ≤ _), (by decide : 63 + 0 ≤ _)⟩)
      dsimp only [Pt.U, Pt.locs, Pt.cells, Pt.slots] at X229 l229 y229 z229 st229 hQ229
      subst l229 y229 z229
      obtain ⟨rfl, Nq229, K229, R229_1, R229_2, R229_3, R229_4, R229_5, R229_6⟩ := hQ229
      have N229 := Fr.app N192 Nq229
      have hs231 : ∀ x ∈ ([b101, b106111] : List Addr), Safe Z own_EL vm0 T192.heap x := (allS (P := fun x => Safe Z own_EL vm0 T192.heap x) (Safe.exa hZ.alike f228 (by decide) (by decide)) (allS (P := fun x => Safe Z own_EL vm0 T192.heap x) Sf194_0 (all0 (P := fun x => Safe Z own_EL vm0 T192.heap x))))
      have Hc231 := CHv.keep K229 hs231 Hc194
      have Cr231 := Cr194.trans (CHr.keep K229 hs231 Hc194)
      have Sf231_0 := Safe.keep K229 hs231 Hc194 Sf194_0
      have Sf231_1 := Safe.keep K229 hs231 Hc194 Sf194_1
      have z233 : n0 ≤ T229.heap.size := (Nat.le_trans z230 K229.1)
      have f234 := (f228.keep K229)
      obtain ⟨cq232, kq232, q232a, q232b, q232c⟩ := isOf hZ rfl f234
      obtain ⟨_, _, ⟨T232, L232, k232, n232⟩, -, X232, ⟨Lc232, hQ232, l232, y232, z232⟩, st232⟩ := X229.virtualBack hx (y := (⟨"com/example/rouse/rouse/shell/CommandLine", "commandHasWords", "()Z"⟩ : MethodName)) (z := (⟨"com/example/rouse/rouse/shell/CommandLine", "commandHasWords", "()Z"⟩ : MethodName)) hown (mvT hZ (own_w hw 44 rfl)) (mvT hZ (own_w hw 45 rfl)) (notFace_of_selects (args := #[]) (mvT hZ (own_w hw 47 rfl))) (mvT hZ (own_w hw 47 rfl)) (mvT hZ (own_w hw 46 rfl)) (by decide) (backOf (W := 0) (rm5x52 l Z a0 hw [] b101 T229.heap n0 z233 R229_1 R229_2) hZ (own_w hw 48 rfl) (own_w hw 11 rfl) (by decide) (by decide)) q232a q232c (g := (mkF m 126 #[.val (.int p1), .val (.int p2), .val (.int p3), .val (.int v3), .val (.int v4), .val (.int v5), .val (.int c1), .val (.int c2), .val (.ref s8), .val (.ref s9), .val (.ref b101), .unset, .unset, .unset, .unset, .unset] [(.ref b101)])) rfl (by rw [hml]; rfl) (Steps.refl _) (argsL := []) (rest := []) (lenOf pd_22 rfl) rfl (by show 2 * 0 + _ ≤ _; exact Nat.le_of_eq rfl) (hb hby at_126) (fun _ _ => ⟨rfl, rfl, (by decide : 7 + 0 ≤ _), (by decide : 63 + 0 ≤ _)⟩)
      dsimp only [Pt.U, Pt.locs, Pt.cells, Pt.slots] at X232 l232 y232 z232 st232 hQ232
      subst l232 y232 z232
      obtain ⟨rfl, Nq232, Heq232⟩ := hQ232
      have N232 := Fr.app N229 Nq232
      have pre235 : ∀ t, Steps p.tables e below (T232.setTop (mkF m 131 #[.val (.int p1), .val (.int p2), .val (.int p3), .val (.int v3), .val (.int v4), .val (.int v5), .val (.int c1), .val (.int c2), .val (.ref s8), .val (.ref s9), .val (.ref b101), .val (.int (0 : Int32)), .unset, .unset, .unset, .unset] [])) t → Steps p.tables e below (s₁.setTop (entryFrame m #[(.int p1), (.int p2), (.int p3)] maxLocals)) t := fun t kt => by
        refine pre195 t ?_
        show Steps p.tables e below (T192.setTop (mkF m 116 #[.val (.int p1), .val (.int p2), .val (.int p3), .val (.int v3), .val (.int v4), .val (.int v5), .val (.int c1), .val (.int c2), .val (.ref s8), .val (.ref s9), .val (.ref b101), .unset, .unset, .unset, .unset, .unset] [(.int v4)])) _
        refine XS.ifNo X192.here hx rfl (hb hby at_116) rfl ((if0 _ _).trans (feq (hc116_196 : ¬ (v4 = (0 : Int32)))).1) ?_
        refine XS.aload X192.here hx rfl (hb hby at_119) rfl rfl ?_
        show Steps p.tables e below (T192.setTop (mkF m 121 #[.val (.int p1), .val (.int p2), .val (.int p3), .val (.int v3), .val (.int v4), .val (.int v5), .val (.int c1), .val (.int c2), .val (.ref s8), .val (.ref s9), .val (.ref b101), .unset, .unset, .unset, .unset, .unset] [(.ref b101)])) _
        refine st229.trans ?_
        show Steps p.tables e below (T229.setTop (mkF m 124 #[.val (.int p1), .val (.int p2), .val (.int p3), .val (.int v3), .val (.int v4), .val (.int v5), .val (.int c1), .val (.int c2), .val (.ref s8), .val (.ref s9), .val (.ref b101), .unset, .unset, .unset, .unset, .unset] [])) _
        refine XS.aload X229.here hx rfl (hb hby at_124) rfl rfl ?_
        show Steps p.tables e below (T229.setTop (mkF m 126 #[.val (.int p1), .val (.int p2), .val (.int p3), .val (.int v3), .val (.int v4), .val (.int v5), .val (.int c1), .val (.int c2), .val (.ref s8), .val (.ref s9), .val (.ref b101), .unset, .unset, .unset, .unset, .unset] [(.ref b101)])) _
        refine st232.trans ?_
        show Steps p.tables e below (T232.setTop (mkF m 129 #[.val (.int p1), .val (.int p2), .val (.int p3), .val (.int v3), .val (.int v4), .val (.int v5), .val (.int c1), .val (.int c2), .val (.ref s8), .val (.ref s9), .val (.ref b101), .unset, .unset, .unset, .unset, .unset] [(.int (0 : Int32))])) _
        refine XS.istore X232.here hx rfl (hb hby at_129) rfl (l' := #[.val (.int p1), .val (.int p2), .val (.int p3), .val (.int v3), .val (.int v4), .val (.int v5), .val (.int c1), .val (.int c2), .val (.ref s8), .val (.ref s9), .val (.ref b101), .val (.int (0 : Int32)), .unset, .unset, .unset, .unset]) rfl ?_
        show Steps p.tables e below (T232.setTop (mkF m 131 #[.val (.int p1), .val (.int p2), .val (.int p3), .val (.int v3), .val (.int v4), .val (.int v5), .val (.int c1), .val (.int c2), .val (.ref s8), .val (.ref s9), .val (.ref b101), .val (.int (0 : Int32)), .unset, .unset, .unset, .unset] [])) _
        exact kt
      have f236 := (own_sta_keep (own_sta_keep (own_sta_keep (own_sta_keep (H0.ext E101) K111 (own_plS (own_pl_exa A101) own_pl0)) K185 (own_plS (own_pl_exa f183) (own_plS (own_pl_exa R111_12) own_pl0))) K192 (own_plS (own_pl_exa f188) (own_plS (own_pl_exa (R111_9.keep K185)) own_pl0))) K229 (own_plS (own_pl_exa f228) (own_plS (own_pl_exa ((R111_9.keep K185).keep K192)) own_pl0)))
      have f237 := (own_sta_keep (own_sta_keep (own_sta_keep (own_sta_keep (H2.ext E101) K111 (own_plS (own_pl_exa A101) own_pl0)) K185 (own_plS (own_pl_exa f183) (own_plS (own_pl_exa R111_12) own_pl0))) K192 (own_plS (own_pl_exa f188) (own_plS (own_pl_exa (R111_9.keep K185)) own_pl0))) K229 (own_plS (own_pl_exa f228) (own_plS (own_pl_exa ((R111_9.keep K185).keep K192)) own_pl0)))
      have f238 := (own_sta_keep (own_sta_keep (own_sta_keep (own_sta_keep (H3.ext E101) K111 (own_plS (own_pl_exa A101) own_pl0)) K185 (own_plS (own_pl_exa f183) (own_plS (own_pl_exa R111_12) own_pl0))) K192 (own_plS (own_pl_exa f188) (own_plS (own_pl_exa (R111_9.keep K185)) own_pl0))) K229 (own_plS (own_pl_exa f228) (own_plS (own_pl_exa ((R111_9.keep K185).keep K192)) own_pl0)))
      have f239 := (own_sta_keep (own_sta_keep (own_sta_keep (own_sta_keep (H4.ext E101) K111 (own_plS (own_pl_exa A101) own_pl0)) K185 (own_plS (own_pl_exa f183) (own_plS (own_pl_exa R111_12) own_pl0))) K192 (own_plS (own_pl_exa f188) (own_plS (own_pl_exa (R111_9.keep K185)) own_pl0))) K229 (own_plS (own_pl_exa f228) (own_plS (own_pl_exa ((R111_9.keep K185).keep K192)) own_pl0)))
      have f240 := (own_sta_keep (own_sta_keep (own_sta_keep (own_sta_keep (H5.ext E101) K111 (own_plS (own_pl_exa A101) own_pl0)) K185 (own_plS (own_pl_exa f183) (own_plS (own_pl_exa R111_12) own_pl0))) K192 (own_plS (own_pl_exa f188) (own_plS (own_pl_exa (R111_9.keep K185)) own_pl0))) K229 (own_plS (own_pl_exa f228) (own_plS (own_pl_exa ((R111_9.keep K185).keep K192)) own_pl0)))
      have f241 := (((((H7.ext E101).keep K111).keep K185).keep K192).keep K229)
      have ne242 : s8 ≠ b101 := (Nat.ne_of_lt (Nat.lt_of_lt_of_le H7.lt (Nat.le_of_eq g101.symm)))
      have ne243 : s8 ≠ b102111 := (Nat.ne_of_lt (Nat.lt_of_lt_of_le (H7.ext E101).lt R111_11))
      have ne244 : s8 ≠ b106111 := (Nat.ne_of_lt (Nat.lt_of_lt_of_le (H7.ext E101).lt R111_8))
      have f245 := (((((H8.ext E101).keep K111 (ninS ne242 nin0)).keep K185 (ninS ne242 (ninS ne243 nin0))).keep K192 (ninS ne242 (ninS ne244 nin0))).keep K229 (ninS ne242 (ninS ne244 nin0)))
      have f246 := (((((H9.ext E101).keep K111 (ninS ne242 nin0)).keep K185 (ninS ne242 (ninS ne243 nin0))).keep K192 (ninS ne242 (ninS ne244 nin0))).keep K229 (ninS ne242 (ninS ne244 nin0)))
      have ne247 : b8 ≠ b101 := (Nat.ne_of_lt (Nat.lt_of_lt_of_le H10.lt (Nat.le_of_eq g101.symm)))
      have ne248 : b8 ≠ b102111 := (Nat.ne_of_lt (Nat.lt_of_lt_of_le (H10.ext E101).lt R111_11))
      have ne249 : b8 ≠ b106111 := (Nat.ne_of_lt (Nat.lt_of_lt_of_le (H10.ext E101).lt R111_8))
      have f250 := (((((H10.ext E101).keep K111 (ninS ne247 nin0)).keep K185 (ninS ne247 (ninS ne248 nin0))).keep K192 (ninS ne247 (ninS ne249 nin0))).keep K229 (ninS ne247 (ninS ne249 nin0)))
      have f251 := (((((H11.ext E101).keep K111).keep K185).keep K192).keep K229)
      have ne252 : s9 ≠ b101 := (Nat.ne_of_lt (Nat.lt_of_lt_of_le H11.lt (Nat.le_of_eq g101.symm)))
      have ne253 : s9 ≠ b102111 := (Nat.ne_of_lt (Nat.lt_of_lt_of_le (H11.ext E101).lt R111_11))
      have ne254 : s9 ≠ b106111 := (Nat.ne_of_lt (Nat.lt_of_lt_of_le (H11.ext E101).lt R111_8))
      have f255 := (((((H12.ext E101).keep K111 (ninS ne252 nin0)).keep K185 (ninS ne252 (ninS ne253 nin0))).keep K192 (ninS ne252 (ninS ne254 nin0))).keep K229 (ninS ne252 (ninS ne254 nin0)))
      have f256 := (((((H13.ext E101).keep K111 (ninS ne252 nin0)).keep K185 (ninS ne252 (ninS ne253 nin0))).keep K192 (ninS ne252 (ninS ne254 nin0))).keep K229 (ninS ne252 (ninS ne254 nin0)))
      have ne257 : b9 ≠ b101 := (Nat.ne_of_lt (Nat.lt_of_lt_of_le H14.lt (Nat.le_of_eq g101.symm)))
      have ne258 : b9 ≠ b102111 := (Nat.ne_of_lt (Nat.lt_of_lt_of_le (H14.ext E101).lt R111_11))
      have ne259 : b9 ≠ b106111 := (Nat.ne_of_lt (Nat.lt_of_lt_of_le (H14.ext E101).lt R111_8))
      have f260 := (((((H14.ext E101).keep K111 (ninS ne257 nin0)).keep K185 (ninS ne257 (ninS ne258 nin0))).keep K192 (ninS ne257 (ninS ne259 nin0))).keep K229 (ninS ne257 (ninS ne259 nin0)))
      have ne261 : b101 ≠ b102111 := (Nat.ne_of_lt (Nat.lt_of_lt_of_le A101.lt R111_11))
      have f262 := ((R185_6.keep K192 (ninS (Ne.symm ne261) (ninS R111_14 nin0))).keep K229 (ninS (Ne.symm ne261) (ninS R111_14 nin0)))
      exact tl_C l Z a0 hw ws hEL p1 p2 p3 cz sf v3 v4 v5 c1 c2 s8 s9 b8 k8 b9 k9 b101 b102111 k102111 (own_at (0 : Int32) (nar .char c1) (0 : Int32)) (own_at (0 : Int32) (0 : Int32) (nar .char c1)) b106111 k106111 (((0 : Int32) + (1 : Int32)) ^^^ (-1 : Int32)) (0 : Int32) (1 : Int32) (0 : Int32) hs n0 T229.heap z233 f236 H1 f237 f238 f239 f240 H6 f241 f245 f246 f250 f251 f255 f256 f260 f234 R229_1 R229_2 (by rw [(H17.resolve_left hc99_115)]; exact R229_3) R229_4 R229_5 f262 R229_6 g110 g184 g191 R111_14 (own_chat (own_nn _) own_chr0) (own_chat own_chr0 (own_nn _)) H16 H17 H19 (by rw [(H17.resolve_left hc99_115)]; decide) (⟨fun q => absurd q hc116_196, fun _ => by decide⟩) (fun q => hc116_196 q.symm) (Or.inr ((own_at0 _ _).trans H15)) Bd hml hh hZ hown (X232.mono (by decide) (by decide)) N232 Heq232 hS0 (Nat.le_trans (Nat.le_trans (Nat.le_trans (Nat.le_trans (Nat.le_trans hk0 E101.1) K111.1) K185.1) K192.1) K229.1) Hc231 Cr231 pre235
theorem pn_com_example_rouse_rouse_shell_CommandLineEndCommandPinLaw : plainName "com/example/rouse/rouse/shell/CommandLineEndCommandPinLaw" = true := by first | (simp [plainName, overriddenIn]; done) | decide +kernel
theorem ef_0 (m : MethodId) (p1 : Int32) (p2 : Int32) (p3 : Int32) : entryFrame m #[(.int p1), (.int p2), (.int p3)] maxLocals = mkF m 0 #[.val (.int p1), .val (.int p2), .val (.int p3), .unset, .unset, .unset, .unset, .unset, .unset, .unset, .unset, .unset, .unset, .unset, .unset, .unset] [] := by first | (simp [entryFrame, mkF, argsToLocals, Value.category, maxLocals]; done) | rfl
set_option maxRecDepth 65536 in
set_option maxHeartbeats 40000000 in
theorem rm0 (l : Launch) (Z : State) (a0 : Array Value) (hw : ∀ d ∈ tables_1, d.before a0 Z = true) (ws : List Jvm.Cond) (hEL : EW Z a0 own_EL) (p1 : Int32) (p2 : Int32) (p3 : Int32) (cz : Int32) (sf : Value) (h0 : Heap) (n0 : Nat) (Z0 : n0 ≤ h0.size) (H0 : Sta Z h0 "java/lang/String" "COMPACT_STRINGS" "Z" (.int cz)) (H1 : ¬ (cz = (0 : Int32))) (H2 : Sta Z h0 "java/lang/StringUTF16" "$assertionsDisabled" "Z" (.int (1 : Int32))) (H3 : Sta Z h0 "java/lang/StringUTF16" "HI_BYTE_SHIFT" "I" (.int (0 : Int32))) (H4 : Sta Z h0 "java/lang/StringUTF16" "LO_BYTE_SHIFT" "I" (.int (8 : Int32))) (H5 : Sta Z h0 "jdk/internal/util/Preconditions" "SIOOBE_FORMATTER" "Ljava/util/function/BiFunction;" sf) (H6 : sf.category = 1) :
    MetFree l x (head1 (Jvm.Cond.code x code maxLocals ret :: ws) room_1) (fun a U => a = #[(.int p1), (.int p2), (.int p3)] ∧ Z.Warmed39 U.vm ∧ U.heap = h0 ∧ CHv Z own_EL U.vm h0) (fun _ _ _ _ _ => True) (fun _ U o U' => ∃ v L, o = .returned v ∧ Q0 Z p1 p2 p3 cz sf h0 n0 v U'.heap L ∧ CHr Z own_EL U.vm U.heap U'.vm U'.heap ∧ ReturnedEndW U o U' L room_1.cells room_1.slots) := by
  refine MetFree.of_bodySF (plainFor_of_name pn_com_example_rouse_rouse_shell_CommandLineEndCommandPinLaw) hisR ?_
  intro p e s m args below meth c s₁ Bd hml0 hP hK
  obtain ⟨rfl, hZ, hh, hH⟩ := hP
  have hx := Bd.exec
  have hby := Bd.bytes
  have hml : c.maxLocals = 16 := hml0
  have hown : s.vm.findClass "com/example/rouse/rouse/shell/CommandLineEndCommandPinLaw" = some m.cls := findClass_of_methodNamed Bd.named
  have hnm := (name_of_methodNamed Bd.named Bd.method).1
  have X0 : Stand p l e room_1 s m #[(.int p1), (.int p2), (.int p3)] below meth c s₁ [] 0 0 := Stand.of_body Bd
  have e0 : s₁.heap = h0 := by rw [← hh, Bd.state]; rfl
  have N0 := Fr.nil n0
  have X0 : Stand p l e room_1 (s.setVm s.vm) m #[(.int p1), (.int p2), (.int p3)] below meth c s₁ [] 0 0 := X0
  have hZ : Z.Warmed39 (s.setVm s.vm).vm := hZ
  have hown : (s.setVm s.vm).vm.findClass "com/example/rouse/rouse/shell/CommandLineEndCommandPinLaw" = some m.cls := hown
  have hS0 : s.Since s.vm 0 := State.WarmedH.since (State.WarmedH.refl s) 0
  have Cr0 : CHr Z own_EL s.vm h0 s.vm h0 := CHr.refl hH
  have pre0 : ∀ t, Steps p.tables e below (s₁.setTop (mkF m 0 #[.val (.int p1), .val (.int p2), .val (.int p3), .unset, .unset, .unset, .unset, .unset, .unset, .unset, .unset, .unset, .unset, .unset, .unset, .unset] [])) t → Steps p.tables e below (s₁.setTop (entryFrame m #[(.int p1), (.int p2), (.int p3)] maxLocals)) t := fun t k => castTop (ef_0 m p1 p2 p3) k
  obtain ⟨T101, L101, X101, N101, e101, pre101⟩ : ∃ (T' : State) (L' : List Loc), Stand p l e room_1 (s.setVm s.vm) m #[(.int p1), (.int p2), (.int p3)] below meth c T' L' 0 0 ∧ Fr n0 L' ∧ T'.heap = h0 ∧ ∀ t, Steps p.tables e below (T'.setTop (mkF m 12 #[.val (.int p1), .val (.int p2), .val (.int p3), .val (.int (own_bit p3 (1 : Int32))), .unset, .unset, .unset, .unset, .unset, .unset, .unset, .unset, .unset, .unset, .unset, .unset] [])) t → Steps p.tables e below (s₁.setTop (entryFrame m #[(.int p1), (.int p2), (.int p3)] maxLocals)) t := by
    have pre102 : ∀ t, Steps p.tables e below (s₁.setTop (mkF m 3 #[.val (.int p1), .val (.int p2), .val (.int p3), .unset, .unset, .unset, .unset, .unset, .unset, .unset, .unset, .unset, .unset, .unset, .unset, .unset] [(.int (p3 &&& (1 : Int32)))])) t → Steps p.tables e below (s₁.setTop (entryFrame m #[(.int p1), (.int p2), (.int p3)] maxLocals)) t := fun t kt => by
      refine pre0 t ?_
      show Steps p.tables e below (s₁.setTop (mkF m 0 #[.val (.int p1), .val (.int p2), .val (.int p3), .unset, .unset, .unset, .unset, .unset, .unset, .unset, .unset, .unset, .unset, .unset, .unset, .unset] [])) _
      refine XS.iloadN X0.here hx rfl (hb hby at_0) rfl ?_
      refine XS.iconst X0.here hx rfl (hb hby at_1) ?_
      refine XS.iand X0.here hx rfl (hb hby at_2) rfl ?_
      show Steps p.tables e below (s₁.setTop (mkF m 3 #[.val (.int p1), .val (.int p2), .val (.int p3), .unset, .unset, .unset, .unset, .unset, .unset, .unset, .unset, .unset, .unset, .unset, .unset, .unset] [(.int (p3 &&& (1 : Int32)))])) _
      exact kt
    by_cases hc3_103 : (p3 &&& (1 : Int32)) = (0 : Int32)
    · skip
      have pre104 : ∀ t, Steps p.tables e below (s₁.setTop (mkF m 12 #[.val (.int p1), .val (.int p2), .val (.int p3), .val (.int (0 : Int32)), .unset, .unset, .unset, .unset, .unset, .unset, .unset, .unset, .unset, .unset, .unset, .unset] [])) t → Steps p.tables e below (s₁.setTop (entryFrame m #[(.int p1), (.int p2), (.int p3)] maxLocals)) t := fun t kt => by
        refine pre102 t ?_
        show Steps p.tables e below (s₁.setTop (mkF m 3 #[.val (.int p1), .val (.int p2), .val (.int p3), .unset, .unset, .unset, .unset, .unset, .unset, .unset, .unset, .unset, .unset, .unset, .unset, .unset] [(.int (p3 &&& (1 : Int32)))])) _
        refine XS.ifYes X0.here hx rfl (pc0 := 3) (pc' := 10) rfl (hb hby at_3) rfl ((if0 _ _).trans (teq (hc3_103 : (p3 &&& (1 : Int32)) = (0 : Int32))).1) (by decide) (by decide) ?_
        refine XS.iconst X0.here hx rfl (hb hby at_10) ?_
        refine XS.istoreN X0.here hx rfl (hb hby at_11) rfl (l' := #[.val (.int p1), .val (.int p2), .val (.int p3), .val (.int (0 : Int32)), .unset, .unset, .unset, .unset, .unset, .unset, .unset, .unset, .unset, .unset, .unset, .unset]) rfl ?_
        show Steps p.tables e below (s₁.setTop (mkF m 12 #[.val (.int p1), .val (.int p2), .val (.int p3), .val (.int (0 : Int32)), .unset, .unset, .unset, .unset, .unset, .unset, .unset, .unset, .unset, .unset, .unset, .unset] [])) _
        exact kt
      have hl105_3 : (own_bit p3 (1 : Int32)) = (0 : Int32) := by simp only [own_bit, eq_true hc3_103, if_true, if_false]
      exact ⟨_, _, X0, N0, e0, fun t kt => pre104 t (by rw [hl105_3] at kt; exact kt)⟩
    · skip
      have pre106 : ∀ t, Steps p.tables e below (s₁.setTop (mkF m 12 #[.val (.int p1), .val (.int p2), .val (.int p3), .val (.int (1 : Int32)), .unset, .unset, .unset, .unset, .unset, .unset, .unset, .unset, .unset, .unset, .unset, .unset] [])) t → Steps p.tables e below (s₁.setTop (entryFrame m #[(.int p1), (.int p2), (.int p3)] maxLocals)) t := fun t kt => by
        refine pre102 t ?_
        show Steps p.tables e below (s₁.setTop (mkF m 3 #[.val (.int p1), .val (.int p2), .val (.int p3), .unset, .unset, .unset, .unset, .unset, .unset, .unset, .unset, .unset, .unset, .unset, .unset, .unset] [(.int (p3 &&& (1 : Int32)))])) _
        refine XS.ifNo X0.here hx rfl (hb hby at_3) rfl ((if0 _ _).trans (feq (hc3_103 : ¬ ((p3 &&& (1 : Int32)) = (0 : Int32)))).1) ?_
        refine XS.iconst X0.here hx rfl (hb hby at_6) ?_
        refine XS.goto X0.here hx rfl (pc0 := 7) (pc' := 11) rfl (hb hby at_7) (by decide) (by decide) ?_
        refine XS.istoreN X0.here hx rfl (hb hby at_11) rfl (l' := #[.val (.int p1), .val (.int p2), .val (.int p3), .val (.int (1 : Int32)), .unset, .unset, .unset, .unset, .unset, .unset, .unset, .unset, .unset, .unset, .unset, .unset]) rfl ?_
        show Steps p.tables e below (s₁.setTop (mkF m 12 #[.val (.int p1), .val (.int p2), .val (.int p3), .val (.int (1 : Int32)), .unset, .unset, .unset, .unset, .unset, .unset, .unset, .unset, .unset, .unset, .unset, .unset] [])) _
        exact kt
      have hl107_3 : (own_bit p3 (1 : Int32)) = (1 : Int32) := by simp only [own_bit, eq_false hc3_103, if_true, if_false]
      exact ⟨_, _, X0, N0, e0, fun t kt => pre106 t (by rw [hl107_3] at kt; exact kt)⟩
  obtain ⟨T108, L108, X108, N108, e108, pre108⟩ : ∃ (T' : State) (L' : List Loc), Stand p l e room_1 (s.setVm s.vm) m #[(.int p1), (.int p2), (.int p3)] below meth c T' L' 0 0 ∧ Fr n0 L' ∧ T'.heap = h0 ∧ ∀ t, Steps p.tables e below (T'.setTop (mkF m 25 #[.val (.int p1), .val (.int p2), .val (.int p3), .val (.int (own_bit p3 (1 : Int32))), .val (.int (own_bit p3 (2 : Int32))), .unset, .unset, .unset, .unset, .unset, .unset, .unset, .unset, .unset, .unset, .unset] [])) t → Steps p.tables e below (s₁.setTop (entryFrame m #[(.int p1), (.int p2), (.int p3)] maxLocals)) t := by
    have pre109 : ∀ t, Steps p.tables e below (T101.setTop (mkF m 15 #[.val (.int p1), .val (.int p2), .val (.int p3), .val (.int (own_bit p3 (1 : Int32))), .unset, .unset, .unset, .unset, .unset, .unset, .unset, .unset, .unset, .unset, .unset, .unset] [(.int (p3 &&& (2 : Int32)))])) t → Steps p.tables e below (s₁.setTop (entryFrame m #[(.int p1), (.int p2), (.int p3)] maxLocals)) t := fun t kt => by
      refine pre101 t ?_
      show Steps p.tables e below (T101.setTop (mkF m 12 #[.val (.int p1), .val (.int p2), .val (.int p3), .val (.int (own_bit p3 (1 : Int32))), .unset, .unset, .unset, .unset, .unset, .unset, .unset, .unset, .unset, .unset, .unset, .unset] [])) _
      refine XS.iloadN X101.here hx rfl (hb hby at_12) rfl ?_
      refine XS.iconst X101.here hx rfl (hb hby at_13) ?_
      refine XS.iand X101.here hx rfl (hb hby at_14) rfl ?_
      show Steps p.tables e below (T101.setTop (mkF m 15 #[.val (.int p1), .val (.int p2), .val (.int p3), .val (.int (own_bit p3 (1 : Int32))), .unset, .unset, .unset, .unset, .unset, .unset, .unset, .unset, .unset, .unset, .unset, .unset] [(.int (p3 &&& (2 : Int32)))])) _
      exact kt
    by_cases hc15_110 : (p3 &&& (2 : Int32)) = (0 : Int32)
    · skip
      have pre111 : ∀ t, Steps p.tables e below (T101.setTop (mkF m 25 #[.val (.int p1), .val (.int p2), .val (.int p3), .val (.int (own_bit p3 (1 : Int32))), .val (.int (0 : Int32)), .unset, .unset, .unset, .unset, .unset, .unset, .unset, .unset, .unset, .unset, .unset] [])) t → Steps p.tables e below (s₁.setTop (entryFrame m #[(.int p1), (.int p2), (.int p3)] maxLocals)) t := fun t kt => by
        refine pre109 t ?_
        show Steps p.tables e below (T101.setTop (mkF m 15 #[.val (.int p1), .val (.int p2), .val (.int p3), .val (.int (own_bit p3 (1 : Int32))), .unset, .unset, .unset, .unset, .unset, .unset, .unset, .unset, .unset, .unset, .unset, .unset] [(.int (p3 &&& (2 : Int32)))])) _
        refine XS.ifYes X101.here hx rfl (pc0 := 15) (pc' := 22) rfl (hb hby at_15) rfl ((if0 _ _).trans (teq (hc15_110 : (p3 &&& (2 : Int32)) = (0 : Int32))).1) (by decide) (by decide) ?_
        refine XS.iconst X101.here hx rfl (hb hby at_22) ?_
        refine XS.istore X101.here hx rfl (hb hby at_23) rfl (l' := #[.val (.int p1), .val (.int p2), .val (.int p3), .val (.int (own_bit p3 (1 : Int32))), .val (.int (0 : Int32)), .unset, .unset, .unset, .unset, .unset, .unset, .unset, .unset, .unset, .unset, .unset]) rfl ?_
        show Steps p.tables e below (T101.setTop (mkF m 25 #[.val (.int p1), .val (.int p2), .val (.int p3), .val (.int (own_bit p3 (1 : Int32))), .val (.int (0 : Int32)), .unset, .unset, .unset, .unset, .unset, .unset, .unset, .unset, .unset, .unset, .unset] [])) _
        exact kt
      have hl112_4 : (own_bit p3 (2 : Int32)) = (0 : Int32) := by simp only [own_bit, eq_true hc15_110, if_true, if_false]
      exact ⟨_, _, X101, N101, e101, fun t kt => pre111 t (by rw [hl112_4] at kt; exact kt)⟩
    · skip
      have pre113 : ∀ t, Steps p.tables e below (T101.setTop (mkF m 25 #[.val (.int p1), .val (.int p2), .val (.int p3), .val (.int (own_bit p3 (1 : Int32))), .val (.int (1 : Int32)), .unset, .unset, .unset, .unset, .unset, .unset, .unset, .unset, .unset, .unset, .unset] [])) t → Steps p.tables e below (s₁.setTop (entryFrame m #[(.int p1), (.int p2), (.int p3)] maxLocals)) t := fun t kt => by
        refine pre109 t ?_
        show Steps p.tables e below (T101.setTop (mkF m 15 #[.val (.int p1), .val (.int p2), .val (.int p3), .val (.int (own_bit p3 (1 : Int32))), .unset, .unset, .unset, .unset, .unset, .unset, .unset, .unset, .unset, .unset, .unset, .unset] [(.int (p3 &&& (2 : Int32)))])) _
        refine XS.ifNo X101.here hx rfl (hb hby at_15) rfl ((if0 _ _).trans (feq (hc15_110 : ¬ ((p3 &&& (2 : Int32)) = (0 : Int32)))).1) ?_
        refine XS.iconst X101.here hx rfl (hb hby at_18) ?_
        refine XS.goto X101.here hx rfl (pc0 := 19) (pc' := 23) rfl (hb hby at_19) (by decide) (by decide) ?_
        refine XS.istore X101.here hx rfl (hb hby at_23) rfl (l' := #[.val (.int p1), .val (.int p2), .val (.int p3), .val (.int (own_bit p3 (1 : Int32))), .val (.int (1 : Int32)), .unset, .unset, .unset, .unset, .unset, .unset, .unset, .unset, .unset, .unset, .unset]) rfl ?_
        show Steps p.tables e below (T101.setTop (mkF m 25 #[.val (.int p1), .val (.int p2), .val (.int p3), .val (.int (own_bit p3 (1 : Int32))), .val (.int (1 : Int32)), .unset, .unset, .unset, .unset, .unset, .unset, .unset, .unset, .unset, .unset, .unset] [])) _
        exact kt
      have hl114_4 : (own_bit p3 (2 : Int32)) = (1 : Int32) := by simp only [own_bit, eq_false hc15_110, if_true, if_false]
      exact ⟨_, _, X101, N101, e101, fun t kt => pre113 t (by rw [hl114_4] at kt; exact kt)⟩
  obtain ⟨T115, L115, X115, N115, e115, pre115⟩ : ∃ (T' : State) (L' : List Loc), Stand p l e room_1 (s.setVm s.vm) m #[(.int p1), (.int p2), (.int p3)] below meth c T' L' 0 0 ∧ Fr n0 L' ∧ T'.heap = h0 ∧ ∀ t, Steps p.tables e below (T'.setTop (mkF m 38 #[.val (.int p1), .val (.int p2), .val (.int p3), .val (.int (own_bit p3 (1 : Int32))), .val (.int (own_bit p3 (2 : Int32))), .val (.int (own_bit p3 (4 : Int32))), .unset, .unset, .unset, .unset, .unset, .unset, .unset, .unset, .unset, .unset] [])) t → Steps p.tables e below (s₁.setTop (entryFrame m #[(.int p1), (.int p2), (.int p3)] maxLocals)) t := by
    have pre116 : ∀ t, Steps p.tables e below (T108.setTop (mkF m 28 #[.val (.int p1), .val (.int p2), .val (.int p3), .val (.int (own_bit p3 (1 : Int32))), .val (.int (own_bit p3 (2 : Int32))), .unset, .unset, .unset, .unset, .unset, .unset, .unset, .unset, .unset, .unset, .unset] [(.int (p3 &&& (4 : Int32)))])) t → Steps p.tables e below (s₁.setTop (entryFrame m #[(.int p1), (.int p2), (.int p3)] maxLocals)) t := fun t kt => by
      refine pre108 t ?_
      show Steps p.tables e below (T108.setTop (mkF m 25 #[.val (.int p1), .val (.int p2), .val (.int p3), .val (.int (own_bit p3 (1 : Int32))), .val (.int (own_bit p3 (2 : Int32))), .unset, .unset, .unset, .unset, .unset, .unset, .unset, .unset, .unset, .unset, .unset] [])) _
      refine XS.iloadN X108.here hx rfl (hb hby at_25) rfl ?_
      refine XS.iconst X108.here hx rfl (hb hby at_26) ?_
      refine XS.iand X108.here hx rfl (hb hby at_27) rfl ?_
      show Steps p.tables e below (T108.setTop (mkF m 28 #[.val (.int p1), .val (.int p2), .val (.int p3), .val (.int (own_bit p3 (1 : Int32))), .val (.int (own_bit p3 (2 : Int32))), .unset, .unset, .unset, .unset, .unset, .unset, .unset, .unset, .unset, .unset, .unset] [(.int (p3 &&& (4 : Int32)))])) _
      exact kt
    by_cases hc28_117 : (p3 &&& (4 : Int32)) = (0 : Int32)
    · skip
      have pre118 : ∀ t, Steps p.tables e below (T108.setTop (mkF m 38 #[.val (.int p1), .val (.int p2), .val (.int p3), .val (.int (own_bit p3 (1 : Int32))), .val (.int (own_bit p3 (2 : Int32))), .val (.int (0 : Int32)), .unset, .unset, .unset, .unset, .unset, .unset, .unset, .unset, .unset, .unset] [])) t → Steps p.tables e below (s₁.setTop (entryFrame m #[(.int p1), (.int p2), (.int p3)] maxLocals)) t := fun t kt => by
        refine pre116 t ?_
        show Steps p.tables e below (T108.setTop (mkF m 28 #[.val (.int p1), .val (.int p2), .val (.int p3), .val (.int (own_bit p3 (1 : Int32))), .val (.int (own_bit p3 (2 : Int32))), .unset, .unset, .unset, .unset, .unset, .unset, .unset, .unset, .unset, .unset, .unset] [(.int (p3 &&& (4 : Int32)))])) _
        refine XS.ifYes X108.here hx rfl (pc0 := 28) (pc' := 35) rfl (hb hby at_28) rfl ((if0 _ _).trans (teq (hc28_117 : (p3 &&& (4 : Int32)) = (0 : Int32))).1) (by decide) (by decide) ?_
        refine XS.iconst X108.here hx rfl (hb hby at_35) ?_
        refine XS.istore X108.here hx rfl (hb hby at_36) rfl (l' := #[.val (.int p1), .val (.int p2), .val (.int p3), .val (.int (own_bit p3 (1 : Int32))), .val (.int (own_bit p3 (2 : Int32))), .val (.int (0 : Int32)), .unset, .unset, .unset, .unset, .unset, .unset, .unset, .unset, .unset, .unset]) rfl ?_
        show Steps p.tables e below (T108.setTop (mkF m 38 #[.val (.int p1), .val (.int p2), .val (.int p3), .val (.int (own_bit p3 (1 : Int32))), .val (.int (own_bit p3 (2 : Int32))), .val (.int (0 : Int32)), .unset, .unset, .unset, .unset, .unset, .unset, .unset, .unset, .unset, .unset] [])) _
        exact kt
      have hl119_5 : (own_bit p3 (4 : Int32)) = (0 : Int32) := by simp only [own_bit, eq_true hc28_117, if_true, if_false]
      exact ⟨_, _, X108, N108, e108, fun t kt => pre118 t (by rw [hl119_5] at kt; exact kt)⟩
    · skip
      have pre120 : ∀ t, Steps p.tables e below (T108.setTop (mkF m 38 #[.val (.int p1), .val (.int p2), .val (.int p3), .val (.int (own_bit p3 (1 : Int32))), .val (.int (own_bit p3 (2 : Int32))), .val (.int (1 : Int32)), .unset, .unset, .unset, .unset, .unset, .unset, .unset, .unset, .unset, .unset] [])) t → Steps p.tables e below (s₁.setTop (entryFrame m #[(.int p1), (.int p2), (.int p3)] maxLocals)) t := fun t kt => by
        refine pre116 t ?_
        show Steps p.tables e below (T108.setTop (mkF m 28 #[.val (.int p1), .val (.int p2), .val (.int p3), .val (.int (own_bit p3 (1 : Int32))), .val (.int (own_bit p3 (2 : Int32))), .unset, .unset, .unset, .unset, .unset, .unset, .unset, .unset, .unset, .unset, .unset] [(.int (p3 &&& (4 : Int32)))])) _
        refine XS.ifNo X108.here hx rfl (hb hby at_28) rfl ((if0 _ _).trans (feq (hc28_117 : ¬ ((p3 &&& (4 : Int32)) = (0 : Int32)))).1) ?_
        refine XS.iconst X108.here hx rfl (hb hby at_31) ?_
        refine XS.goto X108.here hx rfl (pc0 := 32) (pc' := 36) rfl (hb hby at_32) (by decide) (by decide) ?_
        refine XS.istore X108.here hx rfl (hb hby at_36) rfl (l' := #[.val (.int p1), .val (.int p2), .val (.int p3), .val (.int (own_bit p3 (1 : Int32))), .val (.int (own_bit p3 (2 : Int32))), .val (.int (1 : Int32)), .unset, .unset, .unset, .unset, .unset, .unset, .unset, .unset, .unset, .unset]) rfl ?_
        show Steps p.tables e below (T108.setTop (mkF m 38 #[.val (.int p1), .val (.int p2), .val (.int p3), .val (.int (own_bit p3 (1 : Int32))), .val (.int (own_bit p3 (2 : Int32))), .val (.int (1 : Int32)), .unset, .unset, .unset, .unset, .unset, .unset, .unset, .unset, .unset, .unset] [])) _
        exact kt
      have hl121_5 : (own_bit p3 (4 : Int32)) = (1 : Int32) := by simp only [own_bit, eq_false hc28_117, if_true, if_false]
      exact ⟨_, _, X108, N108, e108, fun t kt => pre120 t (by rw [hl121_5] at kt; exact kt)⟩
  obtain ⟨c1, h_c1⟩ : ∃ z : Int32, z = ((p1 &&& (65535 : Int32)).toUInt32.toUInt16.toUInt32.toInt32) := ⟨_, rfl⟩
  have pre122 : ∀ t, Steps p.tables e below (T115.setTop (mkF m 52 #[.val (.int p1), .val (.int p2), .val (.int p3), .val (.int (own_bit p3 (1 : Int32))), .val (.int (own_bit p3 (2 : Int32))), .val (.int (own_bit p3 (4 : Int32))), .val (.int ((p1 &&& (65535 : Int32)).toUInt32.toUInt16.toUInt32.toInt32)), .val (.int ((p2 &&& (65535 : Int32)).toUInt32.toUInt16.toUInt32.toInt32)), .unset, .unset, .unset, .unset, .unset, .unset, .unset, .unset] [])) t → Steps p.tables e below (s₁.setTop (entryFrame m #[(.int p1), (.int p2), (.int p3)] maxLocals)) t := fun t kt => by
    refine pre115 t ?_
    show Steps p.tables e below (T115.setTop (mkF m 38 #[.val (.int p1), .val (.int p2), .val (.int p3), .val (.int (own_bit p3 (1 : Int32))), .val (.int (own_bit p3 (2 : Int32))), .val (.int (own_bit p3 (4 : Int32))), .unset, .unset, .unset, .unset, .unset, .unset, .unset, .unset, .unset, .unset] [])) _
    refine XS.iloadN X115.here hx rfl (hb hby at_38) rfl ?_
    show Steps p.tables e below (T115.setTop (mkF m 39 #[.val (.int p1), .val (.int p2), .val (.int p3), .val (.int (own_bit p3 (1 : Int32))), .val (.int (own_bit p3 (2 : Int32))), .val (.int (own_bit p3 (4 : Int32))), .unset, .unset, .unset, .unset, .unset, .unset, .unset, .unset, .unset, .unset] [(.int p1)])) _
    refine X115.ldcInt hx hown (mvT hZ (own_w hw 0 rfl)) (g := (mkF m 39 #[.val (.int p1), .val (.int p2), .val (.int p3), .val (.int (own_bit p3 (1 : Int32))), .val (.int (own_bit p3 (2 : Int32))), .val (.int (own_bit p3 (4 : Int32))), .unset, .unset, .unset, .unset, .unset, .unset, .unset, .unset, .unset, .unset] [(.int p1)])) rfl (hb hby at_39) _ ?_
    show Steps p.tables e below (T115.setTop (mkF m 41 #[.val (.int p1), .val (.int p2), .val (.int p3), .val (.int (own_bit p3 (1 : Int32))), .val (.int (own_bit p3 (2 : Int32))), .val (.int (own_bit p3 (4 : Int32))), .unset, .unset, .unset, .unset, .unset, .unset, .unset, .unset, .unset, .unset] [(.int (65535 : Int32)), (.int p1)])) _
    refine XS.iand X115.here hx rfl (hb hby at_41) rfl ?_
    refine XS.i2c X115.here hx rfl (hb hby at_42) rfl ?_
    refine XS.istore X115.here hx rfl (hb hby at_43) rfl (l' := #[.val (.int p1), .val (.int p2), .val (.int p3), .val (.int (own_bit p3 (1 : Int32))), .val (.int (own_bit p3 (2 : Int32))), .val (.int (own_bit p3 (4 : Int32))), .val (.int ((p1 &&& (65535 : Int32)).toUInt32.toUInt16.toUInt32.toInt32)), .unset, .unset, .unset, .unset, .unset, .unset, .unset, .unset, .unset]) rfl ?_
    refine XS.iloadN X115.here hx rfl (hb hby at_45) rfl ?_
    show Steps p.tables e below (T115.setTop (mkF m 46 #[.val (.int p1), .val (.int p2), .val (.int p3), .val (.int (own_bit p3 (1 : Int32))), .val (.int (own_bit p3 (2 : Int32))), .val (.int (own_bit p3 (4 : Int32))), .val (.int ((p1 &&& (65535 : Int32)).toUInt32.toUInt16.toUInt32.toInt32)), .unset, .unset, .unset, .unset, .unset, .unset, .unset, .unset, .unset] [(.int p2)])) _
    refine X115.ldcInt hx hown (mvT hZ (own_w hw 0 rfl)) (g := (mkF m 46 #[.val (.int p1), .val (.int p2), .val (.int p3), .val (.int (own_bit p3 (1 : Int32))), .val (.int (own_bit p3 (2 : Int32))), .val (.int (own_bit p3 (4 : Int32))), .val (.int ((p1 &&& (65535 : Int32)).toUInt32.toUInt16.toUInt32.toInt32)), .unset, .unset, .unset, .unset, .unset, .unset, .unset, .unset, .unset] [(.int p2)])) rfl (hb hby at_46) _ ?_
    show Steps p.tables e below (T115.setTop (mkF m 48 #[.val (.int p1), .val (.int p2), .val (.int p3), .val (.int (own_bit p3 (1 : Int32))), .val (.int (own_bit p3 (2 : Int32))), .val (.int (own_bit p3 (4 : Int32))), .val (.int ((p1 &&& (65535 : Int32)).toUInt32.toUInt16.toUInt32.toInt32)), .unset, .unset, .unset, .unset, .unset, .unset, .unset, .unset, .unset] [(.int (65535 : Int32)), (.int p2)])) _
    refine XS.iand X115.here hx rfl (hb hby at_48) rfl ?_
    refine XS.i2c X115.here hx rfl (hb hby at_49) rfl ?_
    refine XS.istore X115.here hx rfl (hb hby at_50) rfl (l' := #[.val (.int p1), .val (.int p2), .val (.int p3), .val (.int (own_bit p3 (1 : Int32))), .val (.int (own_bit p3 (2 : Int32))), .val (.int (own_bit p3 (4 : Int32))), .val (.int ((p1 &&& (65535 : Int32)).toUInt32.toUInt16.toUInt32.toInt32)), .val (.int ((p2 &&& (65535 : Int32)).toUInt32.toUInt16.toUInt32.toInt32)), .unset, .unset, .unset, .unset, .unset, .unset, .unset, .unset]) rfl ?_
    show Steps p.tables e below (T115.setTop (mkF m 52 #[.val (.int p1), .val (.int p2), .val (.int p3), .val (.int (own_bit p3 (1 : Int32))), .val (.int (own_bit p3 (2 : Int32))), .val (.int (own_bit p3 (4 : Int32))), .val (.int ((p1 &&& (65535 : Int32)).toUInt32.toUInt16.toUInt32.toInt32)), .val (.int ((p2 &&& (65535 : Int32)).toUInt32.toUInt16.toUInt32.toInt32)), .unset, .unset, .unset, .unset, .unset, .unset, .unset, .unset] [])) _
    exact kt
  have pre123 : ∀ t, Steps p.tables e below (T115.setTop (mkF m 52 #[.val (.int p1), .val (.int p2), .val (.int p3), .val (.int (own_bit p3 (1 : Int32))), .val (.int (own_bit p3 (2 : Int32))), .val (.int (own_bit p3 (4 : Int32))), .val (.int c1), .val (.int ((p2 &&& (65535 : Int32)).toUInt32.toUInt16.toUInt32.toInt32)), .unset, .unset, .unset, .unset, .unset, .unset, .unset, .unset] [])) t → Steps p.tables e below (s₁.setTop (entryFrame m #[(.int p1), (.int p2), (.int p3)] maxLocals)) t := by
    rw [h_c1]; exact pre122
  obtain ⟨c2, h_c2⟩ : ∃ z : Int32, z = ((p2 &&& (65535 : Int32)).toUInt32.toUInt16.toUInt32.toInt32) := ⟨_, rfl⟩
  have pre124 : ∀ t, Steps p.tables e below (T115.setTop (mkF m 52 #[.val (.int p1), .val (.int p2), .val (.int p3), .val (.int (own_bit p3 (1 : Int32))), .val (.int (own_bit p3 (2 : Int32))), .val (.int (own_bit p3 (4 : Int32))), .val (.int c1), .val (.int c2), .unset, .unset, .unset, .unset, .unset, .unset, .unset, .unset] [])) t → Steps p.tables e below (s₁.setTop (entryFrame m #[(.int p1), (.int p2), (.int p3)] maxLocals)) t := by
    rw [h_c2]; exact pre123
  have pre125 : ∀ t, Steps p.tables e below (T115.setTop (mkF m 53 #[.val (.int p1), .val (.int p2), .val (.int p3), .val (.int (own_bit p3 (1 : Int32))), .val (.int (own_bit p3 (2 : Int32))), .val (.int (own_bit p3 (4 : Int32))), .val (.int c1), .val (.int c2), .unset, .unset, .unset, .unset, .unset, .unset, .unset, .unset] [(.int (own_bit p3 (1 : Int32)))])) t → Steps p.tables e below (s₁.setTop (entryFrame m #[(.int p1), (.int p2), (.int p3)] maxLocals)) t := fun t kt => by
    refine pre124 t ?_
    show Steps p.tables e below (T115.setTop (mkF m 52 #[.val (.int p1), .val (.int p2), .val (.int p3), .val (.int (own_bit p3 (1 : Int32))), .val (.int (own_bit p3 (2 : Int32))), .val (.int (own_bit p3 (4 : Int32))), .val (.int c1), .val (.int c2), .unset, .unset, .unset, .unset, .unset, .unset, .unset, .unset] [])) _
    refine XS.iloadN X115.here hx rfl (hb hby at_52) rfl ?_
    show Steps p.tables e below (T115.setTop (mkF m 53 #[.val (.int p1), .val (.int p2), .val (.int p3), .val (.int (own_bit p3 (1 : Int32))), .val (.int (own_bit p3 (2 : Int32))), .val (.int (own_bit p3 (4 : Int32))), .val (.int c1), .val (.int c2), .unset, .unset, .unset, .unset, .unset, .unset, .unset, .unset] [(.int (own_bit p3 (1 : Int32)))])) _
    exact kt
  by_cases hc53_126 : (own_bit p3 (1 : Int32)) = (0 : Int32)
  · skip
    obtain ⟨a127, T127, h127, kk127, b127, k127, X127, e127, E127, hS127, hk127, hZ, hown, A127, Fc127, Fv127, V127, -, -, Cq127, -, sp127, st127⟩ := ldcCH X115 hx hZ hown (own_w hw 1 rfl) (own_wS hw) e115 hS0 (Nat.zero_le _) hEL (List.mem_of_getElem? (i := 0) rfl) hH (vs := []) (z := (0 : Int32)) ⟨by decide +kernel, by first | rfl | decide +kernel⟩ (by decide) rfl (g := (mkF m 64 #[.val (.int p1), .val (.int p2), .val (.int p3), .val (.int (own_bit p3 (1 : Int32))), .val (.int (own_bit p3 (2 : Int32))), .val (.int (own_bit p3 (4 : Int32))), .val (.int c1), .val (.int c2), .unset, .unset, .unset, .unset, .unset, .unset, .unset, .unset] [])) rfl (hb hby at_64) (n := 0) (by decide +kernel) (by decide) (by decide) (by decide)
    have Cr127 := Cr0.trans Cq127
    have Hc127 := Cq127.1
    have pre128 : ∀ t, Steps p.tables e below (T127.setTop (mkF m 70 #[.val (.int p1), .val (.int p2), .val (.int p3), .val (.int (own_bit p3 (1 : Int32))), .val (.int (own_bit p3 (2 : Int32))), .val (.int (own_bit p3 (4 : Int32))), .val (.int c1), .val (.int c2), .val (.ref a127), .unset, .unset, .unset, .unset, .unset, .unset, .unset] [(.int (own_bit p3 (4 : Int32)))])) t → Steps p.tables e below (s₁.setTop (entryFrame m #[(.int p1), (.int p2), (.int p3)] maxLocals)) t := fun t kt => by
      refine pre125 t ?_
      show Steps p.tables e below (T115.setTop (mkF m 53 #[.val (.int p1), .val (.int p2), .val (.int p3), .val (.int (own_bit p3 (1 : Int32))), .val (.int (own_bit p3 (2 : Int32))), .val (.int (own_bit p3 (4 : Int32))), .val (.int c1), .val (.int c2), .unset, .unset, .unset, .unset, .unset, .unset, .unset, .unset] [(.int (own_bit p3 (1 : Int32)))])) _
      refine XS.ifYes X115.here hx rfl (pc0 := 53) (pc' := 64) rfl (hb hby at_53) rfl ((if0 _ _).trans (teq (hc53_126 : (own_bit p3 (1 : Int32)) = (0 : Int32))).1) (by decide) (by decide) ?_
      refine st127 _ ?_
      refine XS.astore X127.here hx rfl (hb hby at_66) rfl rfl (l' := #[.val (.int p1), .val (.int p2), .val (.int p3), .val (.int (own_bit p3 (1 : Int32))), .val (.int (own_bit p3 (2 : Int32))), .val (.int (own_bit p3 (4 : Int32))), .val (.int c1), .val (.int c2), .val (.ref a127), .unset, .unset, .unset, .unset, .unset, .unset, .unset]) rfl ?_
      refine XS.iload X127.here hx rfl (hb hby at_68) rfl ?_
      show Steps p.tables e below (T127.setTop (mkF m 70 #[.val (.int p1), .val (.int p2), .val (.int p3), .val (.int (own_bit p3 (1 : Int32))), .val (.int (own_bit p3 (2 : Int32))), .val (.int (own_bit p3 (4 : Int32))), .val (.int c1), .val (.int c2), .val (.ref a127), .unset, .unset, .unset, .unset, .unset, .unset, .unset] [(.int (own_bit p3 (4 : Int32)))])) _
      exact kt
    by_cases hc70_129 : (own_bit p3 (4 : Int32)) = (0 : Int32)
    · skip
      obtain ⟨a130, T130, h130, kk130, b130, k130, X130, e130, E130, hS130, hk130, hZ, hown, A130, Fc130, Fv130, V130, -, -, Cq130, -, sp130, st130⟩ := ldcCH X127 hx hZ hown (own_w hw 1 rfl) (own_wS hw) e127 hS127 hk127 hEL (List.mem_of_getElem? (i := 0) rfl) Hc127 (vs := []) (z := (0 : Int32)) ⟨by decide +kernel, by first | rfl | decide +kernel⟩ (by decide) rfl (g := (mkF m 81 #[.val (.int p1), .val (.int p2), .val (.int p3), .val (.int (own_bit p3 (1 : Int32))), .val (.int (own_bit p3 (2 : Int32))), .val (.int (own_bit p3 (4 : Int32))), .val (.int c1), .val (.int c2), .val (.ref a127), .unset, .unset, .unset, .unset, .unset, .unset, .unset] [])) rfl (hb hby at_81) (n := 0) (by decide +kernel) (by decide) (by decide) (by decide)
      have Cr130 := Cr127.trans Cq130
      have Hc130 := Cq130.1
      have pre131 : ∀ t, Steps p.tables e below (T130.setTop (mkF m 85 #[.val (.int p1), .val (.int p2), .val (.int p3), .val (.int (own_bit p3 (1 : Int32))), .val (.int (own_bit p3 (2 : Int32))), .val (.int (own_bit p3 (4 : Int32))), .val (.int c1), .val (.int c2), .val (.ref a127), .val (.ref a130), .unset, .unset, .unset, .unset, .unset, .unset] [])) t → Steps p.tables e below (s₁.setTop (entryFrame m #[(.int p1), (.int p2), (.int p3)] maxLocals)) t := fun t kt => by
        refine pre128 t ?_
        show Steps p.tables e below (T127.setTop (mkF m 70 #[.val (.int p1), .val (.int p2), .val (.int p3), .val (.int (own_bit p3 (1 : Int32))), .val (.int (own_bit p3 (2 : Int32))), .val (.int (own_bit p3 (4 : Int32))), .val (.int c1), .val (.int c2), .val (.ref a127), .unset, .unset, .unset, .unset, .unset, .unset, .unset] [(.int (own_bit p3 (4 : Int32)))])) _
        refine XS.ifYes X127.here hx rfl (pc0 := 70) (pc' := 81) rfl (hb hby at_70) rfl ((if0 _ _).trans (teq (hc70_129 : (own_bit p3 (4 : Int32)) = (0 : Int32))).1) (by decide) (by decide) ?_
        refine st130 _ ?_
        refine XS.astore X130.here hx rfl (hb hby at_83) rfl rfl (l' := #[.val (.int p1), .val (.int p2), .val (.int p3), .val (.int (own_bit p3 (1 : Int32))), .val (.int (own_bit p3 (2 : Int32))), .val (.int (own_bit p3 (4 : Int32))), .val (.int c1), .val (.int c2), .val (.ref a127), .val (.ref a130), .unset, .unset, .unset, .unset, .unset, .unset]) rfl ?_
        show Steps p.tables e below (T130.setTop (mkF m 85 #[.val (.int p1), .val (.int p2), .val (.int p3), .val (.int (own_bit p3 (1 : Int32))), .val (.int (own_bit p3 (2 : Int32))), .val (.int (own_bit p3 (4 : Int32))), .val (.int c1), .val (.int c2), .val (.ref a127), .val (.ref a130), .unset, .unset, .unset, .unset, .unset, .unset] [])) _
        exact kt
      have f132 := (Fc127.ext E130)
      have f133 := (V127.ext E130)
      have f134 := ((H0.ext E127).ext E130)
      have f135 := ((H2.ext E127).ext E130)
      have f136 := ((H3.ext E127).ext E130)
      have f137 := ((H4.ext E127).ext E130)
      have f138 := ((H5.ext E127).ext E130)
      have f139 := (A127.ext E130)
      have f140 := (Fv127.ext E130)
      have z141 : n0 ≤ h130.size := (Nat.le_trans (Nat.le_trans Z0 E127.1) E130.1)
      exact tl_D l Z a0 hw ws hEL p1 p2 p3 cz sf (own_bit p3 (1 : Int32)) (own_bit p3 (2 : Int32)) (own_bit p3 (4 : Int32)) c1 c2 a127 a130 b127 k127 b130 k130 h0 n0 h130 z141 f134 H1 f135 f136 f137 f138 H6 f139 (by rw [hc53_126, own_cd0]; exact f132) f140 (by rw [hc53_126, own_bn0, own_bs0]; exact f133) A130 (by rw [hc70_129, own_cd0]; exact Fc130) Fv130 (by rw [hc70_129, own_bn0, own_bs0]; exact V130) (own_cc h_c1) (own_cc h_c2) (own_bit01 _ _) (own_bit01 _ _) (own_bit01 _ _) Bd hml hh hZ hown (X130.mono (by decide) (by decide)) N115 e130 hS130 hk130 Hc130 Cr130 pre131
    · skip
      have f142 := (H0.ext E127)
      have f143 := (H2.ext E127)
      have f144 := (H3.ext E127)
      have f145 := (H4.ext E127)
      have z147 : n0 ≤ h127.size := (Nat.le_trans Z0 E127.1)
      obtain ⟨_, _, ⟨T146, L146, k146, n146⟩, -, X146, ⟨Lc146, hQ146, l146, y146, z146⟩, st146⟩ := Jvm.LawKit.callS X127 hx (y := (⟨"java/lang/String", "valueOf", "(C)Ljava/lang/String;"⟩ : MethodName)) hown (mvT hZ (own_w hw 182 rfl)) (mvT hZ (own_w hw 183 rfl)) (mvT hZ (own_w hw 2 rfl)) (mvT hZ (own_w hw 184 rfl)) (by decide) (backOf (W := 0) (rm27 l Z a0 hw [] c2 cz h127 n0 z147 f142 H1 f143 f144 f145) hZ (own_w hw 184 rfl) (own_w hw 2 rfl) (by decide) (by decide)) (g := (mkF m 75 #[.val (.int p1), .val (.int p2), .val (.int p3), .val (.int (own_bit p3 (1 : Int32))), .val (.int (own_bit p3 (2 : Int32))), .val (.int (own_bit p3 (4 : Int32))), .val (.int c1), .val (.int c2), .val (.ref a127), .unset, .unset, .unset, .unset, .unset, .unset, .unset] [(.int c2)])) rfl (by rw [hml]; rfl) (argsL := [(.int c2)]) (rest := []) (lenOf pd_30 rfl) rfl (by show 2 * 0 + _ ≤ _; exact Nat.le_of_eq rfl) (hb hby at_75) (fun _ _ => ⟨rfl, e127, (by decide : 2 + 2 ≤ _), (by decide : 4 + 6 ≤ _)⟩)
      dsimp only [Pt.U, Pt.locs, Pt.cells, Pt.slots] at X146 l146 y146 z146 st146 hQ146
      subst l146 y146 z146
      obtain ⟨x146, b146, k146, rfl, Nq146, K146, R146_1, R146_2, R146_3, R146_4⟩ := hQ146
      have N146 := Fr.app N115 Nq146
      have hs148 : ∀ x ∈ ([] : List Addr), Safe Z own_EL T127.vm h127 x := (all0 (P := fun x => Safe Z own_EL T127.vm h127 x))
      have Hc148 := CHv.keep K146 hs148 Hc127
      have Cr148 := Cr127.trans (CHr.keep K146 hs148 Hc127)
      have pre149 : ∀ t, Steps p.tables e below (T146.setTop (mkF m 85 #[.val (.int p1), .val (.int p2), .val (.int p3), .val (.int (own_bit p3 (1 : Int32))), .val (.int (own_bit p3 (2 : Int32))), .val (.int (own_bit p3 (4 : Int32))), .val (.int c1), .val (.int c2), .val (.ref a127), .val (.ref x146), .unset, .unset, .unset, .unset, .unset, .unset] [])) t → Steps p.tables e below (s₁.setTop (entryFrame m #[(.int p1), (.int p2), (.int p3)] maxLocals)) t := fun t kt => by
        refine pre128 t ?_
        show Steps p.tables e below (T127.setTop (mkF m 70 #[.val (.int p1), .val (.int p2), .val (.int p3), .val (.int (own_bit p3 (1 : Int32))), .val (.int (own_bit p3 (2 : Int32))), .val (.int (own_bit p3 (4 : Int32))), .val (.int c1), .val (.int c2), .val (.ref a127), .unset, .unset, .unset, .unset, .unset, .unset, .unset] [(.int (own_bit p3 (4 : Int32)))])) _
        refine XS.ifNo X127.here hx rfl (hb hby at_70) rfl ((if0 _ _).trans (feq (hc70_129 : ¬ ((own_bit p3 (4 : Int32)) = (0 : Int32)))).1) ?_
        refine XS.iload X127.here hx rfl (hb hby at_73) rfl ?_
        refine st146 _ ?_
        refine XS.goto X146.here hx rfl (pc0 := 78) (pc' := 83) rfl (hb hby at_78) (by decide) (by decide) ?_
        refine XS.astore X146.here hx rfl (hb hby at_83) rfl rfl (l' := #[.val (.int p1), .val (.int p2), .val (.int p3), .val (.int (own_bit p3 (1 : Int32))), .val (.int (own_bit p3 (2 : Int32))), .val (.int (own_bit p3 (4 : Int32))), .val (.int c1), .val (.int c2), .val (.ref a127), .val (.ref x146), .unset, .unset, .unset, .unset, .unset, .unset]) rfl ?_
        show Steps p.tables e below (T146.setTop (mkF m 85 #[.val (.int p1), .val (.int p2), .val (.int p3), .val (.int (own_bit p3 (1 : Int32))), .val (.int (own_bit p3 (2 : Int32))), .val (.int (own_bit p3 (4 : Int32))), .val (.int c1), .val (.int c2), .val (.ref a127), .val (.ref x146), .unset, .unset, .unset, .unset, .unset, .unset] [])) _
        exact kt
      have f150 := (Fc127.keep K146 nin0)
      have f151 := (V127.keep K146 nin0)
      have f152 := (own_sta_keep f142 K146 own_pl0)
      have f153 := (own_sta_keep f143 K146 own_pl0)
      have f154 := (own_sta_keep f144 K146 own_pl0)
      have f155 := (own_sta_keep f145 K146 own_pl0)
      have f156 := (own_sta_keep (H5.ext E127) K146 own_pl0)
      have f157 := (A127.keep K146)
      have f158 := (Fv127.keep K146 nin0)
      have z159 : n0 ≤ T146.heap.size := (Nat.le_trans z147 K146.1)
      exact tl_D l Z a0 hw ws hEL p1 p2 p3 cz sf (own_bit p3 (1 : Int32)) (own_bit p3 (2 : Int32)) (own_bit p3 (4 : Int32)) c1 c2 a127 x146 b127 k127 b146 k146 h0 n0 T146.heap z159 f152 H1 f153 f154 f155 f156 H6 f157 (by rw [hc53_126, own_cd0]; exact f150) f158 (by rw [hc53_126, own_bn0, own_bs0]; exact f151) R146_1 (by rw [own_bit1 hc70_129]; exact R146_2) R146_3 (by rw [own_bit1 hc70_129]; exact R146_4) (own_cc h_c1) (own_cc h_c2) (own_bit01 _ _) (own_bit01 _ _) (own_bit01 _ _) Bd hml hh hZ hown (X146.mono (by decide) (by decide)) N146 rfl hS127 (Nat.le_trans hk127 K146.1) Hc148 Cr148 pre149
  · skip
    obtain ⟨_, _, ⟨T160, L160, k160, n160⟩, -, X160, ⟨Lc160, hQ160, l160, y160, z160⟩, st160⟩ := Jvm.LawKit.callS X115 hx (y := (⟨"java/lang/String", "valueOf", "(C)Ljava/lang/String;"⟩ : MethodName)) hown (mvT hZ (own_w hw 182 rfl)) (mvT hZ (own_w hw 183 rfl)) (mvT hZ (own_w hw 2 rfl)) (mvT hZ (own_w hw 184 rfl)) (by decide) (backOf (W := 0) (rm27 l Z a0 hw [] c1 cz h0 n0 Z0 H0 H1 H2 H3 H4) hZ (own_w hw 184 rfl) (own_w hw 2 rfl) (by decide) (by decide)) (g := (mkF m 58 #[.val (.int p1), .val (.int p2), .val (.int p3), .val (.int (own_bit p3 (1 : Int32))), .val (.int (own_bit p3 (2 : Int32))), .val (.int (own_bit p3 (4 : Int32))), .val (.int c1), .val (.int c2), .unset, .unset, .unset, .unset, .unset, .unset, .unset, .unset] [(.int c1)])) rfl (by rw [hml]; rfl) (argsL := [(.int c1)]) (rest := []) (lenOf pd_30 rfl) rfl (by show 2 * 0 + _ ≤ _; exact Nat.le_of_eq rfl) (hb hby at_58) (fun _ _ => ⟨rfl, e115, (by decide : 0 + 2 ≤ _), (by decide : 0 + 6 ≤ _)⟩)
    dsimp only [Pt.U, Pt.locs, Pt.cells, Pt.slots] at X160 l160 y160 z160 st160 hQ160
    subst l160 y160 z160
    obtain ⟨x160, b160, k160, rfl, Nq160, K160, R160_1, R160_2, R160_3, R160_4⟩ := hQ160
    have N160 := Fr.app N115 Nq160
    have hs161 : ∀ x ∈ ([] : List Addr), Safe Z own_EL s.vm h0 x := (all0 (P := fun x => Safe Z own_EL s.vm h0 x))
    have Hc161 := CHv.keep K160 hs161 hH
    have Cr161 := Cr0.trans (CHr.keep K160 hs161 hH)
    have pre162 : ∀ t, Steps p.tables e below (T160.setTop (mkF m 70 #[.val (.int p1), .val (.int p2), .val (.int p3), .val (.int (own_bit p3 (1 : Int32))), .val (.int (own_bit p3 (2 : Int32))), .val (.int (own_bit p3 (4 : Int32))), .val (.int c1), .val (.int c2), .val (.ref x160), .unset, .unset, .unset, .unset, .unset, .unset, .unset] [(.int (own_bit p3 (4 : Int32)))])) t → Steps p.tables e below (s₁.setTop (entryFrame m #[(.int p1), (.int p2), (.int p3)] maxLocals)) t := fun t kt => by
      refine pre125 t ?_
      show Steps p.tables e below (T115.setTop (mkF m 53 #[.val (.int p1), .val (.int p2), .val (.int p3), .val (.int (own_bit p3 (1 : Int32))), .val (.int (own_bit p3 (2 : Int32))), .val (.int (own_bit p3 (4 : Int32))), .val (.int c1), .val (.int c2), .unset, .unset, .unset, .unset, .unset, .unset, .unset, .unset] [(.int (own_bit p3 (1 : Int32)))])) _
      refine XS.ifNo X115.here hx rfl (hb hby at_53) rfl ((if0 _ _).trans (feq (hc53_126 : ¬ ((own_bit p3 (1 : Int32)) = (0 : Int32)))).1) ?_
      refine XS.iload X115.here hx rfl (hb hby at_56) rfl ?_
      refine st160 _ ?_
      refine XS.goto X160.here hx rfl (pc0 := 61) (pc' := 66) rfl (hb hby at_61) (by decide) (by decide) ?_
      refine XS.astore X160.here hx rfl (hb hby at_66) rfl rfl (l' := #[.val (.int p1), .val (.int p2), .val (.int p3), .val (.int (own_bit p3 (1 : Int32))), .val (.int (own_bit p3 (2 : Int32))), .val (.int (own_bit p3 (4 : Int32))), .val (.int c1), .val (.int c2), .val (.ref x160), .unset, .unset, .unset, .unset, .unset, .unset, .unset]) rfl ?_
      refine XS.iload X160.here hx rfl (hb hby at_68) rfl ?_
      show Steps p.tables e below (T160.setTop (mkF m 70 #[.val (.int p1), .val (.int p2), .val (.int p3), .val (.int (own_bit p3 (1 : Int32))), .val (.int (own_bit p3 (2 : Int32))), .val (.int (own_bit p3 (4 : Int32))), .val (.int c1), .val (.int c2), .val (.ref x160), .unset, .unset, .unset, .unset, .unset, .unset, .unset] [(.int (own_bit p3 (4 : Int32)))])) _
      exact kt
    by_cases hc70_163 : (own_bit p3 (4 : Int32)) = (0 : Int32)
    · skip
      obtain ⟨a164, T164, h164, kk164, b164, k164, X164, e164, E164, hS164, hk164, hZ, hown, A164, Fc164, Fv164, V164, -, -, Cq164, -, sp164, st164⟩ := ldcCH X160 hx hZ hown (own_w hw 1 rfl) (own_wS hw) rfl hS0 (Nat.le_trans (Nat.zero_le _) K160.1) hEL (List.mem_of_getElem? (i := 0) rfl) Hc161 (vs := []) (z := (0 : Int32)) ⟨by decide +kernel, by first | rfl | decide +kernel⟩ (by decide) rfl (g := (mkF m 81 #[.val (.int p1), .val (.int p2), .val (.int p3), .val (.int (own_bit p3 (1 : Int32))), .val (.int (own_bit p3 (2 : Int32))), .val (.int (own_bit p3 (4 : Int32))), .val (.int c1), .val (.int c2), .val (.ref x160), .unset, .unset, .unset, .unset, .unset, .unset, .unset] [])) rfl (hb hby at_81) (n := 0) (by decide +kernel) (by decide) (by decide) (by decide)
      have Cr164 := Cr161.trans Cq164
      have Hc164 := Cq164.1
      have pre165 : ∀ t, Steps p.tables e below (T164.setTop (mkF m 85 #[.val (.int p1), .val (.int p2), .val (.int p3), .val (.int (own_bit p3 (1 : Int32))), .val (.int (own_bit p3 (2 : Int32))), .val (.int (own_bit p3 (4 : Int32))), .val (.int c1), .val (.int c2), .val (.ref x160), .val (.ref a164), .unset, .unset, .unset, .unset, .unset, .unset] [])) t → Steps p.tables e below (s₁.setTop (entryFrame m #[(.int p1), (.int p2), (.int p3)] maxLocals)) t := fun t kt => by
        refine pre162 t ?_
        show Steps p.tables e below (T160.setTop (mkF m 70 #[.val (.int p1), .val (.int p2), .val (.int p3), .val (.int (own_bit p3 (1 : Int32))), .val (.int (own_bit p3 (2 : Int32))), .val (.int (own_bit p3 (4 : Int32))), .val (.int c1), .val (.int c2), .val (.ref x160), .unset, .unset, .unset, .unset, .unset, .unset, .unset] [(.int (own_bit p3 (4 : Int32)))])) _
        refine XS.ifYes X160.here hx rfl (pc0 := 70) (pc' := 81) rfl (hb hby at_70) rfl ((if0 _ _).trans (teq (hc70_163 : (own_bit p3 (4 : Int32)) = (0 : Int32))).1) (by decide) (by decide) ?_
        refine st164 _ ?_
        refine XS.astore X164.here hx rfl (hb hby at_83) rfl rfl (l' := #[.val (.int p1), .val (.int p2), .val (.int p3), .val (.int (own_bit p3 (1 : Int32))), .val (.int (own_bit p3 (2 : Int32))), .val (.int (own_bit p3 (4 : Int32))), .val (.int c1), .val (.int c2), .val (.ref x160), .val (.ref a164), .unset, .unset, .unset, .unset, .unset, .unset]) rfl ?_
        show Steps p.tables e below (T164.setTop (mkF m 85 #[.val (.int p1), .val (.int p2), .val (.int p3), .val (.int (own_bit p3 (1 : Int32))), .val (.int (own_bit p3 (2 : Int32))), .val (.int (own_bit p3 (4 : Int32))), .val (.int c1), .val (.int c2), .val (.ref x160), .val (.ref a164), .unset, .unset, .unset, .unset, .unset, .unset] [])) _
        exact kt
      have f166 := (R160_2.ext E164)
      have f167 := (R160_4.ext E164)
      have f168 := ((own_sta_keep H0 K160 own_pl0).ext E164)
      have f169 := ((own_sta_keep H2 K160 own_pl0).ext E164)
      have f170 := ((own_sta_keep H3 K160 own_pl0).ext E164)
      have f171 := ((own_sta_keep H4 K160 own_pl0).ext E164)
      have f172 := ((own_sta_keep H5 K160 own_pl0).ext E164)
      have f173 := (R160_1.ext E164)
      have f174 := (R160_3.ext E164)
      have z175 : n0 ≤ h164.size := (Nat.le_trans (Nat.le_trans Z0 K160.1) E164.1)
      exact tl_D l Z a0 hw ws hEL p1 p2 p3 cz sf (own_bit p3 (1 : Int32)) (own_bit p3 (2 : Int32)) (own_bit p3 (4 : Int32)) c1 c2 x160 a164 b160 k160 b164 k164 h0 n0 h164 z175 f168 H1 f169 f170 f171 f172 H6 f173 (by rw [own_bit1 hc53_126]; exact f166) f174 (by rw [own_bit1 hc53_126]; exact f167) A164 (by rw [hc70_163, own_cd0]; exact Fc164) Fv164 (by rw [hc70_163, own_bn0, own_bs0]; exact V164) (own_cc h_c1) (own_cc h_c2) (own_bit01 _ _) (own_bit01 _ _) (own_bit01 _ _) Bd hml hh hZ hown (X164.mono (by decide) (by decide)) N160 e164 hS164 hk164 Hc164 Cr164 pre165
    · skip
      have f176 := (own_sta_keep H0 K160 own_pl0)
      have f177 := (own_sta_keep H2 K160 own_pl0)
      have f178 := (own_sta_keep H3 K160 own_pl0)
      have f179 := (own_sta_keep H4 K160 own_pl0)
      have z181 : n0 ≤ T160.heap.size := (Nat.le_trans Z0 K160.1)
      obtain ⟨_, _, ⟨T180, L180, k180, n180⟩, -, X180, ⟨Lc180, hQ180, l180, y180, z180⟩, st180⟩ := Jvm.LawKit.callS X160 hx (y := (⟨"java/lang/String", "valueOf", "(C)Ljava/lang/String;"⟩ : MethodName)) hown (mvT hZ (own_w hw 182 rfl)) (mvT hZ (own_w hw 183 rfl)) (mvT hZ (own_w hw 2 rfl)) (mvT hZ (own_w hw 184 rfl)) (by decide) (backOf (W := 0) (rm27 l Z a0 hw [] c2 cz T160.heap n0 z181 f176 H1 f177 f178 f179) hZ (own_w hw 184 rfl) (own_w hw 2 rfl) (by decide) (by decide)) (g := (mkF m 75 #[.val (.int p1), .val (.int p2), .val (.int p3), .val (.int (own_bit p3 (1 : Int32))), .val (.int (own_bit p3 (2 : Int32))), .val (.int (own_bit p3 (4 : Int32))), .val (.int c1), .val (.int c2), .val (.ref x160), .unset, .unset, .unset, .unset, .unset, .unset, .unset] [(.int c2)])) rfl (by rw [hml]; rfl) (argsL := [(.int c2)]) (rest := []) (lenOf pd_30 rfl) rfl (by show 2 * 0 + _ ≤ _; exact Nat.le_of_eq rfl) (hb hby at_75) (fun _ _ => ⟨rfl, rfl, (by decide : 2 + 2 ≤ _), (by decide : 6 + 6 ≤ _)⟩)
      dsimp only [Pt.U, Pt.locs, Pt.cells, Pt.slots] at X180 l180 y180 z180 st180 hQ180
      subst l180 y180 z180
      obtain ⟨x180, b180, k180, rfl, Nq180, K180, R180_1, R180_2, R180_3, R180_4⟩ := hQ180
      have N180 := Fr.app N160 Nq180
      have hs182 : ∀ x ∈ ([] : List Addr), Safe Z own_EL s.vm T160.heap x := (all0 (P := fun x => Safe Z own_EL s.vm T160.heap x))
      have Hc182 := CHv.keep K180 hs182 Hc161
      have Cr182 := Cr161.trans (CHr.keep K180 hs182 Hc161)
      have pre183 : ∀ t, Steps p.tables e below (T180.setTop (mkF m 85 #[.val (.int p1), .val (.int p2), .val (.int p3), .val (.int (own_bit p3 (1 : Int32))), .val (.int (own_bit p3 (2 : Int32))), .val (.int (own_bit p3 (4 : Int32))), .val (.int c1), .val (.int c2), .val (.ref x160), .val (.ref x180), .unset, .unset, .unset, .unset, .unset, .unset] [])) t → Steps p.tables e below (s₁.setTop (entryFrame m #[(.int p1), (.int p2), (.int p3)] maxLocals)) t := fun t kt => by
        refine pre162 t ?_
        show Steps p.tables e below (T160.setTop (mkF m 70 #[.val (.int p1), .val (.int p2), .val (.int p3), .val (.int (own_bit p3 (1 : Int32))), .val (.int (own_bit p3 (2 : Int32))), .val (.int (own_bit p3 (4 : Int32))), .val (.int c1), .val (.int c2), .val (.ref x160), .unset, .unset, .unset, .unset, .unset, .unset, .unset] [(.int (own_bit p3 (4 : Int32)))])) _
        refine XS.ifNo X160.here hx rfl (hb hby at_70) rfl ((if0 _ _).trans (feq (hc70_163 : ¬ ((own_bit p3 (4 : Int32)) = (0 : Int32)))).1) ?_
        refine XS.iload X160.here hx rfl (hb hby at_73) rfl ?_
        refine st180 _ ?_
        refine XS.goto X180.here hx rfl (pc0 := 78) (pc' := 83) rfl (hb hby at_78) (by decide) (by decide) ?_
        refine XS.astore X180.here hx rfl (hb hby at_83) rfl rfl (l' := #[.val (.int p1), .val (.int p2), .val (.int p3), .val (.int (own_bit p3 (1 : Int32))), .val (.int (own_bit p3 (2 : Int32))), .val (.int (own_bit p3 (4 : Int32))), .val (.int c1), .val (.int c2), .val (.ref x160), .val (.ref x180), .unset, .unset, .unset, .unset, .unset, .unset]) rfl ?_
        show Steps p.tables e below (T180.setTop (mkF m 85 #[.val (.int p1), .val (.int p2), .val (.int p3), .val (.int (own_bit p3 (1 : Int32))), .val (.int (own_bit p3 (2 : Int32))), .val (.int (own_bit p3 (4 : Int32))), .val (.int c1), .val (.int c2), .val (.ref x160), .val (.ref x180), .unset, .unset, .unset, .unset, .unset, .unset] [])) _
        exact kt
      have f184 := (R160_2.keep K180 nin0)
      have f185 := (R160_4.keep K180 nin0)
      have f186 := (own_sta_keep f176 K180 own_pl0)
      have f187 := (own_sta_keep f177 K180 own_pl0)
      have f188 := (own_sta_keep f178 K180 own_pl0)
      have f189 := (own_sta_keep f179 K180 own_pl0)
      have f190 := (own_sta_keep (own_sta_keep H5 K160 own_pl0) K180 own_pl0)
      have f191 := (R160_1.keep K180)
      have f192 := (R160_3.keep K180 nin0)
      have z193 : n0 ≤ T180.heap.size := (Nat.le_trans z181 K180.1)
      exact tl_D l Z a0 hw ws hEL p1 p2 p3 cz sf (own_bit p3 (1 : Int32)) (own_bit p3 (2 : Int32)) (own_bit p3 (4 : Int32)) c1 c2 x160 x180 b160 k160 b180 k180 h0 n0 T180.heap z193 f186 H1 f187 f188 f189 f190 H6 f191 (by rw [own_bit1 hc53_126]; exact f184) f192 (by rw [own_bit1 hc53_126]; exact f185) R180_1 (by rw [own_bit1 hc70_163]; exact R180_2) R180_3 (by rw [own_bit1 hc70_163]; exact R180_4) (own_cc h_c1) (own_cc h_c2) (own_bit01 _ _) (own_bit01 _ _) (own_bit01 _ _) Bd hml hh hZ hown (X180.mono (by decide) (by decide)) N180 rfl hS0 (Nat.le_trans (Nat.le_trans (Nat.zero_le _) K160.1) K180.1) Hc182 Cr182 pre183
set_option maxRecDepth 65536 in
set_option maxHeartbeats 40000000 in
theorem comes_1 {Post : Tables → Env → Array Value → State → Outcome → State → Prop} (hpost : ∀ tb e args s v u, (limb_1_1.after args s (.returned v) u = true ∧ limb_1_2.after args s (.returned v) u = true ∧ True) → Jvm.D.FramedW s (.returned v) u (Jvm.fieldLocs frame_1_writes args s ++ Jvm.arrayLocs frame_1_arrays args s ++ Jvm.staticLocs frame_1_statics s) 48 2304 → Post tb e args s (.returned v) u) :
    ArmFor flags0 classFile x code maxLocals ret World_1 tables_1 room_1 Calls_1 rest_1 Pre_1 Post := by
  intro l hfl _ _ p e ha hc hk s m args below hf hA hF happ hP
  obtain ⟨hcalls, hrest, hpre⟩ := hP
  obtain ⟨-, -, -, hnamed, -, -, -, hat⟩ := (Spec.applies_iff hf).mp happ
  obtain ⟨hg, hn⟩ := and_e (Cond.before_iff.mp (show (Jvm.Cond.and given_1 narrow_1).before args s = true from hpre))
  obtain ⟨gc, ga0⟩ := and_e hg
  obtain ⟨gv0, ga1⟩ := and_e ga0
  obtain ⟨gv1, ga2⟩ := and_e ga1
  obtain ⟨w0, w1, w2, rfl⟩ : ∃ w0 w1 w2 : Value, args = #[w0, w1, w2] := by
    have hs : args.size = 3 := by simpa [Cond.value, given_1] using gc
    obtain ⟨L⟩ := args
    match L, hs with
    | [w0, w1, w2], _ => exact ⟨w0, w1, w2, rfl⟩
  have hw := fun d (hd : d ∈ tables_1) => atoms_spec (ws := Jvm.Cond.code x code maxLocals ret :: tables_1) hat d (List.mem_cons_of_mem _ hd)
  have hfit : Fit s := fun {y c} hc i hi => by
    obtain ⟨ha, rfl⟩ := Array.getElem?_eq_some_iff.mp hc
    have q := List.all_eq_true.mp ((Array.all_eq_true_iff_forall_mem.mp hF) _ (Array.getElem_mem ha)) i (List.mem_range.mpr hi)
    simpa [Array.getElem?_eq_getElem hi] using q
  obtain ⟨i0, ei0⟩ := is_v gv0
  obtain rfl : w0 = (.int i0) := Option.some.inj ei0
  obtain ⟨i1, ei1⟩ := is_v gv1
  obtain rfl : w1 = (.int i1) := Option.some.inj ei1
  obtain ⟨i2, ei2⟩ := is_v ga2
  obtain rfl : w2 = (.int i2) := Option.some.inj ei2
  obtain ⟨hsets, hown0⟩ := atoms_of _ (rest_1_c_eq ▸ (show rest_1_c.before _ s = true from hrest))
  have hr0 := Cond.before_iff.mp hown0
  obtain ⟨cz, vcs⟩ := is_v (Cond.before_iff.mp (hsets _ (List.mem_of_getElem? (i := 1) rfl)))
  have Scs := Sta.start vcs (Or.inl (hsets _ (List.mem_of_getElem? (i := 0) rfl)))
  have hcs : ¬ (cz = (0 : Int32)) := own_nz vcs (Cond.before_iff.mp (hsets _ (List.mem_of_getElem? (i := 2) rfl)))
  obtain ⟨sf, vsf, hsf⟩ := own_isr (Cond.before_iff.mp (hsets _ (List.mem_of_getElem? (i := 8) rfl)))
  have Ssf := Sta.start vsf (Or.inl (hsets _ (List.mem_of_getElem? (i := 7) rfl)))
  have S1 := Sta.start (Cond.eq_int (hsets _ (List.mem_of_getElem? (i := 12) rfl)) (Term.int_eval (1 : Int32))) (Or.inl (hsets _ (List.mem_of_getElem? (i := 11) rfl)))
  have S2 := Sta.start (Cond.eq_int (hsets _ (List.mem_of_getElem? (i := 15) rfl)) (Term.int_eval (0 : Int32))) (Or.inl (hsets _ (List.mem_of_getElem? (i := 14) rfl)))
  have S3 := Sta.start (Cond.eq_int (hsets _ (List.mem_of_getElem? (i := 18) rfl)) (Term.int_eval (8 : Int32))) (Or.inl (hsets _ (List.mem_of_getElem? (i := 17) rfl)))
  have hEL : EW s _ own_EL := (EW.cons (own_w hw 1 rfl) (by decide +kernel) (EW.cons (own_w hw 161 rfl) (by decide +kernel) EW.nil))
  have CH : CHv s own_EL s.vm s.heap := CHv.start hEL (fun p hp => hcalls.1 p hp) (hsets _ (List.mem_of_getElem? (i := 2) rfl)) (own_w hw 4 rfl) (own_w hw 3 rfl)
  obtain ⟨n, o, h1, h2, h3, _, L, rfl, ⟨rfl, N⟩, -, hq⟩ := rm0 l s _ hw tables_1 hEL i0 i1 i2 cz sf s.heap s.heap.size (Nat.le_refl _) Scs hcs S1 S2 S3 Ssf (own_cat hsf) p e ha hc hk s m _ below hf ((Spec.applies_iff_loose hf).mp happ).1 ⟨rfl, State.Warmed39.refl s, rfl, CH⟩ trivial
  refine ⟨n, _, h1, h2, h3, hpost _ _ _ _ _ _ ⟨Cond.after_iff.mpr rfl, Cond.after_iff.mpr (eq_i res_at (Term.int_eval (1)) rfl), trivial⟩ ⟨hq.1, hq.2.1, hq.2.2.1, (hq.2.2.2.sift fun y hy => Or.inr (N y hy)).mono (by decide) (by decide)⟩⟩
theorem main_1_1 : Claimed_1_1 := comes_1 fun _ _ _ _ _ _ h hF => ⟨h.1, hF⟩
theorem main_1_2 : Claimed_1_2 := comes_1 fun _ _ _ _ _ _ h hF => ⟨h.2.1, hF⟩
end Jvm.Pilot.@@N@@
namespace Jvm.Pilot.@@N@@
open Jvm Jvm.ClassFile Sem Op Lib Jvm.Free Jvm.Stand Jvm.Pilot.@@N@@.Jvm.D
/-! MADE BY PROGRAM (witnessworld.py) out of the Statement's table words and the real class files: 31 classes; the members and pool entries that the words name. The judged class is class 1, her method 1. -/
namespace start1
open Jvm.ClassFile
def u (s : String) : CpInfo := .utf8 (stringToUtf16 s)
/-- a pool by its gaps: so many unusable entries, then the entry; so many at the end -/
def gap : Nat → List CpInfo → List CpInfo
  | 0, r => r
  | n + 1, r => .unusable :: gap n r
def poolList (es : List (Nat × CpInfo)) (last : Nat) : List CpInfo := es.foldr (fun e r => gap e.1 (e.2 :: r)) (gap last [])
def pool (es : List (Nat × CpInfo)) (last : Nat) : Array CpInfo := ⟨poolList es last⟩
def fileOf (pool : Array CpInfo) (this : Nat) (attrs : Array Attribute := #[]) (ms : Array MethodInfo := #[]) (fl : Nat := 33) (sup : Nat := 0) (ifs : Array Nat := #[]) (fds : Array FieldInfo := #[]) : ClassFile where
  minorVersion := 0
  majorVersion := 65
  constantPool := pool
  accessFlags := fl
  thisClass := this
  superClass := sup
  interfaces := ifs
  fields := fds
  methods := ms
  attributes := attrs
def plain (name : String) (sup : Option ClassId) : Class where
  name := name
  kind := .ordinary
  loader := none
  accessFlags := 33
  super := sup
  interfaces := #[]
  cf := none
  fields := #[]
  methods := #[]
  instanceTypes := #[]
  staticTypes := #[]
  resolved := #[]
  callSites := []
  init := .initialized
  statics := none
  mirror := none

def pool0 : Array CpInfo := pool [(5, u "<init>"), (0, u "()V"), (1, .class_ 10), (1, u "java/lang/Object")] 113

def k0c0 : Code := { maxStack := 0, maxLocals := 1, code := object_method_1_code, exceptionTable := #[], attributes := #[] }
def k0m0 : Method := { name := "<init>", desc := "()V", sig := { parameters := [], returnType := none }, accessFlags := 1, code := some k0c0 }
/-- java/lang/Object -/
def k0 : Class := { plain "java/lang/Object" none with
  accessFlags := 33
  interfaces := #[]
  cf := some (fileOf pool0 8 #[] #[{ accessFlags := 1, nameIndex := 5, descriptorIndex := 6, attributes := #[] }] 33 0 #[] #[])
  fields := #[]
  methods := #[k0m0]
  instanceTypes := #[]
  staticTypes := #[]
  resolved := Array.replicate 124 none
  statics := none }

def pool1 : Array CpInfo := pool [(2, .class_ 4), (1, u "java/lang/Object"), (0, u "<init>"), (0, u "()V"), (0, .integer 65535), (0, .methodref 9 10), (0, .class_ 11), (0, .nameAndType 12 13), (0, u "java/lang/String"), (0, u "valueOf"), (0, u "(C)Ljava/lang/String;"), (0, .string 15), (0, u ""), (0, .class_ 17), (0, u "com/example/rouse/rouse/shell/CommandLine"), (0, .methodref 16 19), (0, .nameAndType 5 20), (0, u "(II)V"), (0, .methodref 16 22), (0, .nameAndType 23 24), (0, u "append"), (0, u "(C)V"), (0, .methodref 16 26), (0, .nameAndType 27 6), (0, u "endWord"), (0, .methodref 16 29), (0, .nameAndType 30 6), (0, u "endCommand"), (0, .methodref 16 32), (0, .nameAndType 33 34), (0, u "commandHasWords"), (0, u "()Z"), (0, .methodref 16 36), (0, .nameAndType 37 38), (0, u "iterator"), (0, u "()Ljava/util/Iterator;"), (0, .interfaceMethodref 40 41), (0, .class_ 42), (0, .nameAndType 43 44), (0, u "java/util/Iterator"), (0, u "next"), (0, u "()Ljava/lang/Object;"), (0, .class_ 46), (0, u "com/example/rouse/rouse/shell/CommandLine$Words"), (0, .methodref 45 48), (0, .nameAndType 49 50), (0, u "size"), (0, u "()I"), (0, .methodref 45 52), (0, .nameAndType 53 54), (0, u "get"), (0, u "(I)Ljava/lang/String;"), (0, .methodref 9 56), (0, .nameAndType 57 58), (0, u "equals"), (0, u "(Ljava/lang/Object;)Z"), (0, .interfaceMethodref 40 60), (0, .nameAndType 61 34), (0, u "hasNext"), (0, .class_ 63), (0, u "com/example/rouse/rouse/shell/CommandLineEndCommandPinLaw"), (2, u "law"), (0, u "(III)Z")] 5

def k1m0 : Method := { name := "<init>", desc := "()V", sig := { parameters := [], returnType := none }, accessFlags := 1, code := none }
def k1c1 : Code := { maxStack := 4, maxLocals := 16, code := code, exceptionTable := #[], attributes := #[] }
def k1m1 : Method := { name := "law", desc := "(III)Z", sig := { parameters := [.int, .int, .int], returnType := some .boolean }, accessFlags := 9, code := some k1c1 }
/-- com/example/rouse/rouse/shell/CommandLineEndCommandPinLaw -/
def k1 : Class := { plain "com/example/rouse/rouse/shell/CommandLineEndCommandPinLaw" (some 0) with
  accessFlags := 49
  interfaces := #[]
  cf := some (fileOf pool1 62 #[] #[{ accessFlags := 1, nameIndex := 5, descriptorIndex := 6, attributes := #[] }, { accessFlags := 9, nameIndex := 66, descriptorIndex := 67, attributes := #[] }] 49 2 #[] #[])
  fields := #[]
  methods := #[k1m0, k1m1]
  instanceTypes := #[]
  staticTypes := #[]
  resolved := Array.replicate 73 none
  statics := none }

def pool2 : Array CpInfo := pool [(1, .class_ 2), (0, u "java/io/Serializable"), (0, .class_ 4), (0, u "java/lang/Object")] 2

/-- java/io/Serializable -/
def k2 : Class := { plain "java/io/Serializable" (some 0) with
  accessFlags := 1537
  interfaces := #[]
  cf := some (fileOf pool2 1 #[] #[] 1537 3 #[] #[])
  fields := #[]
  methods := #[]
  instanceTypes := #[]
  staticTypes := #[]
  resolved := Array.replicate 7 none
  statics := none }

def pool3 : Array CpInfo := pool [(1, .class_ 2), (0, u "java/lang/Comparable"), (0, .class_ 4), (0, u "java/lang/Object")] 7

/-- java/lang/Comparable -/
def k3 : Class := { plain "java/lang/Comparable" (some 0) with
  accessFlags := 1537
  interfaces := #[]
  cf := some (fileOf pool3 1 #[] #[] 1537 3 #[] #[])
  fields := #[]
  methods := #[]
  instanceTypes := #[]
  staticTypes := #[]
  resolved := Array.replicate 12 none
  statics := none }

def pool4 : Array CpInfo := pool [(2, .class_ 4), (1, u "java/lang/CharSequence"), (42, .class_ 48), (0, u "java/lang/CharSequence$1CodePointIterator"), (10, .class_ 60), (0, u "java/lang/CharSequence$1CharIterator"), (5, .class_ 67), (0, u "java/lang/Object")] 63

/-- java/lang/CharSequence -/
def k4 : Class := { plain "java/lang/CharSequence" (some 0) with
  accessFlags := 1537
  interfaces := #[]
  cf := some (fileOf pool4 2 #[.nestMembers #[47, 59]] #[] 1537 66 #[] #[])
  fields := #[]
  methods := #[]
  instanceTypes := #[]
  staticTypes := #[]
  resolved := Array.replicate 131 none
  statics := none }

def pool5 : Array CpInfo := pool [(1, .class_ 2), (0, u "java/lang/constant/Constable"), (0, .class_ 4), (0, u "java/lang/Object")] 6

/-- java/lang/constant/Constable -/
def k5 : Class := { plain "java/lang/constant/Constable" (some 0) with
  accessFlags := 1537
  interfaces := #[]
  cf := some (fileOf pool5 1 #[] #[] 1537 3 #[] #[])
  fields := #[]
  methods := #[]
  instanceTypes := #[]
  staticTypes := #[]
  resolved := Array.replicate 11 none
  statics := none }

def pool6 : Array CpInfo := pool [(1, .class_ 2), (0, u "java/lang/constant/ConstantDesc"), (0, .class_ 4), (0, u "java/lang/Object")] 32

/-- java/lang/constant/ConstantDesc -/
def k6 : Class := { plain "java/lang/constant/ConstantDesc" (some 0) with
  accessFlags := 1537
  interfaces := #[]
  cf := some (fileOf pool6 1 #[] #[] 1537 3 #[] #[])
  fields := #[]
  methods := #[]
  instanceTypes := #[]
  staticTypes := #[]
  resolved := Array.replicate 37 none
  statics := none }

def pool7 : Array CpInfo := pool [(1, .methodref 2 3), (0, .class_ 4), (0, .nameAndType 5 6), (0, u "java/lang/Object"), (0, u "<init>"), (0, u "()V"), (0, .string 8), (0, u ""), (0, .fieldref 10 11), (0, .class_ 12), (0, .nameAndType 13 14), (0, u "java/lang/String"), (0, u "value"), (0, u "[B"), (0, .fieldref 10 16), (0, .nameAndType 17 18), (0, u "coder"), (0, u "B"), (2, u "hash"), (0, u "I"), (2, u "hashIsZero"), (0, u "Z"), (0, .methodref 10 28), (0, .nameAndType 5 29), (0, u "([CIILjava/lang/Void;)V"), (0, .methodref 10 31), (0, .nameAndType 32 33), (0, u "rangeCheck"), (0, u "([CII)Ljava/lang/Void;"), (0, .methodref 10 35), (0, .nameAndType 36 37), (0, u "checkBoundsOffCount"), (0, u "(III)I"), (0, .fieldref 10 39), (0, .nameAndType 40 26), (0, u "COMPACT_STRINGS"), (1, .class_ 44), (1, u "java/lang/StringUTF16"), (0, u "compress"), (1, .methodref 42 48), (0, .nameAndType 49 50), (0, u "coderFromArrayLen"), (0, u "([BI)B"), (2, u "toBytes"), (53, .class_ 109), (1, u "java/lang/StringLatin1"), (67, .methodref 42 178), (0, .nameAndType 45 179), (0, u "([CII)[B"), (29, .methodref 10 210), (0, .nameAndType 5 211), (0, u "([BB)V"), (157, u "(C)Z"), (171, .methodref 107 542), (0, .nameAndType 543 544), (0, u "equals"), (0, u "([B[B)Z"), (28, u "(Ljava/lang/Object;)Z"), (1, .class_ 576), (0, u "java/lang/CharSequence"), (22, u "CASE_INSENSITIVE_ORDER"), (0, u "Ljava/util/Comparator;"), (181, u "valueOf"), (0, u "(C)Ljava/lang/String;"), (188, u "([CII)V"), (42, .methodref 107 1016), (0, .nameAndType 1017 369), (0, u "canEncode"), (0, .methodref 107 1019), (0, .nameAndType 53 1020), (0, u "(C)[B"), (0, .methodref 42 1019), (31, .fieldref 1054 1055), (0, .class_ 1056), (0, .nameAndType 1057 1058), (0, u "jdk/internal/util/Preconditions"), (0, u "SIOOBE_FORMATTER"), (0, u "Ljava/util/function/BiFunction;"), (5, u "(IIILjava/util/function/BiFunction;)I"), (0, .methodref 1054 1066), (0, .nameAndType 1067 1064), (0, u "checkFromIndexSize"), (33, u "serialPersistentFields"), (0, u "[Ljava/io/ObjectStreamField;"), (0, .class_ 1104), (0, u "java/lang/String$CaseInsensitiveComparator"), (1, .class_ 1107), (0, u "java/io/Serializable"), (0, .class_ 1109), (0, u "java/lang/Comparable"), (0, .class_ 1111), (0, u "java/lang/constant/Constable"), (0, .class_ 1113), (0, u "java/lang/constant/ConstantDesc"), (2, u "serialVersionUID"), (0, u "J"), (3, u "REPL"), (0, u "C"), (2, u "LATIN1"), (1, u "UTF16")] 323

def k7m0 : Method := { name := "<init>", desc := "()V", sig := { parameters := [], returnType := none }, accessFlags := 1, code := none }
def k7c1 : Code := { maxStack := 7, maxLocals := 4, code := jdk_42_method_4_code, exceptionTable := #[], attributes := #[] }
def k7m1 : Method := { name := "<init>", desc := "([CII)V", sig := { parameters := [(.array .char), .int, .int], returnType := none }, accessFlags := 1, code := some k7c1 }
def k7c2 : Code := { maxStack := 3, maxLocals := 3, code := jdk_42_method_5_code, exceptionTable := #[], attributes := #[] }
def k7m2 : Method := { name := "rangeCheck", desc := "([CII)Ljava/lang/Void;", sig := { parameters := [(.array .char), .int, .int], returnType := some (.object "java/lang/Void") }, accessFlags := 10, code := some k7c2 }
def k7c3 : Code := { maxStack := 2, maxLocals := 3, code := jdk_42_method_66_code, exceptionTable := #[], attributes := #[] }
def k7m3 : Method := { name := "equals", desc := "(Ljava/lang/Object;)Z", sig := { parameters := [(.object "java/lang/Object")], returnType := some .boolean }, accessFlags := 1, code := some k7c3 }
def k7c4 : Code := { maxStack := 4, maxLocals := 1, code := jdk_42_method_139_code, exceptionTable := #[], attributes := #[] }
def k7m4 : Method := { name := "valueOf", desc := "(C)Ljava/lang/String;", sig := { parameters := [.char], returnType := some (.object "java/lang/String") }, accessFlags := 9, code := some k7c4 }
def k7c5 : Code := { maxStack := 4, maxLocals := 6, code := jdk_42_method_149_code, exceptionTable := #[], attributes := #[] }
def k7m5 : Method := { name := "<init>", desc := "([CIILjava/lang/Void;)V", sig := { parameters := [(.array .char), .int, .int, (.object "java/lang/Void")], returnType := none }, accessFlags := 2, code := some k7c5 }
def k7c6 : Code := { maxStack := 2, maxLocals := 3, code := jdk_42_method_151_code, exceptionTable := #[], attributes := #[] }
def k7m6 : Method := { name := "<init>", desc := "([BB)V", sig := { parameters := [(.array .byte), .byte], returnType := none }, accessFlags := 0, code := some k7c6 }
def k7c7 : Code := { maxStack := 4, maxLocals := 3, code := jdk_42_method_157_code, exceptionTable := #[], attributes := #[] }
def k7m7 : Method := { name := "checkBoundsOffCount", desc := "(III)I", sig := { parameters := [.int, .int, .int], returnType := some .int }, accessFlags := 8, code := some k7c7 }
/-- java/lang/String -/
def k7 : Class := { plain "java/lang/String" (some 0) with
  accessFlags := 49
  interfaces := #[2, 3, 4, 5, 6]
  cf := some (fileOf pool7 10 #[.nestMembers #[1103]] #[{ accessFlags := 1, nameIndex := 5, descriptorIndex := 6, attributes := #[] }, { accessFlags := 1, nameIndex := 5, descriptorIndex := 972, attributes := #[] }, { accessFlags := 10, nameIndex := 32, descriptorIndex := 33, attributes := #[] }, { accessFlags := 1, nameIndex := 543, descriptorIndex := 573, attributes := #[] }, { accessFlags := 9, nameIndex := 782, descriptorIndex := 783, attributes := #[] }, { accessFlags := 2, nameIndex := 5, descriptorIndex := 29, attributes := #[] }, { accessFlags := 0, nameIndex := 5, descriptorIndex := 211, attributes := #[] }, { accessFlags := 8, nameIndex := 36, descriptorIndex := 37, attributes := #[] }] 49 2 #[1106, 1108, 575, 1110, 1112] #[{ accessFlags := 18, nameIndex := 13, descriptorIndex := 14, attributes := #[] }, { accessFlags := 18, nameIndex := 17, descriptorIndex := 18, attributes := #[] }, { accessFlags := 2, nameIndex := 21, descriptorIndex := 22, attributes := #[] }, { accessFlags := 2, nameIndex := 25, descriptorIndex := 26, attributes := #[] }, { accessFlags := 26, nameIndex := 1116, descriptorIndex := 1117, attributes := #[] }, { accessFlags := 24, nameIndex := 40, descriptorIndex := 26, attributes := #[] }, { accessFlags := 26, nameIndex := 1101, descriptorIndex := 1102, attributes := #[] }, { accessFlags := 26, nameIndex := 1121, descriptorIndex := 1122, attributes := #[] }, { accessFlags := 25, nameIndex := 599, descriptorIndex := 600, attributes := #[] }, { accessFlags := 24, nameIndex := 1125, descriptorIndex := 18, attributes := #[] }, { accessFlags := 24, nameIndex := 1127, descriptorIndex := 18, attributes := #[] }])
  fields := #[{ name := "value", type := (.array .byte), accessFlags := 18, slot := 0, constantValue := 0 }, { name := "coder", type := .byte, accessFlags := 18, slot := 1, constantValue := 0 }, { name := "hash", type := .int, accessFlags := 2, slot := 2, constantValue := 0 }, { name := "hashIsZero", type := .boolean, accessFlags := 2, slot := 3, constantValue := 0 }, { name := "serialVersionUID", type := .long, accessFlags := 26, slot := 0, constantValue := 0 }, { name := "COMPACT_STRINGS", type := .boolean, accessFlags := 24, slot := 1, constantValue := 0 }, { name := "serialPersistentFields", type := (.array (.object "java/io/ObjectStreamField")), accessFlags := 26, slot := 2, constantValue := 0 }, { name := "REPL", type := .char, accessFlags := 26, slot := 3, constantValue := 0 }, { name := "CASE_INSENSITIVE_ORDER", type := (.object "java/util/Comparator"), accessFlags := 25, slot := 4, constantValue := 0 }, { name := "LATIN1", type := .byte, accessFlags := 24, slot := 5, constantValue := 0 }, { name := "UTF16", type := .byte, accessFlags := 24, slot := 6, constantValue := 0 }]
  methods := #[k7m0, k7m1, k7m2, k7m3, k7m4, k7m5, k7m6, k7m7]
  instanceTypes := #[(.array .byte), .byte, .int, .boolean]
  staticTypes := #[.long, .boolean, (.array (.object "java/io/ObjectStreamField")), .char, (.object "java/util/Comparator"), .byte, .byte]
  resolved := Array.replicate 1451 none
  statics := some 0 }

def pool8 : Array CpInfo := pool [(8, .class_ 10), (1, u "java/lang/Iterable"), (24, .class_ 36), (0, u "java/lang/Object")] 25

/-- java/lang/Iterable -/
def k8 : Class := { plain "java/lang/Iterable" (some 0) with
  accessFlags := 1537
  interfaces := #[]
  cf := some (fileOf pool8 8 #[] #[] 1537 35 #[] #[])
  fields := #[]
  methods := #[]
  instanceTypes := #[]
  staticTypes := #[]
  resolved := Array.replicate 62 none
  statics := none }

def pool9 : Array CpInfo := pool [(1, .methodref 2 3), (0, .class_ 4), (0, .nameAndType 5 6), (0, u "java/lang/Object"), (0, u "<init>"), (0, u "()V"), (0, .class_ 8), (0, u "com/example/rouse/rouse/shell/CommandLine"), (0, .fieldref 7 10), (0, .nameAndType 11 12), (0, u "characters"), (0, u "[C"), (0, .fieldref 7 14), (0, .nameAndType 15 16), (0, u "wordEnds"), (0, u "[I"), (0, .fieldref 7 18), (0, .nameAndType 19 20), (0, u "maxCharacters"), (0, u "I"), (0, .fieldref 7 22), (0, .nameAndType 23 20), (0, u "maxWords"), (0, .fieldref 7 25), (0, .nameAndType 26 20), (0, u "length"), (12, .fieldref 7 40), (0, .nameAndType 41 20), (0, u "words"), (3, .fieldref 7 46), (0, .nameAndType 47 20), (0, u "commandStart"), (0, .class_ 49), (0, u "com/example/rouse/rouse/shell/CommandLine$1"), (0, .methodref 48 51), (0, .nameAndType 5 52), (0, u "(Lcom/example/rouse/rouse/shell/CommandLine;)V"), (0, .methodref 7 54), (0, .nameAndType 55 56), (0, u "wordEnd"), (0, u "(I)I"), (0, .class_ 58), (0, u "java/lang/Iterable"), (0, u "FIRST_CAPACITY"), (2, u "(II)V"), (2, u "append"), (0, u "(C)V"), (1, u "endWord"), (0, u "commandHasWords"), (0, u "()Z"), (0, u "endCommand"), (0, u "iterator"), (0, u "()Ljava/util/Iterator;"), (2, u "wordStart"), (4, .class_ 82), (0, u "com/example/rouse/rouse/shell/CommandLine$Words")] 2

def k9c0 : Code := { maxStack := 2, maxLocals := 3, code := prog_64_method_1_code, exceptionTable := #[], attributes := #[] }
def k9m0 : Method := { name := "<init>", desc := "(II)V", sig := { parameters := [.int, .int], returnType := none }, accessFlags := 0, code := some k9c0 }
def k9c1 : Code := { maxStack := 5, maxLocals := 2, code := prog_64_method_2_code, exceptionTable := #[], attributes := #[] }
def k9m1 : Method := { name := "append", desc := "(C)V", sig := { parameters := [.char], returnType := none }, accessFlags := 0, code := some k9c1 }
def k9c2 : Code := { maxStack := 5, maxLocals := 1, code := prog_64_method_3_code, exceptionTable := #[], attributes := #[] }
def k9m2 : Method := { name := "endWord", desc := "()V", sig := { parameters := [], returnType := none }, accessFlags := 0, code := some k9c2 }
def k9c3 : Code := { maxStack := 2, maxLocals := 1, code := prog_64_method_4_code, exceptionTable := #[], attributes := #[] }
def k9m3 : Method := { name := "commandHasWords", desc := "()Z", sig := { parameters := [], returnType := some .boolean }, accessFlags := 0, code := some k9c3 }
def k9c4 : Code := { maxStack := 5, maxLocals := 1, code := prog_64_method_5_code, exceptionTable := #[], attributes := #[] }
def k9m4 : Method := { name := "endCommand", desc := "()V", sig := { parameters := [], returnType := none }, accessFlags := 0, code := some k9c4 }
def k9c5 : Code := { maxStack := 3, maxLocals := 1, code := prog_64_method_6_code, exceptionTable := #[], attributes := #[] }
def k9m5 : Method := { name := "iterator", desc := "()Ljava/util/Iterator;", sig := { parameters := [], returnType := some (.object "java/util/Iterator") }, accessFlags := 1, code := some k9c5 }
def k9c6 : Code := { maxStack := 2, maxLocals := 2, code := prog_64_method_7_code, exceptionTable := #[], attributes := #[] }
def k9m6 : Method := { name := "wordEnd", desc := "(I)I", sig := { parameters := [.int], returnType := some .int }, accessFlags := 2, code := some k9c6 }
def k9c7 : Code := { maxStack := 3, maxLocals := 2, code := prog_64_method_8_code, exceptionTable := #[], attributes := #[] }
def k9m7 : Method := { name := "wordStart", desc := "(I)I", sig := { parameters := [.int], returnType := some .int }, accessFlags := 2, code := some k9c7 }
/-- com/example/rouse/rouse/shell/CommandLine -/
def k9 : Class := { plain "com/example/rouse/rouse/shell/CommandLine" (some 0) with
  accessFlags := 48
  interfaces := #[8]
  cf := some (fileOf pool9 7 #[.nestMembers #[81, 48]] #[{ accessFlags := 0, nameIndex := 5, descriptorIndex := 62, attributes := #[] }, { accessFlags := 0, nameIndex := 65, descriptorIndex := 66, attributes := #[] }, { accessFlags := 0, nameIndex := 68, descriptorIndex := 6, attributes := #[] }, { accessFlags := 0, nameIndex := 69, descriptorIndex := 70, attributes := #[] }, { accessFlags := 0, nameIndex := 71, descriptorIndex := 6, attributes := #[] }, { accessFlags := 1, nameIndex := 72, descriptorIndex := 73, attributes := #[] }, { accessFlags := 2, nameIndex := 55, descriptorIndex := 56, attributes := #[] }, { accessFlags := 2, nameIndex := 76, descriptorIndex := 56, attributes := #[] }] 48 2 #[57] #[{ accessFlags := 26, nameIndex := 59, descriptorIndex := 20, attributes := #[] }, { accessFlags := 18, nameIndex := 19, descriptorIndex := 20, attributes := #[] }, { accessFlags := 18, nameIndex := 23, descriptorIndex := 20, attributes := #[] }, { accessFlags := 2, nameIndex := 11, descriptorIndex := 12, attributes := #[] }, { accessFlags := 2, nameIndex := 26, descriptorIndex := 20, attributes := #[] }, { accessFlags := 2, nameIndex := 15, descriptorIndex := 16, attributes := #[] }, { accessFlags := 2, nameIndex := 41, descriptorIndex := 20, attributes := #[] }, { accessFlags := 2, nameIndex := 47, descriptorIndex := 20, attributes := #[] }])
  fields := #[{ name := "FIRST_CAPACITY", type := .int, accessFlags := 26, slot := 0, constantValue := 0 }, { name := "maxCharacters", type := .int, accessFlags := 18, slot := 0, constantValue := 0 }, { name := "maxWords", type := .int, accessFlags := 18, slot := 1, constantValue := 0 }, { name := "characters", type := (.array .char), accessFlags := 2, slot := 2, constantValue := 0 }, { name := "length", type := .int, accessFlags := 2, slot := 3, constantValue := 0 }, { name := "wordEnds", type := (.array .int), accessFlags := 2, slot := 4, constantValue := 0 }, { name := "words", type := .int, accessFlags := 2, slot := 5, constantValue := 0 }, { name := "commandStart", type := .int, accessFlags := 2, slot := 6, constantValue := 0 }]
  methods := #[k9m0, k9m1, k9m2, k9m3, k9m4, k9m5, k9m6, k9m7]
  instanceTypes := #[.int, .int, (.array .char), .int, (.array .int), .int, .int]
  staticTypes := #[.int]
  resolved := Array.replicate 85 none
  statics := none }

def pool10 : Array CpInfo := pool [(16, .class_ 18), (1, u "java/util/Iterator"), (0, u "hasNext"), (0, u "()Z"), (2, u "next"), (0, u "()Ljava/lang/Object;"), (6, .class_ 32), (0, u "java/lang/Object")] 20

def k10m0 : Method := { name := "hasNext", desc := "()Z", sig := { parameters := [], returnType := some .boolean }, accessFlags := 1025, code := none }
def k10m1 : Method := { name := "next", desc := "()Ljava/lang/Object;", sig := { parameters := [], returnType := some (.object "java/lang/Object") }, accessFlags := 1025, code := none }
/-- java/util/Iterator -/
def k10 : Class := { plain "java/util/Iterator" (some 0) with
  accessFlags := 1537
  interfaces := #[]
  cf := some (fileOf pool10 16 #[] #[{ accessFlags := 1025, nameIndex := 19, descriptorIndex := 20, attributes := #[] }, { accessFlags := 1025, nameIndex := 23, descriptorIndex := 24, attributes := #[] }] 1537 31 #[] #[])
  fields := #[]
  methods := #[k10m0, k10m1]
  instanceTypes := #[]
  staticTypes := #[]
  resolved := Array.replicate 53 none
  statics := none }

def pool11 : Array CpInfo := pool [(1, .fieldref 2 3), (0, .class_ 4), (0, .nameAndType 5 6), (0, u "com/example/rouse/rouse/shell/CommandLine$1"), (0, u "this$0"), (0, u "Lcom/example/rouse/rouse/shell/CommandLine;"), (0, .methodref 8 9), (0, .class_ 10), (0, .nameAndType 11 12), (0, u "java/lang/Object"), (0, u "<init>"), (0, u "()V"), (0, .fieldref 2 14), (0, .nameAndType 15 16), (0, u "nextWord"), (0, u "I"), (0, .fieldref 18 19), (0, .class_ 20), (0, .nameAndType 21 16), (0, u "com/example/rouse/rouse/shell/CommandLine"), (0, u "words"), (0, .methodref 2 23), (0, .nameAndType 24 25), (0, u "hasNext"), (0, u "()Z"), (3, .fieldref 18 30), (0, .nameAndType 31 32), (0, u "wordEnds"), (0, u "[I"), (0, .class_ 34), (0, u "com/example/rouse/rouse/shell/CommandLine$Words"), (0, .methodref 33 36), (0, .nameAndType 11 37), (0, u "(Lcom/example/rouse/rouse/shell/CommandLine;II)V"), (0, .methodref 2 39), (0, .nameAndType 40 41), (0, u "next"), (0, u "()Lcom/example/rouse/rouse/shell/CommandLine$Words;"), (0, .class_ 43), (0, u "java/util/Iterator"), (0, u "(Lcom/example/rouse/rouse/shell/CommandLine;)V"), (4, u "()Ljava/lang/Object;")] 11

def k11c0 : Code := { maxStack := 2, maxLocals := 2, code := prog_65_method_1_code, exceptionTable := #[], attributes := #[] }
def k11m0 : Method := { name := "<init>", desc := "(Lcom/example/rouse/rouse/shell/CommandLine;)V", sig := { parameters := [(.object "com/example/rouse/rouse/shell/CommandLine")], returnType := none }, accessFlags := 0, code := some k11c0 }
def k11c1 : Code := { maxStack := 2, maxLocals := 1, code := prog_65_method_2_code, exceptionTable := #[], attributes := #[] }
def k11m1 : Method := { name := "hasNext", desc := "()Z", sig := { parameters := [], returnType := some .boolean }, accessFlags := 1, code := some k11c1 }
def k11c2 : Code := { maxStack := 5, maxLocals := 3, code := prog_65_method_3_code, exceptionTable := #[], attributes := #[] }
def k11m2 : Method := { name := "next", desc := "()Lcom/example/rouse/rouse/shell/CommandLine$Words;", sig := { parameters := [], returnType := some (.object "com/example/rouse/rouse/shell/CommandLine$Words") }, accessFlags := 1, code := some k11c2 }
def k11c3 : Code := { maxStack := 1, maxLocals := 1, code := prog_65_method_4_code, exceptionTable := #[], attributes := #[] }
def k11m3 : Method := { name := "next", desc := "()Ljava/lang/Object;", sig := { parameters := [], returnType := some (.object "java/lang/Object") }, accessFlags := 4161, code := some k11c3 }
/-- com/example/rouse/rouse/shell/CommandLine$1 -/
def k11 : Class := { plain "com/example/rouse/rouse/shell/CommandLine$1" (some 0) with
  accessFlags := 32
  interfaces := #[10]
  cf := some (fileOf pool11 2 #[.nestHost 18] #[{ accessFlags := 0, nameIndex := 11, descriptorIndex := 44, attributes := #[] }, { accessFlags := 1, nameIndex := 24, descriptorIndex := 25, attributes := #[] }, { accessFlags := 1, nameIndex := 40, descriptorIndex := 41, attributes := #[] }, { accessFlags := 4161, nameIndex := 40, descriptorIndex := 49, attributes := #[] }] 32 8 #[42] #[{ accessFlags := 2, nameIndex := 15, descriptorIndex := 16, attributes := #[] }, { accessFlags := 4112, nameIndex := 5, descriptorIndex := 6, attributes := #[] }])
  fields := #[{ name := "nextWord", type := .int, accessFlags := 2, slot := 0, constantValue := 0 }, { name := "this$0", type := (.object "com/example/rouse/rouse/shell/CommandLine"), accessFlags := 4112, slot := 1, constantValue := 0 }]
  methods := #[k11m0, k11m1, k11m2, k11m3]
  instanceTypes := #[.int, (.object "com/example/rouse/rouse/shell/CommandLine")]
  staticTypes := #[]
  resolved := Array.replicate 61 none
  statics := none }

def pool12 : Array CpInfo := pool [(10, .class_ 12), (1, u "java/util/Collection"), (47, .class_ 61), (0, u "java/lang/Object"), (0, .class_ 63), (0, u "java/lang/Iterable")] 51

/-- java/util/Collection -/
def k12 : Class := { plain "java/util/Collection" (some 0) with
  accessFlags := 1537
  interfaces := #[8]
  cf := some (fileOf pool12 10 #[] #[] 1537 60 #[62] #[])
  fields := #[]
  methods := #[]
  instanceTypes := #[]
  staticTypes := #[]
  resolved := Array.replicate 115 none
  statics := none }

def pool13 : Array CpInfo := pool [(1, .methodref 2 3), (0, .class_ 4), (0, .nameAndType 5 6), (0, u "java/lang/Object"), (0, u "<init>"), (0, u "()V"), (1, .class_ 10), (1, u "java/util/AbstractCollection"), (66, .class_ 78), (0, u "java/util/Collection")] 81

def k13c0 : Code := { maxStack := 1, maxLocals := 1, code := jdk_22_method_1_code, exceptionTable := #[], attributes := #[] }
def k13m0 : Method := { name := "<init>", desc := "()V", sig := { parameters := [], returnType := none }, accessFlags := 4, code := some k13c0 }
/-- java/util/AbstractCollection -/
def k13 : Class := { plain "java/util/AbstractCollection" (some 0) with
  accessFlags := 1057
  interfaces := #[12]
  cf := some (fileOf pool13 8 #[] #[{ accessFlags := 4, nameIndex := 5, descriptorIndex := 6, attributes := #[] }] 1057 2 #[77] #[])
  fields := #[]
  methods := #[k13m0]
  instanceTypes := #[]
  staticTypes := #[]
  resolved := Array.replicate 160 none
  statics := none }

def pool14 : Array CpInfo := pool [(8, .class_ 10), (1, u "java/util/SequencedCollection"), (15, .class_ 27), (0, u "java/lang/Object"), (0, .class_ 29), (0, u "java/util/Collection")] 27

/-- java/util/SequencedCollection -/
def k14 : Class := { plain "java/util/SequencedCollection" (some 0) with
  accessFlags := 1537
  interfaces := #[12]
  cf := some (fileOf pool14 8 #[] #[] 1537 26 #[28] #[])
  fields := #[]
  methods := #[]
  instanceTypes := #[]
  staticTypes := #[]
  resolved := Array.replicate 57 none
  statics := none }

def pool15 : Array CpInfo := pool [(8, .class_ 10), (1, u "java/util/List"), (92, .class_ 104), (0, u "java/lang/Object"), (15, .class_ 121), (0, u "java/util/SequencedCollection")] 129

/-- java/util/List -/
def k15 : Class := { plain "java/util/List" (some 0) with
  accessFlags := 1537
  interfaces := #[14]
  cf := some (fileOf pool15 8 #[] #[] 1537 103 #[120] #[])
  fields := #[]
  methods := #[]
  instanceTypes := #[]
  staticTypes := #[]
  resolved := Array.replicate 251 none
  statics := none }

def pool16 : Array CpInfo := pool [(1, .methodref 2 3), (0, .class_ 4), (0, .nameAndType 5 6), (0, u "java/util/AbstractCollection"), (0, u "<init>"), (0, u "()V"), (0, .fieldref 8 9), (0, .class_ 10), (0, .nameAndType 11 12), (0, u "java/util/AbstractList"), (0, u "modCount"), (0, u "I"), (64, .class_ 78), (0, u "java/util/AbstractList$Itr"), (3, .class_ 83), (0, u "java/util/AbstractList$ListItr"), (9, .class_ 94), (0, u "java/util/AbstractList$RandomAccessSubList"), (3, .class_ 99), (0, u "java/util/AbstractList$SubList"), (33, .class_ 134), (0, u "java/util/List"), (73, .class_ 209), (0, u "java/util/AbstractList$SubList$1"), (0, .class_ 211), (0, u "java/util/AbstractList$RandomAccessSpliterator")] 6

def k16c0 : Code := { maxStack := 2, maxLocals := 1, code := jdk_39_method_1_code, exceptionTable := #[], attributes := #[] }
def k16m0 : Method := { name := "<init>", desc := "()V", sig := { parameters := [], returnType := none }, accessFlags := 4, code := some k16c0 }
/-- java/util/AbstractList -/
def k16 : Class := { plain "java/util/AbstractList" (some 13) with
  accessFlags := 1057
  interfaces := #[15]
  cf := some (fileOf pool16 8 #[.nestMembers #[93, 98, 208, 210, 82, 77]] #[{ accessFlags := 4, nameIndex := 5, descriptorIndex := 6, attributes := #[] }] 1057 2 #[133] #[{ accessFlags := 132, nameIndex := 11, descriptorIndex := 12, attributes := #[] }])
  fields := #[{ name := "modCount", type := .int, accessFlags := 132, slot := 0, constantValue := 0 }]
  methods := #[k16m0]
  instanceTypes := #[.int]
  staticTypes := #[]
  resolved := Array.replicate 218 none
  statics := none }

def pool17 : Array CpInfo := pool [(1, .class_ 2), (0, u "java/util/RandomAccess"), (0, .class_ 4), (0, u "java/lang/Object")] 2

/-- java/util/RandomAccess -/
def k17 : Class := { plain "java/util/RandomAccess" (some 0) with
  accessFlags := 1537
  interfaces := #[]
  cf := some (fileOf pool17 1 #[] #[] 1537 3 #[] #[])
  fields := #[]
  methods := #[]
  instanceTypes := #[]
  staticTypes := #[]
  resolved := Array.replicate 7 none
  statics := none }

def pool18 : Array CpInfo := pool [(1, .fieldref 2 3), (0, .class_ 4), (0, .nameAndType 5 6), (0, u "com/example/rouse/rouse/shell/CommandLine$Words"), (0, u "this$0"), (0, u "Lcom/example/rouse/rouse/shell/CommandLine;"), (0, .methodref 8 9), (0, .class_ 10), (0, .nameAndType 11 12), (0, u "java/util/AbstractList"), (0, u "<init>"), (0, u "()V"), (0, .fieldref 2 14), (0, .nameAndType 15 16), (0, u "from"), (0, u "I"), (0, .fieldref 2 18), (0, .nameAndType 19 16), (0, u "to"), (0, .methodref 2 21), (0, .nameAndType 22 23), (0, u "size"), (0, u "()I"), (0, .methodref 25 26), (0, .class_ 27), (0, .nameAndType 28 29), (0, u "java/util/Objects"), (0, u "checkIndex"), (0, u "(II)I"), (0, .methodref 31 32), (0, .class_ 33), (0, .nameAndType 34 35), (0, u "com/example/rouse/rouse/shell/CommandLine"), (0, u "wordStart"), (0, u "(I)I"), (0, .class_ 37), (0, u "java/lang/String"), (0, .fieldref 31 39), (0, .nameAndType 40 41), (0, u "characters"), (0, u "[C"), (0, .methodref 31 43), (0, .nameAndType 44 35), (0, u "wordEnd"), (0, .methodref 36 46), (0, .nameAndType 11 47), (0, u "([CII)V"), (2, u "get"), (0, u "(I)Ljava/lang/String;"), (0, .class_ 53), (0, u "java/util/RandomAccess"), (0, u "(Lcom/example/rouse/rouse/shell/CommandLine;II)V")] 11

def k18c0 : Code := { maxStack := 2, maxLocals := 4, code := prog_66_method_1_code, exceptionTable := #[], attributes := #[] }
def k18m0 : Method := { name := "<init>", desc := "(Lcom/example/rouse/rouse/shell/CommandLine;II)V", sig := { parameters := [(.object "com/example/rouse/rouse/shell/CommandLine"), .int, .int], returnType := none }, accessFlags := 0, code := some k18c0 }
def k18c1 : Code := { maxStack := 6, maxLocals := 4, code := prog_66_method_2_code, exceptionTable := #[], attributes := #[] }
def k18m1 : Method := { name := "get", desc := "(I)Ljava/lang/String;", sig := { parameters := [.int], returnType := some (.object "java/lang/String") }, accessFlags := 1, code := some k18c1 }
def k18c2 : Code := { maxStack := 2, maxLocals := 1, code := prog_66_method_3_code, exceptionTable := #[], attributes := #[] }
def k18m2 : Method := { name := "size", desc := "()I", sig := { parameters := [], returnType := some .int }, accessFlags := 1, code := some k18c2 }
/-- com/example/rouse/rouse/shell/CommandLine$Words -/
def k18 : Class := { plain "com/example/rouse/rouse/shell/CommandLine$Words" (some 16) with
  accessFlags := 48
  interfaces := #[17]
  cf := some (fileOf pool18 2 #[.nestHost 31] #[{ accessFlags := 0, nameIndex := 11, descriptorIndex := 54, attributes := #[] }, { accessFlags := 1, nameIndex := 50, descriptorIndex := 51, attributes := #[] }, { accessFlags := 1, nameIndex := 22, descriptorIndex := 23, attributes := #[] }] 48 8 #[52] #[{ accessFlags := 18, nameIndex := 15, descriptorIndex := 16, attributes := #[] }, { accessFlags := 18, nameIndex := 19, descriptorIndex := 16, attributes := #[] }, { accessFlags := 4112, nameIndex := 5, descriptorIndex := 6, attributes := #[] }])
  fields := #[{ name := "from", type := .int, accessFlags := 18, slot := 1, constantValue := 0 }, { name := "to", type := .int, accessFlags := 18, slot := 2, constantValue := 0 }, { name := "this$0", type := (.object "com/example/rouse/rouse/shell/CommandLine"), accessFlags := 4112, slot := 3, constantValue := 0 }]
  methods := #[k18m0, k18m1, k18m2]
  instanceTypes := #[.int, .int, .int, (.object "com/example/rouse/rouse/shell/CommandLine")]
  staticTypes := #[]
  resolved := Array.replicate 66 none
  statics := none }

def pool19 : Array CpInfo := pool [(2, .class_ 4), (1, u "java/lang/Object"), (0, u "<init>"), (0, u "()V"), (35, .class_ 44), (1, u "java/util/Objects"), (60, .methodref 106 107), (0, .class_ 108), (0, .nameAndType 109 110), (0, u "jdk/internal/util/Preconditions"), (0, u "checkIndex"), (0, u "(IILjava/util/function/BiFunction;)I"), (60, u "(II)I")] 12

def k19m0 : Method := { name := "<init>", desc := "()V", sig := { parameters := [], returnType := none }, accessFlags := 2, code := none }
def k19c1 : Code := { maxStack := 3, maxLocals := 2, code := jdk_31_method_17_code, exceptionTable := #[], attributes := #[] }
def k19m1 : Method := { name := "checkIndex", desc := "(II)I", sig := { parameters := [.int, .int], returnType := some .int }, accessFlags := 9, code := some k19c1 }
/-- java/util/Objects -/
def k19 : Class := { plain "java/util/Objects" (some 0) with
  accessFlags := 49
  interfaces := #[]
  cf := some (fileOf pool19 42 #[] #[{ accessFlags := 2, nameIndex := 5, descriptorIndex := 6, attributes := #[] }, { accessFlags := 9, nameIndex := 109, descriptorIndex := 171, attributes := #[] }] 49 2 #[] #[])
  fields := #[]
  methods := #[k19m0, k19m1]
  instanceTypes := #[]
  staticTypes := #[]
  resolved := Array.replicate 184 none
  statics := none }

def pool20 : Array CpInfo := pool [(2, .class_ 4), (1, u "java/lang/Object"), (0, u "<init>"), (0, u "()V"), (17, .class_ 26), (1, u "jdk/internal/util/Preconditions"), (6, u "checkIndex"), (15, u "checkFromIndexSize"), (5, .class_ 56), (0, u "jdk/internal/util/Preconditions$4"), (57, .class_ 115), (0, u "jdk/internal/util/Preconditions$1"), (7, u "SIOOBE_FORMATTER"), (0, u "Ljava/util/function/BiFunction;"), (0, .class_ 126), (0, u "jdk/internal/util/Preconditions$2"), (3, u "AIOOBE_FORMATTER"), (0, .class_ 132), (0, u "jdk/internal/util/Preconditions$3"), (3, u "IOOBE_FORMATTER"), (41, u "(IILjava/util/function/BiFunction;)I"), (4, u "(IIILjava/util/function/BiFunction;)I")] 10

def k20m0 : Method := { name := "<init>", desc := "()V", sig := { parameters := [], returnType := none }, accessFlags := 1, code := none }
def k20c1 : Code := { maxStack := 3, maxLocals := 3, code := jdk_41_method_11_code, exceptionTable := #[], attributes := #[] }
def k20m1 : Method := { name := "checkIndex", desc := "(IILjava/util/function/BiFunction;)I", sig := { parameters := [.int, .int, (.object "java/util/function/BiFunction")], returnType := some .int }, accessFlags := 9, code := some k20c1 }
def k20c2 : Code := { maxStack := 4, maxLocals := 4, code := jdk_41_method_13_code, exceptionTable := #[], attributes := #[] }
def k20m2 : Method := { name := "checkFromIndexSize", desc := "(IIILjava/util/function/BiFunction;)I", sig := { parameters := [.int, .int, .int, (.object "java/util/function/BiFunction")], returnType := some .int }, accessFlags := 9, code := some k20c2 }
/-- jdk/internal/util/Preconditions -/
def k20 : Class := { plain "jdk/internal/util/Preconditions" (some 0) with
  accessFlags := 33
  interfaces := #[]
  cf := some (fileOf pool20 24 #[.nestMembers #[55, 131, 125, 114]] #[{ accessFlags := 1, nameIndex := 5, descriptorIndex := 6, attributes := #[] }, { accessFlags := 9, nameIndex := 33, descriptorIndex := 178, attributes := #[] }, { accessFlags := 9, nameIndex := 49, descriptorIndex := 183, attributes := #[] }] 33 2 #[] #[{ accessFlags := 25, nameIndex := 123, descriptorIndex := 124, attributes := #[] }, { accessFlags := 25, nameIndex := 130, descriptorIndex := 124, attributes := #[] }, { accessFlags := 25, nameIndex := 136, descriptorIndex := 124, attributes := #[] }])
  fields := #[{ name := "SIOOBE_FORMATTER", type := (.object "java/util/function/BiFunction"), accessFlags := 25, slot := 0, constantValue := 0 }, { name := "AIOOBE_FORMATTER", type := (.object "java/util/function/BiFunction"), accessFlags := 25, slot := 1, constantValue := 0 }, { name := "IOOBE_FORMATTER", type := (.object "java/util/function/BiFunction"), accessFlags := 25, slot := 2, constantValue := 0 }]
  methods := #[k20m0, k20m1, k20m2]
  instanceTypes := #[]
  staticTypes := #[(.object "java/util/function/BiFunction"), (.object "java/util/function/BiFunction"), (.object "java/util/function/BiFunction")]
  resolved := Array.replicate 194 none
  statics := some 1 }

def pool21 : Array CpInfo := pool [(4, .class_ 6), (1, u "java/lang/Object"), (0, u "<init>"), (0, u "()V"), (5, .class_ 16), (1, u "java/lang/StringLatin1"), (73, u "canEncode"), (14, u "(C)Z"), (15, u "$assertionsDisabled"), (0, u "Z"), (98, .class_ 223), (1, u "java/lang/StringLatin1$LinesSpliterator"), (57, u "equals"), (0, u "([B[B)Z"), (97, u "toBytes"), (1, u "(C)[B"), (7, .class_ 391), (0, u "java/lang/StringLatin1$CharsSpliterator")] 3

def k21m0 : Method := { name := "<init>", desc := "()V", sig := { parameters := [], returnType := none }, accessFlags := 0, code := none }
def k21c1 : Code := { maxStack := 2, maxLocals := 1, code := jdk_43_method_3_code, exceptionTable := #[], attributes := #[] }
def k21m1 : Method := { name := "canEncode", desc := "(C)Z", sig := { parameters := [.char], returnType := some .boolean }, accessFlags := 9, code := some k21c1 }
def k21c2 : Code := { maxStack := 3, maxLocals := 3, code := jdk_43_method_13_code, exceptionTable := #[], attributes := #[] }
def k21m2 : Method := { name := "equals", desc := "([B[B)Z", sig := { parameters := [(.array .byte), (.array .byte)], returnType := some .boolean }, accessFlags := 9, code := some k21c2 }
def k21c3 : Code := { maxStack := 4, maxLocals := 1, code := jdk_43_method_46_code, exceptionTable := #[], attributes := #[] }
def k21m3 : Method := { name := "toBytes", desc := "(C)[B", sig := { parameters := [.char], returnType := some (.array .byte) }, accessFlags := 9, code := some k21c3 }
/-- java/lang/StringLatin1 -/
def k21 : Class := { plain "java/lang/StringLatin1" (some 0) with
  accessFlags := 48
  interfaces := #[]
  cf := some (fileOf pool21 14 #[.nestMembers #[390, 221]] #[{ accessFlags := 0, nameIndex := 7, descriptorIndex := 8, attributes := #[] }, { accessFlags := 9, nameIndex := 90, descriptorIndex := 105, attributes := #[] }, { accessFlags := 9, nameIndex := 281, descriptorIndex := 282, attributes := #[] }, { accessFlags := 9, nameIndex := 380, descriptorIndex := 382, attributes := #[] }] 48 4 #[] #[{ accessFlags := 4120, nameIndex := 121, descriptorIndex := 122, attributes := #[] }])
  fields := #[{ name := "$assertionsDisabled", type := .boolean, accessFlags := 4120, slot := 0, constantValue := 0 }]
  methods := #[k21m0, k21m1, k21m2, k21m3]
  instanceTypes := #[]
  staticTypes := #[.boolean]
  resolved := Array.replicate 395 none
  statics := none }

def pool22 : Array CpInfo := pool [(6, .class_ 8), (1, u "java/lang/Object"), (0, u "<init>"), (0, u "()V"), (0, .methodref 12 13), (0, .class_ 14), (0, .nameAndType 15 16), (0, u "java/lang/StringUTF16"), (0, u "newBytesLength"), (0, u "(I)I"), (3, .integer 1073741823), (23, .fieldref 12 45), (0, .nameAndType 46 47), (0, u "$assertionsDisabled"), (0, u "Z"), (11, .fieldref 12 60), (0, .nameAndType 61 62), (0, u "HI_BYTE_SHIFT"), (0, u "I"), (0, .fieldref 12 64), (0, .nameAndType 65 62), (0, u "LO_BYTE_SHIFT"), (5, .methodref 12 72), (0, .nameAndType 73 74), (0, u "getChar"), (0, u "([BI)C"), (32, .methodref 12 108), (0, .nameAndType 109 110), (0, u "newBytesFor"), (0, u "(I)[B"), (0, .methodref 12 112), (0, .nameAndType 113 114), (0, u "putChar"), (0, u "([BII)V"), (0, .methodref 12 116), (0, .nameAndType 117 118), (0, u "compress"), (0, u "([CI[BII)I"), (0, .methodref 12 120), (0, .nameAndType 121 122), (0, u "toBytes"), (0, u "([CII)[B"), (138, u "coderFromArrayLen"), (0, u "([BI)B"), (106, .class_ 371), (1, u "java/lang/StringUTF16$LinesSpliterator"), (58, u "MAX_LENGTH"), (44, u "(C)[B"), (151, .class_ 628), (0, u "java/lang/StringUTF16$CodePointsSpliterator"), (0, .class_ 630), (0, u "java/lang/StringUTF16$CharsSpliterator")] 4

def k22m0 : Method := { name := "<init>", desc := "()V", sig := { parameters := [], returnType := none }, accessFlags := 0, code := none }
def k22c1 : Code := { maxStack := 1, maxLocals := 1, code := jdk_52_method_2_code, exceptionTable := #[], attributes := #[] }
def k22m1 : Method := { name := "newBytesFor", desc := "(I)[B", sig := { parameters := [.int], returnType := some (.array .byte) }, accessFlags := 9, code := some k22c1 }
def k22c2 : Code := { maxStack := 4, maxLocals := 1, code := jdk_52_method_3_code, exceptionTable := #[], attributes := #[] }
def k22m2 : Method := { name := "newBytesLength", desc := "(I)I", sig := { parameters := [.int], returnType := some .int }, accessFlags := 9, code := some k22c2 }
def k22c3 : Code := { maxStack := 4, maxLocals := 3, code := jdk_52_method_4_code, exceptionTable := #[], attributes := #[] }
def k22m3 : Method := { name := "putChar", desc := "([BII)V", sig := { parameters := [(.array .byte), .int, .int], returnType := none }, accessFlags := 8, code := some k22c3 }
def k22c4 : Code := { maxStack := 3, maxLocals := 2, code := jdk_52_method_5_code, exceptionTable := #[], attributes := #[] }
def k22m4 : Method := { name := "getChar", desc := "([BI)C", sig := { parameters := [(.array .byte), .int], returnType := some .char }, accessFlags := 8, code := some k22c4 }
def k22c5 : Code := { maxStack := 4, maxLocals := 5, code := jdk_52_method_14_code, exceptionTable := #[], attributes := #[] }
def k22m5 : Method := { name := "toBytes", desc := "([CII)[B", sig := { parameters := [(.array .char), .int, .int], returnType := some (.array .byte) }, accessFlags := 9, code := some k22c5 }
def k22c6 : Code := { maxStack := 2, maxLocals := 2, code := jdk_52_method_15_code, exceptionTable := #[], attributes := #[] }
def k22m6 : Method := { name := "coderFromArrayLen", desc := "([BI)B", sig := { parameters := [(.array .byte), .int], returnType := some .byte }, accessFlags := 8, code := some k22c6 }
def k22c7 : Code := { maxStack := 5, maxLocals := 6, code := jdk_52_method_16_code, exceptionTable := #[], attributes := #[] }
def k22m7 : Method := { name := "compress", desc := "([CII)[B", sig := { parameters := [(.array .char), .int, .int], returnType := some (.array .byte) }, accessFlags := 9, code := some k22c7 }
def k22c8 : Code := { maxStack := 3, maxLocals := 7, code := jdk_52_method_21_code, exceptionTable := #[], attributes := #[] }
def k22m8 : Method := { name := "compress", desc := "([CI[BII)I", sig := { parameters := [(.array .char), .int, (.array .byte), .int, .int], returnType := some .int }, accessFlags := 9, code := some k22c8 }
def k22c9 : Code := { maxStack := 3, maxLocals := 2, code := jdk_52_method_24_code, exceptionTable := #[], attributes := #[] }
def k22m9 : Method := { name := "toBytes", desc := "(C)[B", sig := { parameters := [.char], returnType := some (.array .byte) }, accessFlags := 9, code := some k22c9 }
/-- java/lang/StringUTF16 -/
def k22 : Class := { plain "java/lang/StringUTF16" (some 0) with
  accessFlags := 48
  interfaces := #[]
  cf := some (fileOf pool22 12 #[.nestMembers #[627, 629, 369]] #[{ accessFlags := 0, nameIndex := 9, descriptorIndex := 10, attributes := #[] }, { accessFlags := 9, nameIndex := 109, descriptorIndex := 110, attributes := #[] }, { accessFlags := 9, nameIndex := 15, descriptorIndex := 16, attributes := #[] }, { accessFlags := 8, nameIndex := 113, descriptorIndex := 114, attributes := #[] }, { accessFlags := 8, nameIndex := 73, descriptorIndex := 74, attributes := #[] }, { accessFlags := 9, nameIndex := 121, descriptorIndex := 122, attributes := #[] }, { accessFlags := 8, nameIndex := 261, descriptorIndex := 262, attributes := #[] }, { accessFlags := 9, nameIndex := 117, descriptorIndex := 122, attributes := #[] }, { accessFlags := 9, nameIndex := 117, descriptorIndex := 118, attributes := #[] }, { accessFlags := 9, nameIndex := 121, descriptorIndex := 475, attributes := #[] }] 48 6 #[] #[{ accessFlags := 26, nameIndex := 61, descriptorIndex := 62, attributes := #[] }, { accessFlags := 26, nameIndex := 65, descriptorIndex := 62, attributes := #[] }, { accessFlags := 24, nameIndex := 430, descriptorIndex := 62, attributes := #[] }, { accessFlags := 4120, nameIndex := 46, descriptorIndex := 47, attributes := #[] }])
  fields := #[{ name := "HI_BYTE_SHIFT", type := .int, accessFlags := 26, slot := 0, constantValue := 0 }, { name := "LO_BYTE_SHIFT", type := .int, accessFlags := 26, slot := 1, constantValue := 0 }, { name := "MAX_LENGTH", type := .int, accessFlags := 24, slot := 2, constantValue := 0 }, { name := "$assertionsDisabled", type := .boolean, accessFlags := 4120, slot := 3, constantValue := 0 }]
  methods := #[k22m0, k22m1, k22m2, k22m3, k22m4, k22m5, k22m6, k22m7, k22m8, k22m9]
  instanceTypes := #[]
  staticTypes := #[.int, .int, .int, .boolean]
  resolved := Array.replicate 635 none
  statics := some 2 }

def pool23 : Array CpInfo := pool [(9, u "<init>"), (6, .class_ 18), (1, u "java/lang/Object"), (0, u "()V"), (1, .class_ 23), (1, u "jdk/internal/util/ArraysSupport"), (0, u "LOG2_ARRAY_LONG_INDEX_SCALE"), (0, u "I"), (2, u "U"), (0, u "Ljdk/internal/misc/Unsafe;"), (8, u "BIG_ENDIAN"), (0, u "Z"), (8, u "LOG2_BYTE_BIT_SIZE"), (4, u "LOG2_ARRAY_INT_INDEX_SCALE"), (54, u "JLA"), (0, u "Ljdk/internal/access/JavaLangAccess;"), (11, u "LOG2_ARRAY_BOOLEAN_INDEX_SCALE"), (9, u "LOG2_ARRAY_BYTE_INDEX_SCALE"), (5, u "LOG2_ARRAY_CHAR_INDEX_SCALE"), (5, u "LOG2_ARRAY_SHORT_INDEX_SCALE"), (18, u "LOG2_ARRAY_FLOAT_INDEX_SCALE"), (24, u "LOG2_ARRAY_DOUBLE_INDEX_SCALE"), (89, u "T_BOOLEAN"), (2, u "T_CHAR"), (1, u "T_FLOAT"), (1, u "T_DOUBLE"), (1, u "T_BYTE"), (1, u "T_SHORT"), (1, u "T_INT"), (1, u "T_LONG"), (1, u "SOFT_MAX_ARRAY_LENGTH")] 83

def k23m0 : Method := { name := "<init>", desc := "()V", sig := { parameters := [], returnType := none }, accessFlags := 2, code := none }
/-- jdk/internal/util/ArraysSupport -/
def k23 : Class := { plain "jdk/internal/util/ArraysSupport" (some 0) with
  accessFlags := 33
  interfaces := #[]
  cf := some (fileOf pool23 21 #[] #[{ accessFlags := 2, nameIndex := 9, descriptorIndex := 19, attributes := #[] }] 33 16 #[] #[{ accessFlags := 24, nameIndex := 28, descriptorIndex := 29, attributes := #[] }, { accessFlags := 26, nameIndex := 38, descriptorIndex := 39, attributes := #[] }, { accessFlags := 25, nameIndex := 121, descriptorIndex := 25, attributes := #[] }, { accessFlags := 25, nameIndex := 131, descriptorIndex := 25, attributes := #[] }, { accessFlags := 25, nameIndex := 137, descriptorIndex := 25, attributes := #[] }, { accessFlags := 25, nameIndex := 143, descriptorIndex := 25, attributes := #[] }, { accessFlags := 25, nameIndex := 53, descriptorIndex := 25, attributes := #[] }, { accessFlags := 25, nameIndex := 24, descriptorIndex := 25, attributes := #[] }, { accessFlags := 25, nameIndex := 162, descriptorIndex := 25, attributes := #[] }, { accessFlags := 25, nameIndex := 187, descriptorIndex := 25, attributes := #[] }, { accessFlags := 26, nameIndex := 48, descriptorIndex := 25, attributes := #[] }, { accessFlags := 25, nameIndex := 277, descriptorIndex := 25, attributes := #[] }, { accessFlags := 25, nameIndex := 280, descriptorIndex := 25, attributes := #[] }, { accessFlags := 25, nameIndex := 282, descriptorIndex := 25, attributes := #[] }, { accessFlags := 25, nameIndex := 284, descriptorIndex := 25, attributes := #[] }, { accessFlags := 25, nameIndex := 286, descriptorIndex := 25, attributes := #[] }, { accessFlags := 25, nameIndex := 288, descriptorIndex := 25, attributes := #[] }, { accessFlags := 25, nameIndex := 290, descriptorIndex := 25, attributes := #[] }, { accessFlags := 25, nameIndex := 292, descriptorIndex := 25, attributes := #[] }, { accessFlags := 26, nameIndex := 108, descriptorIndex := 109, attributes := #[] }, { accessFlags := 25, nameIndex := 294, descriptorIndex := 25, attributes := #[] }])
  fields := #[{ name := "U", type := (.object "jdk/internal/misc/Unsafe"), accessFlags := 24, slot := 0, constantValue := 0 }, { name := "BIG_ENDIAN", type := .boolean, accessFlags := 26, slot := 1, constantValue := 0 }, { name := "LOG2_ARRAY_BOOLEAN_INDEX_SCALE", type := .int, accessFlags := 25, slot := 2, constantValue := 0 }, { name := "LOG2_ARRAY_BYTE_INDEX_SCALE", type := .int, accessFlags := 25, slot := 3, constantValue := 0 }, { name := "LOG2_ARRAY_CHAR_INDEX_SCALE", type := .int, accessFlags := 25, slot := 4, constantValue := 0 }, { name := "LOG2_ARRAY_SHORT_INDEX_SCALE", type := .int, accessFlags := 25, slot := 5, constantValue := 0 }, { name := "LOG2_ARRAY_INT_INDEX_SCALE", type := .int, accessFlags := 25, slot := 6, constantValue := 0 }, { name := "LOG2_ARRAY_LONG_INDEX_SCALE", type := .int, accessFlags := 25, slot := 7, constantValue := 0 }, { name := "LOG2_ARRAY_FLOAT_INDEX_SCALE", type := .int, accessFlags := 25, slot := 8, constantValue := 0 }, { name := "LOG2_ARRAY_DOUBLE_INDEX_SCALE", type := .int, accessFlags := 25, slot := 9, constantValue := 0 }, { name := "LOG2_BYTE_BIT_SIZE", type := .int, accessFlags := 26, slot := 10, constantValue := 0 }, { name := "T_BOOLEAN", type := .int, accessFlags := 25, slot := 11, constantValue := 0 }, { name := "T_CHAR", type := .int, accessFlags := 25, slot := 12, constantValue := 0 }, { name := "T_FLOAT", type := .int, accessFlags := 25, slot := 13, constantValue := 0 }, { name := "T_DOUBLE", type := .int, accessFlags := 25, slot := 14, constantValue := 0 }, { name := "T_BYTE", type := .int, accessFlags := 25, slot := 15, constantValue := 0 }, { name := "T_SHORT", type := .int, accessFlags := 25, slot := 16, constantValue := 0 }, { name := "T_INT", type := .int, accessFlags := 25, slot := 17, constantValue := 0 }, { name := "T_LONG", type := .int, accessFlags := 25, slot := 18, constantValue := 0 }, { name := "JLA", type := (.object "jdk/internal/access/JavaLangAccess"), accessFlags := 26, slot := 19, constantValue := 0 }, { name := "SOFT_MAX_ARRAY_LENGTH", type := .int, accessFlags := 25, slot := 20, constantValue := 0 }]
  methods := #[k23m0]
  instanceTypes := #[]
  staticTypes := #[(.object "jdk/internal/misc/Unsafe"), .boolean, .int, .int, .int, .int, .int, .int, .int, .int, .int, .int, .int, .int, .int, .int, .int, .int, .int, (.object "jdk/internal/access/JavaLangAccess"), .int]
  resolved := Array.replicate 378 none
  statics := none }

def pool24 : Array CpInfo := pool [(1, u "java/lang/Cloneable"), (0, .class_ 1), (0, u "java/lang/Object"), (0, .class_ 3)] 3

/-- java/lang/Cloneable -/
def k24 : Class := { plain "java/lang/Cloneable" (some 0) with
  accessFlags := 1537
  interfaces := #[]
  cf := some (fileOf pool24 2 #[] #[] 1537 4 #[] #[])
  fields := #[]
  methods := #[]
  instanceTypes := #[]
  staticTypes := #[]
  resolved := Array.replicate 8 none
  statics := none }

/-- the primitive byte -/
def k25 : Class := { plain "byte" none with kind := .primitive 'B', accessFlags := 0x411 }
/-- [B -/
def k26 : Class := { plain "[B" (some 0) with kind := .array 25 .byte, interfaces := #[24, 2], accessFlags := 1041 }

/-- the primitive char -/
def k27 : Class := { plain "char" none with kind := .primitive 'C', accessFlags := 0x411 }
/-- [C -/
def k28 : Class := { plain "[C" (some 0) with kind := .array 27 .char, interfaces := #[24, 2], accessFlags := 1041 }

/-- the primitive int -/
def k29 : Class := { plain "int" none with kind := .primitive 'I', accessFlags := 0x411 }
/-- [I -/
def k30 : Class := { plain "[I" (some 0) with kind := .array 29 .int, interfaces := #[24, 2], accessFlags := 1041 }

def heap : Heap := #[{ cls := 7, slots := #[.long 0, .int 1, .null, .int 0, .null, .int 0, .int 0], vm := .statics 7 },
  { cls := 20, slots := #[.null, .null, .null], vm := .statics 20 },
  { cls := 22, slots := #[.int 0, .int 8, .int 0, .int 1], vm := .statics 22 }]
def classes : Array Class := #[k0, k1, k2, k3, k4, k5, k6, k7, k8, k9, k10, k11, k12, k13, k14, k15, k16, k17, k18, k19, k20, k21, k22, k23, k24, k25, k26, k27, k28, k29, k30]
def interned : List (Array UInt16 × Addr) := []
def slotsUsed : Nat := 14
def theMethod : MethodId := ⟨1, 1⟩
def args0 : Array Value := #[.int 97, .int 98, .int 7]
def aboutOver (below : List Frame) : State where
  vm := { classes := classes, interned := interned.toArray }
  heap := heap
  slotsUsed := slotsUsed
  threads := #[{ frames := .invoking theMethod args0 :: below }]
def below0 : List Frame := [.native { method := ⟨0, 0⟩, args := #[] }]
def about1 : State := aboutOver below0
def p0 : Program := .bare "" "" ""
def e0 : Env := launch0.env 0 0 0
theorem w_frames : about1.frames = Frame.invoking theMethod args0 :: below0 := rfl
set_option maxRecDepth 65536 in
theorem w_args : argsFit about1.vm theMethod args0 = true := by decide +kernel
set_option maxRecDepth 65536 in
theorem w_heap : heapFits about1 = true := by decide +kernel
set_option maxRecDepth 65536 in
theorem w_runnable : about1.curStatus? = some .runnable := by decide +kernel
set_option maxRecDepth 65536 in
theorem w_alone : about1.alone = true := by decide +kernel
set_option maxRecDepth 65536 in
theorem w_named : about1.methodNamed? x = some theMethod := by decide +kernel
set_option maxRecDepth 65536 in
theorem w_hears : about1.hears theMethod below0 = true := by decide +kernel
set_option maxRecDepth 65536 in
theorem w_ripe : about1.ripe theMethod args0 below0 = true := by decide +kernel
theorem w_running : about1.status = .running := rfl
set_option maxRecDepth 65536 in
theorem w_room : about1.hasRoom e0.platform room_1 = true :=
  launch0.hasRoom_least _ room_1 (by decide +kernel) (by decide +kernel) (by decide +kernel) (by decide +kernel) (by decide +kernel) (by decide +kernel)
theorem allAtoms_all (ts : List Jvm.Cond) (a : Array Jvm.Value) (st : Jvm.State) : (allAtoms ts).before a st = ts.all (fun c => c.before a st) := by
  induction ts with
  | nil => rfl
  | cons c t ih =>
    show (Jvm.Cond.and c (allAtoms t)).before a st = _
    rw [Jvm.Cond.before_and, ih, List.all_cons]
def words1 : List Jvm.Cond := Jvm.Cond.code x code maxLocals ret :: tables_1
/-- a 'code' word, met by the world's own term for the bytes: nothing is compared byte by byte -/
theorem code_word {y : MethodName} {bytes : ByteArray} {mx : Nat} {rt : Option FieldType} {a : Array Value} {s : State} {m : MethodId} {meth : Method} {c : Code} (h1 : s.methodNamed? y = some m) (h2 : s.vm.method? m = some meth) (h3 : meth.code = some c) (h4 : c.code = bytes)
    (h5 : (c.maxLocals == mx && c.exceptionTable.isEmpty && decide (c.maxStack ≤ mostOperands) && decide (meth.sig.returnType = rt) && !meth.locks && decide (parseMethodDescriptor y.desc = some meth.sig)) = true) : (Jvm.Cond.code y bytes mx rt).before a s = true := by
  simp only [Bool.and_eq_true, beq_iff_eq, Bool.not_eq_true', decide_eq_true_eq] at h5
  obtain ⟨⟨⟨⟨⟨g1, g2⟩, g3⟩, g4⟩, g5⟩, g6⟩ := h5
  simp [Cond.before, Cond.holds, Cond.value, h1, h2, h3, h4, g1, g2, g3, g4, g5, g6]
def isCode : Jvm.Cond → Bool
  | .code _ _ _ _ => true
  | _ => false
theorem all_split {L : List Jvm.Cond} {P : Jvm.Cond → Bool} (h1 : L.all (fun c => isCode c || P c) = true) (h2 : ∀ c ∈ L.filter isCode, P c = true) : L.all P = true := by
  refine List.all_eq_true.mpr fun c hc => ?_
  have h := List.all_eq_true.mp h1 c hc
  rcases Bool.eq_false_or_eq_true (isCode c) with hi | hi
  · exact h2 c (List.mem_filter.mpr ⟨hc, hi⟩)
  · simpa [hi] using h
set_option maxRecDepth 65536 in
theorem w_c0 : (Jvm.Cond.code x code maxLocals ret).before args0 about1 = true := code_word (m := ⟨1, 1⟩) (meth := k1m1) (c := k1c1) (by decide +kernel) rfl rfl rfl (by decide +kernel)
set_option maxRecDepth 65536 in
theorem w_c1 : (Jvm.Cond.code ({ cls := "com/example/rouse/rouse/shell/CommandLine", name := "<init>", desc := "(II)V" } : Jvm.MethodName) prog_64_method_1_code (3 : Nat) (Option.none : Option Jvm.ClassFile.FieldType)).before args0 about1 = true := code_word (m := ⟨9, 0⟩) (meth := k9m0) (c := k9c0) (by decide +kernel) rfl rfl rfl (by decide +kernel)
set_option maxRecDepth 65536 in
theorem w_c2 : (Jvm.Cond.code ({ cls := "java/lang/Object", name := "<init>", desc := "()V" } : Jvm.MethodName) object_method_1_code (1 : Nat) (Option.none : Option Jvm.ClassFile.FieldType)).before args0 about1 = true := code_word (m := ⟨0, 0⟩) (meth := k0m0) (c := k0c0) (by decide +kernel) rfl rfl rfl (by decide +kernel)
set_option maxRecDepth 65536 in
theorem w_c3 : (Jvm.Cond.code ({ cls := "com/example/rouse/rouse/shell/CommandLine", name := "endWord", desc := "()V" } : Jvm.MethodName) prog_64_method_3_code (1 : Nat) (Option.none : Option Jvm.ClassFile.FieldType)).before args0 about1 = true := code_word (m := ⟨9, 2⟩) (meth := k9m2) (c := k9c2) (by decide +kernel) rfl rfl rfl (by decide +kernel)
set_option maxRecDepth 65536 in
theorem w_c4 : (Jvm.Cond.code ({ cls := "com/example/rouse/rouse/shell/CommandLine", name := "endCommand", desc := "()V" } : Jvm.MethodName) prog_64_method_5_code (1 : Nat) (Option.none : Option Jvm.ClassFile.FieldType)).before args0 about1 = true := code_word (m := ⟨9, 4⟩) (meth := k9m4) (c := k9c4) (by decide +kernel) rfl rfl rfl (by decide +kernel)
set_option maxRecDepth 65536 in
theorem w_c5 : (Jvm.Cond.code ({ cls := "com/example/rouse/rouse/shell/CommandLine", name := "commandHasWords", desc := "()Z" } : Jvm.MethodName) prog_64_method_4_code (1 : Nat) (Option.some Jvm.ClassFile.FieldType.boolean)).before args0 about1 = true := code_word (m := ⟨9, 3⟩) (meth := k9m3) (c := k9c3) (by decide +kernel) rfl rfl rfl (by decide +kernel)
set_option maxRecDepth 65536 in
theorem w_c6 : (Jvm.Cond.code ({ cls := "com/example/rouse/rouse/shell/CommandLine", name := "iterator", desc := "()Ljava/util/Iterator;" } : Jvm.MethodName) prog_64_method_6_code (1 : Nat) (Option.some (Jvm.ClassFile.FieldType.object "java/util/Iterator"))).before args0 about1 = true := code_word (m := ⟨9, 5⟩) (meth := k9m5) (c := k9c5) (by decide +kernel) rfl rfl rfl (by decide +kernel)
set_option maxRecDepth 65536 in
theorem w_c7 : (Jvm.Cond.code ({ cls := "com/example/rouse/rouse/shell/CommandLine$1", name := "<init>", desc := "(Lcom/example/rouse/rouse/shell/CommandLine;)V" } : Jvm.MethodName) prog_65_method_1_code (2 : Nat) (Option.none : Option Jvm.ClassFile.FieldType)).before args0 about1 = true := code_word (m := ⟨11, 0⟩) (meth := k11m0) (c := k11c0) (by decide +kernel) rfl rfl rfl (by decide +kernel)
set_option maxRecDepth 65536 in
theorem w_c8 : (Jvm.Cond.code ({ cls := "com/example/rouse/rouse/shell/CommandLine$1", name := "next", desc := "()Ljava/lang/Object;" } : Jvm.MethodName) prog_65_method_4_code (1 : Nat) (Option.some (Jvm.ClassFile.FieldType.object "java/lang/Object"))).before args0 about1 = true := code_word (m := ⟨11, 3⟩) (meth := k11m3) (c := k11c3) (by decide +kernel) rfl rfl rfl (by decide +kernel)
set_option maxRecDepth 65536 in
theorem w_c9 : (Jvm.Cond.code ({ cls := "com/example/rouse/rouse/shell/CommandLine$1", name := "next", desc := "()Lcom/example/rouse/rouse/shell/CommandLine$Words;" } : Jvm.MethodName) prog_65_method_3_code (3 : Nat) (Option.some (Jvm.ClassFile.FieldType.object "com/example/rouse/rouse/shell/CommandLine$Words"))).before args0 about1 = true := code_word (m := ⟨11, 2⟩) (meth := k11m2) (c := k11c2) (by decide +kernel) rfl rfl rfl (by decide +kernel)
set_option maxRecDepth 65536 in
theorem w_c10 : (Jvm.Cond.code ({ cls := "com/example/rouse/rouse/shell/CommandLine$1", name := "hasNext", desc := "()Z" } : Jvm.MethodName) prog_65_method_2_code (1 : Nat) (Option.some Jvm.ClassFile.FieldType.boolean)).before args0 about1 = true := code_word (m := ⟨11, 1⟩) (meth := k11m1) (c := k11c1) (by decide +kernel) rfl rfl rfl (by decide +kernel)
set_option maxRecDepth 65536 in
theorem w_c11 : (Jvm.Cond.code ({ cls := "com/example/rouse/rouse/shell/CommandLine$Words", name := "<init>", desc := "(Lcom/example/rouse/rouse/shell/CommandLine;II)V" } : Jvm.MethodName) prog_66_method_1_code (4 : Nat) (Option.none : Option Jvm.ClassFile.FieldType)).before args0 about1 = true := code_word (m := ⟨18, 0⟩) (meth := k18m0) (c := k18c0) (by decide +kernel) rfl rfl rfl (by decide +kernel)
set_option maxRecDepth 65536 in
theorem w_c12 : (Jvm.Cond.code ({ cls := "java/util/AbstractList", name := "<init>", desc := "()V" } : Jvm.MethodName) jdk_39_method_1_code (1 : Nat) (Option.none : Option Jvm.ClassFile.FieldType)).before args0 about1 = true := code_word (m := ⟨16, 0⟩) (meth := k16m0) (c := k16c0) (by decide +kernel) rfl rfl rfl (by decide +kernel)
set_option maxRecDepth 65536 in
theorem w_c13 : (Jvm.Cond.code ({ cls := "java/util/AbstractCollection", name := "<init>", desc := "()V" } : Jvm.MethodName) jdk_22_method_1_code (1 : Nat) (Option.none : Option Jvm.ClassFile.FieldType)).before args0 about1 = true := code_word (m := ⟨13, 0⟩) (meth := k13m0) (c := k13c0) (by decide +kernel) rfl rfl rfl (by decide +kernel)
set_option maxRecDepth 65536 in
theorem w_c14 : (Jvm.Cond.code ({ cls := "com/example/rouse/rouse/shell/CommandLine$Words", name := "size", desc := "()I" } : Jvm.MethodName) prog_66_method_3_code (1 : Nat) (Option.some Jvm.ClassFile.FieldType.int)).before args0 about1 = true := code_word (m := ⟨18, 2⟩) (meth := k18m2) (c := k18c2) (by decide +kernel) rfl rfl rfl (by decide +kernel)
set_option maxRecDepth 65536 in
theorem w_c15 : (Jvm.Cond.code ({ cls := "com/example/rouse/rouse/shell/CommandLine$Words", name := "get", desc := "(I)Ljava/lang/String;" } : Jvm.MethodName) prog_66_method_2_code (4 : Nat) (Option.some (Jvm.ClassFile.FieldType.object "java/lang/String"))).before args0 about1 = true := code_word (m := ⟨18, 1⟩) (meth := k18m1) (c := k18c1) (by decide +kernel) rfl rfl rfl (by decide +kernel)
set_option maxRecDepth 65536 in
theorem w_c16 : (Jvm.Cond.code ({ cls := "java/util/Objects", name := "checkIndex", desc := "(II)I" } : Jvm.MethodName) jdk_31_method_17_code (2 : Nat) (Option.some Jvm.ClassFile.FieldType.int)).before args0 about1 = true := code_word (m := ⟨19, 1⟩) (meth := k19m1) (c := k19c1) (by decide +kernel) rfl rfl rfl (by decide +kernel)
set_option maxRecDepth 65536 in
theorem w_c17 : (Jvm.Cond.code ({ cls := "jdk/internal/util/Preconditions", name := "checkIndex", desc := "(IILjava/util/function/BiFunction;)I" } : Jvm.MethodName) jdk_41_method_11_code (3 : Nat) (Option.some Jvm.ClassFile.FieldType.int)).before args0 about1 = true := code_word (m := ⟨20, 1⟩) (meth := k20m1) (c := k20c1) (by decide +kernel) rfl rfl rfl (by decide +kernel)
set_option maxRecDepth 65536 in
theorem w_c18 : (Jvm.Cond.code ({ cls := "com/example/rouse/rouse/shell/CommandLine", name := "wordStart", desc := "(I)I" } : Jvm.MethodName) prog_64_method_8_code (2 : Nat) (Option.some Jvm.ClassFile.FieldType.int)).before args0 about1 = true := code_word (m := ⟨9, 7⟩) (meth := k9m7) (c := k9c7) (by decide +kernel) rfl rfl rfl (by decide +kernel)
set_option maxRecDepth 65536 in
theorem w_c19 : (Jvm.Cond.code ({ cls := "com/example/rouse/rouse/shell/CommandLine", name := "wordEnd", desc := "(I)I" } : Jvm.MethodName) prog_64_method_7_code (2 : Nat) (Option.some Jvm.ClassFile.FieldType.int)).before args0 about1 = true := code_word (m := ⟨9, 6⟩) (meth := k9m6) (c := k9c6) (by decide +kernel) rfl rfl rfl (by decide +kernel)
set_option maxRecDepth 65536 in
theorem w_c20 : (Jvm.Cond.code ({ cls := "java/lang/String", name := "<init>", desc := "([CII)V" } : Jvm.MethodName) jdk_42_method_4_code (4 : Nat) (Option.none : Option Jvm.ClassFile.FieldType)).before args0 about1 = true := code_word (m := ⟨7, 1⟩) (meth := k7m1) (c := k7c1) (by decide +kernel) rfl rfl rfl (by decide +kernel)
set_option maxRecDepth 65536 in
theorem w_c21 : (Jvm.Cond.code ({ cls := "java/lang/String", name := "rangeCheck", desc := "([CII)Ljava/lang/Void;" } : Jvm.MethodName) jdk_42_method_5_code (3 : Nat) (Option.some (Jvm.ClassFile.FieldType.object "java/lang/Void"))).before args0 about1 = true := code_word (m := ⟨7, 2⟩) (meth := k7m2) (c := k7c2) (by decide +kernel) rfl rfl rfl (by decide +kernel)
set_option maxRecDepth 65536 in
theorem w_c22 : (Jvm.Cond.code ({ cls := "java/lang/String", name := "checkBoundsOffCount", desc := "(III)I" } : Jvm.MethodName) jdk_42_method_157_code (3 : Nat) (Option.some Jvm.ClassFile.FieldType.int)).before args0 about1 = true := code_word (m := ⟨7, 7⟩) (meth := k7m7) (c := k7c7) (by decide +kernel) rfl rfl rfl (by decide +kernel)
set_option maxRecDepth 65536 in
theorem w_c23 : (Jvm.Cond.code ({ cls := "jdk/internal/util/Preconditions", name := "checkFromIndexSize", desc := "(IIILjava/util/function/BiFunction;)I" } : Jvm.MethodName) jdk_41_method_13_code (4 : Nat) (Option.some Jvm.ClassFile.FieldType.int)).before args0 about1 = true := code_word (m := ⟨20, 2⟩) (meth := k20m2) (c := k20c2) (by decide +kernel) rfl rfl rfl (by decide +kernel)
set_option maxRecDepth 65536 in
theorem w_c24 : (Jvm.Cond.code ({ cls := "java/lang/String", name := "<init>", desc := "([CIILjava/lang/Void;)V" } : Jvm.MethodName) jdk_42_method_149_code (6 : Nat) (Option.none : Option Jvm.ClassFile.FieldType)).before args0 about1 = true := code_word (m := ⟨7, 5⟩) (meth := k7m5) (c := k7c5) (by decide +kernel) rfl rfl rfl (by decide +kernel)
set_option maxRecDepth 65536 in
theorem w_c25 : (Jvm.Cond.code ({ cls := "java/lang/String", name := "equals", desc := "(Ljava/lang/Object;)Z" } : Jvm.MethodName) jdk_42_method_66_code (3 : Nat) (Option.some Jvm.ClassFile.FieldType.boolean)).before args0 about1 = true := code_word (m := ⟨7, 3⟩) (meth := k7m3) (c := k7c3) (by decide +kernel) rfl rfl rfl (by decide +kernel)
set_option maxRecDepth 65536 in
theorem w_c26 : (Jvm.Cond.code ({ cls := "java/lang/StringLatin1", name := "equals", desc := "([B[B)Z" } : Jvm.MethodName) jdk_43_method_13_code (3 : Nat) (Option.some Jvm.ClassFile.FieldType.boolean)).before args0 about1 = true := code_word (m := ⟨21, 2⟩) (meth := k21m2) (c := k21c2) (by decide +kernel) rfl rfl rfl (by decide +kernel)
set_option maxRecDepth 65536 in
theorem w_c27 : (Jvm.Cond.code ({ cls := "java/lang/String", name := "valueOf", desc := "(C)Ljava/lang/String;" } : Jvm.MethodName) jdk_42_method_139_code (1 : Nat) (Option.some (Jvm.ClassFile.FieldType.object "java/lang/String"))).before args0 about1 = true := code_word (m := ⟨7, 4⟩) (meth := k7m4) (c := k7c4) (by decide +kernel) rfl rfl rfl (by decide +kernel)
set_option maxRecDepth 65536 in
theorem w_c28 : (Jvm.Cond.code ({ cls := "java/lang/StringLatin1", name := "canEncode", desc := "(C)Z" } : Jvm.MethodName) jdk_43_method_3_code (1 : Nat) (Option.some Jvm.ClassFile.FieldType.boolean)).before args0 about1 = true := code_word (m := ⟨21, 1⟩) (meth := k21m1) (c := k21c1) (by decide +kernel) rfl rfl rfl (by decide +kernel)
set_option maxRecDepth 65536 in
theorem w_c29 : (Jvm.Cond.code ({ cls := "java/lang/StringLatin1", name := "toBytes", desc := "(C)[B" } : Jvm.MethodName) jdk_43_method_46_code (1 : Nat) (Option.some (Jvm.ClassFile.FieldType.array Jvm.ClassFile.FieldType.byte))).before args0 about1 = true := code_word (m := ⟨21, 3⟩) (meth := k21m3) (c := k21c3) (by decide +kernel) rfl rfl rfl (by decide +kernel)
set_option maxRecDepth 65536 in
theorem w_c30 : (Jvm.Cond.code ({ cls := "java/lang/String", name := "<init>", desc := "([BB)V" } : Jvm.MethodName) jdk_42_method_151_code (3 : Nat) (Option.none : Option Jvm.ClassFile.FieldType)).before args0 about1 = true := code_word (m := ⟨7, 6⟩) (meth := k7m6) (c := k7c6) (by decide +kernel) rfl rfl rfl (by decide +kernel)
set_option maxRecDepth 65536 in
theorem w_c31 : (Jvm.Cond.code ({ cls := "com/example/rouse/rouse/shell/CommandLine", name := "append", desc := "(C)V" } : Jvm.MethodName) prog_64_method_2_code (2 : Nat) (Option.none : Option Jvm.ClassFile.FieldType)).before args0 about1 = true := code_word (m := ⟨9, 1⟩) (meth := k9m1) (c := k9c1) (by decide +kernel) rfl rfl rfl (by decide +kernel)
set_option maxRecDepth 65536 in
theorem w_c32 : (Jvm.Cond.code ({ cls := "java/lang/StringUTF16", name := "compress", desc := "([CII)[B" } : Jvm.MethodName) jdk_52_method_16_code (6 : Nat) (Option.some (Jvm.ClassFile.FieldType.array Jvm.ClassFile.FieldType.byte))).before args0 about1 = true := code_word (m := ⟨22, 7⟩) (meth := k22m7) (c := k22c7) (by decide +kernel) rfl rfl rfl (by decide +kernel)
set_option maxRecDepth 65536 in
theorem w_c33 : (Jvm.Cond.code ({ cls := "java/lang/StringUTF16", name := "compress", desc := "([CI[BII)I" } : Jvm.MethodName) jdk_52_method_21_code (7 : Nat) (Option.some Jvm.ClassFile.FieldType.int)).before args0 about1 = true := code_word (m := ⟨22, 8⟩) (meth := k22m8) (c := k22c8) (by decide +kernel) rfl rfl rfl (by decide +kernel)
set_option maxRecDepth 65536 in
theorem w_c34 : (Jvm.Cond.code ({ cls := "java/lang/StringUTF16", name := "coderFromArrayLen", desc := "([BI)B" } : Jvm.MethodName) jdk_52_method_15_code (2 : Nat) (Option.some Jvm.ClassFile.FieldType.byte)).before args0 about1 = true := code_word (m := ⟨22, 6⟩) (meth := k22m6) (c := k22c6) (by decide +kernel) rfl rfl rfl (by decide +kernel)
set_option maxRecDepth 65536 in
theorem w_c35 : (Jvm.Cond.code ({ cls := "java/lang/StringUTF16", name := "toBytes", desc := "(C)[B" } : Jvm.MethodName) jdk_52_method_24_code (2 : Nat) (Option.some (Jvm.ClassFile.FieldType.array Jvm.ClassFile.FieldType.byte))).before args0 about1 = true := code_word (m := ⟨22, 9⟩) (meth := k22m9) (c := k22c9) (by decide +kernel) rfl rfl rfl (by decide +kernel)
set_option maxRecDepth 65536 in
theorem w_c36 : (Jvm.Cond.code ({ cls := "java/lang/StringUTF16", name := "putChar", desc := "([BII)V" } : Jvm.MethodName) jdk_52_method_4_code (3 : Nat) (Option.none : Option Jvm.ClassFile.FieldType)).before args0 about1 = true := code_word (m := ⟨22, 3⟩) (meth := k22m3) (c := k22c3) (by decide +kernel) rfl rfl rfl (by decide +kernel)
set_option maxRecDepth 65536 in
theorem w_c37 : (Jvm.Cond.code ({ cls := "java/lang/StringUTF16", name := "toBytes", desc := "([CII)[B" } : Jvm.MethodName) jdk_52_method_14_code (5 : Nat) (Option.some (Jvm.ClassFile.FieldType.array Jvm.ClassFile.FieldType.byte))).before args0 about1 = true := code_word (m := ⟨22, 5⟩) (meth := k22m5) (c := k22c5) (by decide +kernel) rfl rfl rfl (by decide +kernel)
set_option maxRecDepth 65536 in
theorem w_c38 : (Jvm.Cond.code ({ cls := "java/lang/StringUTF16", name := "newBytesFor", desc := "(I)[B" } : Jvm.MethodName) jdk_52_method_2_code (1 : Nat) (Option.some (Jvm.ClassFile.FieldType.array Jvm.ClassFile.FieldType.byte))).before args0 about1 = true := code_word (m := ⟨22, 1⟩) (meth := k22m1) (c := k22c1) (by decide +kernel) rfl rfl rfl (by decide +kernel)
set_option maxRecDepth 65536 in
theorem w_c39 : (Jvm.Cond.code ({ cls := "java/lang/StringUTF16", name := "newBytesLength", desc := "(I)I" } : Jvm.MethodName) jdk_52_method_3_code (1 : Nat) (Option.some Jvm.ClassFile.FieldType.int)).before args0 about1 = true := code_word (m := ⟨22, 2⟩) (meth := k22m2) (c := k22c2) (by decide +kernel) rfl rfl rfl (by decide +kernel)
set_option maxRecDepth 65536 in
theorem w_c40 : (Jvm.Cond.code ({ cls := "java/lang/StringUTF16", name := "getChar", desc := "([BI)C" } : Jvm.MethodName) jdk_52_method_5_code (2 : Nat) (Option.some Jvm.ClassFile.FieldType.char)).before args0 about1 = true := code_word (m := ⟨22, 4⟩) (meth := k22m4) (c := k22c4) (by decide +kernel) rfl rfl rfl (by decide +kernel)
def codes1 : List Jvm.Cond := [Jvm.Cond.code x code maxLocals ret, Jvm.Cond.code ({ cls := "com/example/rouse/rouse/shell/CommandLine", name := "<init>", desc := "(II)V" } : Jvm.MethodName) prog_64_method_1_code (3 : Nat) (Option.none : Option Jvm.ClassFile.FieldType), Jvm.Cond.code ({ cls := "java/lang/Object", name := "<init>", desc := "()V" } : Jvm.MethodName) object_method_1_code (1 : Nat) (Option.none : Option Jvm.ClassFile.FieldType), Jvm.Cond.code ({ cls := "com/example/rouse/rouse/shell/CommandLine", name := "endWord", desc := "()V" } : Jvm.MethodName) prog_64_method_3_code (1 : Nat) (Option.none : Option Jvm.ClassFile.FieldType), Jvm.Cond.code ({ cls := "com/example/rouse/rouse/shell/CommandLine", name := "endCommand", desc := "()V" } : Jvm.MethodName) prog_64_method_5_code (1 : Nat) (Option.none : Option Jvm.ClassFile.FieldType), Jvm.Cond.code ({ cls := "com/example/rouse/rouse/shell/CommandLine", name := "commandHasWords", desc := "()Z" } : Jvm.MethodName) prog_64_method_4_code (1 : Nat) (Option.some Jvm.ClassFile.FieldType.boolean), Jvm.Cond.code ({ cls := "com/example/rouse/rouse/shell/CommandLine", name := "iterator", desc := "()Ljava/util/Iterator;" } : Jvm.MethodName) prog_64_method_6_code (1 : Nat) (Option.some (Jvm.ClassFile.FieldType.object "java/util/Iterator")), Jvm.Cond.code ({ cls := "com/example/rouse/rouse/shell/CommandLine$1", name := "<init>", desc := "(Lcom/example/rouse/rouse/shell/CommandLine;)V" } : Jvm.MethodName) prog_65_method_1_code (2 : Nat) (Option.none : Option Jvm.ClassFile.FieldType), Jvm.Cond.code ({ cls := "com/example/rouse/rouse/shell/CommandLine$1", name := "next", desc := "()Ljava/lang/Object;" } : Jvm.MethodName) prog_65_method_4_code (1 : Nat) (Option.some (Jvm.ClassFile.FieldType.object "java/lang/Object")), Jvm.Cond.code ({ cls := "com/example/rouse/rouse/shell/CommandLine$1", name := "next", desc := "()Lcom/example/rouse/rouse/shell/CommandLine$Words;" } : Jvm.MethodName) prog_65_method_3_code (3 : Nat) (Option.some (Jvm.ClassFile.FieldType.object "com/example/rouse/rouse/shell/CommandLine$Words")), Jvm.Cond.code ({ cls := "com/example/rouse/rouse/shell/CommandLine$1", name := "hasNext", desc := "()Z" } : Jvm.MethodName) prog_65_method_2_code (1 : Nat) (Option.some Jvm.ClassFile.FieldType.boolean), Jvm.Cond.code ({ cls := "com/example/rouse/rouse/shell/CommandLine$Words", name := "<init>", desc := "(Lcom/example/rouse/rouse/shell/CommandLine;II)V" } : Jvm.MethodName) prog_66_method_1_code (4 : Nat) (Option.none : Option Jvm.ClassFile.FieldType), Jvm.Cond.code ({ cls := "java/util/AbstractList", name := "<init>", desc := "()V" } : Jvm.MethodName) jdk_39_method_1_code (1 : Nat) (Option.none : Option Jvm.ClassFile.FieldType), Jvm.Cond.code ({ cls := "java/util/AbstractCollection", name := "<init>", desc := "()V" } : Jvm.MethodName) jdk_22_method_1_code (1 : Nat) (Option.none : Option Jvm.ClassFile.FieldType), Jvm.Cond.code ({ cls := "com/example/rouse/rouse/shell/CommandLine$Words", name := "size", desc := "()I" } : Jvm.MethodName) prog_66_method_3_code (1 : Nat) (Option.some Jvm.ClassFile.FieldType.int), Jvm.Cond.code ({ cls := "com/example/rouse/rouse/shell/CommandLine$Words", name := "get", desc := "(I)Ljava/lang/String;" } : Jvm.MethodName) prog_66_method_2_code (4 : Nat) (Option.some (Jvm.ClassFile.FieldType.object "java/lang/String")), Jvm.Cond.code ({ cls := "java/util/Objects", name := "checkIndex", desc := "(II)I" } : Jvm.MethodName) jdk_31_method_17_code (2 : Nat) (Option.some Jvm.ClassFile.FieldType.int), Jvm.Cond.code ({ cls := "jdk/internal/util/Preconditions", name := "checkIndex", desc := "(IILjava/util/function/BiFunction;)I" } : Jvm.MethodName) jdk_41_method_11_code (3 : Nat) (Option.some Jvm.ClassFile.FieldType.int), Jvm.Cond.code ({ cls := "com/example/rouse/rouse/shell/CommandLine", name := "wordStart", desc := "(I)I" } : Jvm.MethodName) prog_64_method_8_code (2 : Nat) (Option.some Jvm.ClassFile.FieldType.int), Jvm.Cond.code ({ cls := "com/example/rouse/rouse/shell/CommandLine", name := "wordEnd", desc := "(I)I" } : Jvm.MethodName) prog_64_method_7_code (2 : Nat) (Option.some Jvm.ClassFile.FieldType.int), Jvm.Cond.code ({ cls := "java/lang/String", name := "<init>", desc := "([CII)V" } : Jvm.MethodName) jdk_42_method_4_code (4 : Nat) (Option.none : Option Jvm.ClassFile.FieldType), Jvm.Cond.code ({ cls := "java/lang/String", name := "rangeCheck", desc := "([CII)Ljava/lang/Void;" } : Jvm.MethodName) jdk_42_method_5_code (3 : Nat) (Option.some (Jvm.ClassFile.FieldType.object "java/lang/Void")), Jvm.Cond.code ({ cls := "java/lang/String", name := "checkBoundsOffCount", desc := "(III)I" } : Jvm.MethodName) jdk_42_method_157_code (3 : Nat) (Option.some Jvm.ClassFile.FieldType.int), Jvm.Cond.code ({ cls := "jdk/internal/util/Preconditions", name := "checkFromIndexSize", desc := "(IIILjava/util/function/BiFunction;)I" } : Jvm.MethodName) jdk_41_method_13_code (4 : Nat) (Option.some Jvm.ClassFile.FieldType.int), Jvm.Cond.code ({ cls := "java/lang/String", name := "<init>", desc := "([CIILjava/lang/Void;)V" } : Jvm.MethodName) jdk_42_method_149_code (6 : Nat) (Option.none : Option Jvm.ClassFile.FieldType), Jvm.Cond.code ({ cls := "java/lang/String", name := "equals", desc := "(Ljava/lang/Object;)Z" } : Jvm.MethodName) jdk_42_method_66_code (3 : Nat) (Option.some Jvm.ClassFile.FieldType.boolean), Jvm.Cond.code ({ cls := "java/lang/StringLatin1", name := "equals", desc := "([B[B)Z" } : Jvm.MethodName) jdk_43_method_13_code (3 : Nat) (Option.some Jvm.ClassFile.FieldType.boolean), Jvm.Cond.code ({ cls := "java/lang/String", name := "valueOf", desc := "(C)Ljava/lang/String;" } : Jvm.MethodName) jdk_42_method_139_code (1 : Nat) (Option.some (Jvm.ClassFile.FieldType.object "java/lang/String")), Jvm.Cond.code ({ cls := "java/lang/StringLatin1", name := "canEncode", desc := "(C)Z" } : Jvm.MethodName) jdk_43_method_3_code (1 : Nat) (Option.some Jvm.ClassFile.FieldType.boolean), Jvm.Cond.code ({ cls := "java/lang/StringLatin1", name := "toBytes", desc := "(C)[B" } : Jvm.MethodName) jdk_43_method_46_code (1 : Nat) (Option.some (Jvm.ClassFile.FieldType.array Jvm.ClassFile.FieldType.byte)), Jvm.Cond.code ({ cls := "java/lang/String", name := "<init>", desc := "([BB)V" } : Jvm.MethodName) jdk_42_method_151_code (3 : Nat) (Option.none : Option Jvm.ClassFile.FieldType), Jvm.Cond.code ({ cls := "com/example/rouse/rouse/shell/CommandLine", name := "append", desc := "(C)V" } : Jvm.MethodName) prog_64_method_2_code (2 : Nat) (Option.none : Option Jvm.ClassFile.FieldType), Jvm.Cond.code ({ cls := "java/lang/StringUTF16", name := "compress", desc := "([CII)[B" } : Jvm.MethodName) jdk_52_method_16_code (6 : Nat) (Option.some (Jvm.ClassFile.FieldType.array Jvm.ClassFile.FieldType.byte)), Jvm.Cond.code ({ cls := "java/lang/StringUTF16", name := "compress", desc := "([CI[BII)I" } : Jvm.MethodName) jdk_52_method_21_code (7 : Nat) (Option.some Jvm.ClassFile.FieldType.int), Jvm.Cond.code ({ cls := "java/lang/StringUTF16", name := "coderFromArrayLen", desc := "([BI)B" } : Jvm.MethodName) jdk_52_method_15_code (2 : Nat) (Option.some Jvm.ClassFile.FieldType.byte), Jvm.Cond.code ({ cls := "java/lang/StringUTF16", name := "toBytes", desc := "(C)[B" } : Jvm.MethodName) jdk_52_method_24_code (2 : Nat) (Option.some (Jvm.ClassFile.FieldType.array Jvm.ClassFile.FieldType.byte)), Jvm.Cond.code ({ cls := "java/lang/StringUTF16", name := "putChar", desc := "([BII)V" } : Jvm.MethodName) jdk_52_method_4_code (3 : Nat) (Option.none : Option Jvm.ClassFile.FieldType), Jvm.Cond.code ({ cls := "java/lang/StringUTF16", name := "toBytes", desc := "([CII)[B" } : Jvm.MethodName) jdk_52_method_14_code (5 : Nat) (Option.some (Jvm.ClassFile.FieldType.array Jvm.ClassFile.FieldType.byte)), Jvm.Cond.code ({ cls := "java/lang/StringUTF16", name := "newBytesFor", desc := "(I)[B" } : Jvm.MethodName) jdk_52_method_2_code (1 : Nat) (Option.some (Jvm.ClassFile.FieldType.array Jvm.ClassFile.FieldType.byte)), Jvm.Cond.code ({ cls := "java/lang/StringUTF16", name := "newBytesLength", desc := "(I)I" } : Jvm.MethodName) jdk_52_method_3_code (1 : Nat) (Option.some Jvm.ClassFile.FieldType.int), Jvm.Cond.code ({ cls := "java/lang/StringUTF16", name := "getChar", desc := "([BI)C" } : Jvm.MethodName) jdk_52_method_5_code (2 : Nat) (Option.some Jvm.ClassFile.FieldType.char)]
set_option maxRecDepth 65536 in
theorem codes_eq : words1.filter isCode = codes1 := rfl
theorem w_codes : ∀ c ∈ words1.filter isCode, c.before args0 about1 = true := by
  rw [codes_eq]
  intro c hc
  simp only [codes1, List.mem_cons, List.not_mem_nil, or_false] at hc
  rcases hc with rfl | rfl | rfl | rfl | rfl | rfl | rfl | rfl | rfl | rfl | rfl | rfl | rfl | rfl | rfl | rfl | rfl | rfl | rfl | rfl | rfl | rfl | rfl | rfl | rfl | rfl | rfl | rfl | rfl | rfl | rfl | rfl | rfl | rfl | rfl | rfl | rfl | rfl | rfl | rfl | rfl
  · exact w_c0
  · exact w_c1
  · exact w_c2
  · exact w_c3
  · exact w_c4
  · exact w_c5
  · exact w_c6
  · exact w_c7
  · exact w_c8
  · exact w_c9
  · exact w_c10
  · exact w_c11
  · exact w_c12
  · exact w_c13
  · exact w_c14
  · exact w_c15
  · exact w_c16
  · exact w_c17
  · exact w_c18
  · exact w_c19
  · exact w_c20
  · exact w_c21
  · exact w_c22
  · exact w_c23
  · exact w_c24
  · exact w_c25
  · exact w_c26
  · exact w_c27
  · exact w_c28
  · exact w_c29
  · exact w_c30
  · exact w_c31
  · exact w_c32
  · exact w_c33
  · exact w_c34
  · exact w_c35
  · exact w_c36
  · exact w_c37
  · exact w_c38
  · exact w_c39
  · exact w_c40
set_option maxRecDepth 65536 in
theorem w_t1 : (words1.take 24).all (fun c => isCode c || c.before args0 about1) = true := by decide +kernel
set_option maxRecDepth 65536 in
theorem w_t2 : ((words1.drop 24).take 24).all (fun c => isCode c || c.before args0 about1) = true := by decide +kernel
set_option maxRecDepth 65536 in
theorem w_t3 : (((words1.drop 24).drop 24).take 24).all (fun c => isCode c || c.before args0 about1) = true := by decide +kernel
set_option maxRecDepth 65536 in
theorem w_t4 : ((((words1.drop 24).drop 24).drop 24).take 24).all (fun c => isCode c || c.before args0 about1) = true := by decide +kernel
set_option maxRecDepth 65536 in
theorem w_t5 : (((((words1.drop 24).drop 24).drop 24).drop 24).take 24).all (fun c => isCode c || c.before args0 about1) = true := by decide +kernel
set_option maxRecDepth 65536 in
theorem w_t6 : ((((((words1.drop 24).drop 24).drop 24).drop 24).drop 24).take 24).all (fun c => isCode c || c.before args0 about1) = true := by decide +kernel
set_option maxRecDepth 65536 in
theorem w_t7 : (((((((words1.drop 24).drop 24).drop 24).drop 24).drop 24).drop 24).take 24).all (fun c => isCode c || c.before args0 about1) = true := by decide +kernel
set_option maxRecDepth 65536 in
theorem w_t8 : ((((((((words1.drop 24).drop 24).drop 24).drop 24).drop 24).drop 24).drop 24).take 24).all (fun c => isCode c || c.before args0 about1) = true := by decide +kernel
set_option maxRecDepth 65536 in
theorem w_t9 : (((((((((words1.drop 24).drop 24).drop 24).drop 24).drop 24).drop 24).drop 24).drop 24).take 24).all (fun c => isCode c || c.before args0 about1) = true := by decide +kernel
set_option maxRecDepth 65536 in
theorem w_t10 : (((((((((words1.drop 24).drop 24).drop 24).drop 24).drop 24).drop 24).drop 24).drop 24).drop 24).all (fun c => isCode c || c.before args0 about1) = true := by decide +kernel
theorem w_tables : (allAtoms (Jvm.Cond.code x code maxLocals ret :: tables_1)).before args0 about1 = true := by
  rw [allAtoms_all]
  show words1.all (fun c => c.before args0 about1) = true
  refine all_split ?_ w_codes
  rw [← List.take_append_drop 24 words1, List.all_append, w_t1, ← List.take_append_drop 24 (words1.drop 24), List.all_append, w_t2, ← List.take_append_drop 24 ((words1.drop 24).drop 24), List.all_append, w_t3, ← List.take_append_drop 24 (((words1.drop 24).drop 24).drop 24), List.all_append, w_t4, ← List.take_append_drop 24 ((((words1.drop 24).drop 24).drop 24).drop 24), List.all_append, w_t5, ← List.take_append_drop 24 (((((words1.drop 24).drop 24).drop 24).drop 24).drop 24), List.all_append, w_t6, ← List.take_append_drop 24 ((((((words1.drop 24).drop 24).drop 24).drop 24).drop 24).drop 24), List.all_append, w_t7, ← List.take_append_drop 24 (((((((words1.drop 24).drop 24).drop 24).drop 24).drop 24).drop 24).drop 24), List.all_append, w_t8, ← List.take_append_drop 24 ((((((((words1.drop 24).drop 24).drop 24).drop 24).drop 24).drop 24).drop 24).drop 24), List.all_append, w_t9, w_t10]
  rfl
set_option maxRecDepth 65536 in
theorem w_rest : rest_1_c.before args0 about1 = true := by decide +kernel
set_option maxRecDepth 65536 in
theorem w_case : (Jvm.Cond.and given_1 narrow_1).before args0 about1 = true := by decide +kernel
set_option maxRecDepth 65536 in
theorem w_consts : constsHeld consts_1 about1 := Jvm.Lit.constsHeldB_iff.mp (by decide +kernel)
theorem w_applies : (headSpec (Jvm.Cond.code x code maxLocals ret :: tables_1) room_1).applies x e0.platform about1 = true :=
  (Spec.applies_iff w_frames).mpr ⟨w_running, w_runnable, w_alone, w_named, w_hears, w_ripe, w_room, w_tables⟩
theorem atStart : AtStart classFile x code maxLocals ret World_1 tables_1 room_1 Calls_1 rest_1 Pre_1 launch0 p0 e0 about1 theMethod args0 below0 :=
  ⟨lists_1, trivial, launch0.admits_env _ _ _, launch0.least_env, fairChoices_fair.cas, fairChoices_fair.clock, w_frames, w_args, w_heap, w_applies, ⟨w_consts, trivial⟩, w_rest, w_case⟩
end start1
theorem witness_1 : WitnessClaimed_1 := ⟨start1.p0, start1.e0, start1.about1, start1.theMethod, start1.args0, start1.below0, start1.atStart⟩
end Jvm.Pilot.@@N@@
