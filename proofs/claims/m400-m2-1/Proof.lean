import JvmDerived
import JvmDerived.Pilot.@@N@@Statement
import JvmDerived.Pilot.@@N@@Code
set_option linter.unusedVariables false
set_option linter.unusedSimpArgs false
namespace Jvm.RoadKit
open Sem ClassFile Op Lib Jvm.Stand Jvm.Free Jvm.LawKit
section New
variable {p : Program} {l : Launch} {e : Env} {R : Room} {s : State} {m : MethodId} {args : Array Value} {below : List Frame} {meth : Method} {c : Code} {T : State} {locs : List Loc} {cells slots : Nat}
theorem retI (X : Stand p l e R s m args below meth c T locs cells slots) (hx : p.tables.exec = Jvm.exec) {pc : Nat} {Ls : Array Slot} {z : Int32} {rest : List Value} (hret : meth.sig.returnType = some .int) (hd : decode c.code pc = .ok (.ireturn, 1)) {fs : List Frame}
    (hl : ∀ (f : JFrame) (acts : List Action), f.method = m → f.locked = none → f.entered = [] → (doReturn e (T.setTop f) acts (some (.int z))).1 = T.setFrames fs) : Steps p.tables e below (T.setTop (mkF m pc Ls (.int z :: rest))) (T.setFrames fs) := by
  have hm' : T.vm.method? m = some meth := X.method'
  have hn : narrow .int (.int z) = .int z := rfl
  show Steps p.tables e below (T.setTop { method := m, pc := pc, locals := Ls, stack := _ :: rest, locked := none }) _
  jvm_step X.here [X.here.top, hx, hd, hm', hret, hn]
  first | (intro acts; rw [hl _ acts rfl rfl rfl]) | rw [hl _ _ rfl rfl rfl]
  exact Steps.refl _
end New
end Jvm.RoadKit
namespace Jvm.Pilot.@@N@@
open Jvm Jvm.ClassFile Sem Op Lib Jvm.Free Jvm.Stand Jvm.LawKit Jvm.RoadKit Bundle Jvm.Pilot.@@N@@.Jvm.D
theorem own_retJ {p : Program} {l : Launch} {e : Env} {R : Room} {s : State} {m : MethodId} {args : Array Value} {below : List Frame} {meth : Method} {c : Code} {T : State} {locs : List Loc} {cells slots : Nat} (X : Stand p l e R s m args below meth c T locs cells slots) (hx : p.tables.exec = Jvm.exec) {pc : Nat} {Ls : Array Slot} {z : Int64} {rest : List Value} (hret : meth.sig.returnType = some .long) (hd : decode c.code pc = .ok (.lreturn, 1)) {fs : List Frame}
    (hl : ∀ (f : JFrame) (acts : List Action), f.method = m → f.locked = none → f.entered = [] → (doReturn e (T.setTop f) acts (some (.long z))).1 = T.setFrames fs) : Steps p.tables e below (T.setTop (mkF m pc Ls (.long z :: rest))) (T.setFrames fs) := by
  have hm' : T.vm.method? m = some meth := X.method'
  have hn : narrow .long (.long z) = .long z := rfl
  show Steps p.tables e below (T.setTop { method := m, pc := pc, locals := Ls, stack := _ :: rest, locked := none }) _
  jvm_step X.here [X.here.top, hx, hd, hm', hret, hn]
  first | (intro acts; rw [hl _ acts rfl rfl rfl]) | rw [hl _ _ rfl rfl rfl]
  exact Steps.refl _
theorem own_retD {p : Program} {l : Launch} {e : Env} {R : Room} {s : State} {m : MethodId} {args : Array Value} {below : List Frame} {meth : Method} {c : Code} {T : State} {locs : List Loc} {cells slots : Nat} (X : Stand p l e R s m args below meth c T locs cells slots) (hx : p.tables.exec = Jvm.exec) {pc : Nat} {Ls : Array Slot} {z : UInt64} {rest : List Value} (hret : meth.sig.returnType = some .double) (hd : decode c.code pc = .ok (.dreturn, 1)) {fs : List Frame}
    (hl : ∀ (f : JFrame) (acts : List Action), f.method = m → f.locked = none → f.entered = [] → (doReturn e (T.setTop f) acts (some (.double z))).1 = T.setFrames fs) : Steps p.tables e below (T.setTop (mkF m pc Ls (.double z :: rest))) (T.setFrames fs) := by
  have hm' : T.vm.method? m = some meth := X.method'
  have hn : narrow .double (.double z) = .double z := rfl
  show Steps p.tables e below (T.setTop { method := m, pc := pc, locals := Ls, stack := _ :: rest, locked := none }) _
  jvm_step X.here [X.here.top, hx, hd, hm', hret, hn]
  first | (intro acts; rw [hl _ acts rfl rfl rfl]) | rw [hl _ _ rfl rfl rfl]
  exact Steps.refl _
theorem own_sta_keep {Z : State} {h h' : Heap} {C n d : String} {v : Value} {ws : List Addr} (F : Sta Z h C n d v) (K : Keep h h' ws) (q : ∀ x ∈ ws, ∀ c : Cell, h[x]? = some c → c.vm.isStatics = false) : Sta Z h' C n d v := by
  obtain ⟨cf, i, k, f, st, cell, h1, h2, h3, h4, h5, h6, h7⟩ := F
  exact ⟨cf, i, k, f, st, cell, h1, h2, h3, h4, K.2.1 st cell h5 (fun z => by have := q st z cell h5; rw [h6] at this; cases this), h6, h7⟩
theorem own_ins_keep {Z : State} {h h' : Heap} {a : Addr} {C : String} {b : Bool} {ws : List Addr} (F : Ins Z h a C b) (K : Keep h h' ws) : Ins Z h' a C b := by
  obtain ⟨cell, cT, h1, h2, h3⟩ := F
  obtain ⟨c', e1, e2, e3, -⟩ := K.2.2 a cell h1
  exact ⟨c', cT, e1, h2, by rw [e2, e3]; exact h3⟩
theorem own_pl0 {h : Heap} : ∀ x ∈ ([] : List Addr), ∀ c : Cell, h[x]? = some c → c.vm.isStatics = false := fun _ q => nomatch q
theorem own_plS {h : Heap} {y : Addr} {L : List Addr} (q : ∀ c : Cell, h[y]? = some c → c.vm.isStatics = false) (r : ∀ x ∈ L, ∀ c : Cell, h[x]? = some c → c.vm.isStatics = false) : ∀ x ∈ y :: L, ∀ c : Cell, h[x]? = some c → c.vm.isStatics = false := fun x z => (List.mem_cons.mp z).elim (fun u => u ▸ q) (r x)
theorem own_pl_exa {Z : State} {h : Heap} {a : Addr} {C : String} (F : Exa Z h a C) : ∀ c : Cell, h[a]? = some c → c.vm.isStatics = false := fun c hc => by
  obtain ⟨cell, k, h1, -, -, h4, -⟩ := F; cases h1.symm.trans hc; exact h4
theorem own_pl_fld {Z : State} {h : Heap} {a : Addr} {C n d : String} {v : Value} (F : Fld Z h a C n d v) : ∀ c : Cell, h[a]? = some c → c.vm.isStatics = false := fun c hc => by
  obtain ⟨cell, cf, k, i, f, h1, -, -, -, h5, -⟩ := F; cases h1.symm.trans hc; exact h5
theorem own_pl_arv {Z : State} {h : Heap} {a : Addr} {k : ClassId} {ty : FieldType} {z : Int32} {vs : List Value} {d : Value} (F : Arv Z h a k ty z vs d) : ∀ c : Cell, h[a]? = some c → c.vm.isStatics = false := fun c hc => by
  obtain ⟨cl, A, -⟩ := F; cases A.1.symm.trans hc; exact A.plain
theorem own_len {s : State} {args : Array Value} {t : Term} {a : Addr} {cl : Cell} {ty : FieldType} {z : Int32} (ev : t.eval args s none [] s = some (.ref a)) (A : Arr s s.heap a cl ty) (n3 : (Jvm.Cond.eq (.length t) (.int z)).value args s none s [] = some true) : cl.slots.size < 2 ^ 31 ∧ cl.slots.size.toInt32 = z := by
  have hlen := Cond.eq_int (Cond.before_iff.mpr n3) (Term.int_eval z)
  have hat : s.arrayAt? a = some cl := A.fin (Vm.Alike.refl _)
  have h31 := SBG.length_lt ev hat hlen
  obtain ⟨a', cell, e1, e2, e3⟩ := Term.length_spec hlen
  cases e1.symm.trans ev
  cases e2.symm.trans hat
  exact ⟨h31, (Value.int.inj e3).symm⟩
theorem own_elem {s : State} {args : Array Value} {t u : Term} {a : Addr} {cl : Cell} {ty : FieldType} {i : Int32} {v : Value} (ev : t.eval args s none [] s = some (.ref a)) (A : Arr s s.heap a cl ty) (h : (Jvm.Cond.eq (.elem t (.int i)) u).value args s none s [] = some true) (hu : u.eval args s none [] s = some v) (hv : v.isRef = true) : cl.slots[i.toNatClampNeg]? = some v :=
  (elem_in (Cond.eq_refs (Cond.before_iff.mpr h) hu hv) ev (Term.int_eval i) A.1).2
theorem own_fld {s : State} {args : Array Value} {t : Term} {a : Addr} {C n d : String} {z : Int32} (ev : t.eval args s none [] s = some (.ref a)) (h : (Jvm.Cond.eq (.field t C n d) (.int z)).value args s none s [] = some true) : Fld s s.heap a C n d (.int z) :=
  Fld.start ((fld_at ev).symm.trans (Cond.eq_int (Cond.before_iff.mpr h) (Term.int_eval z)))
theorem own_sta {s : State} {args : Array Value} {C n d K : String} (w1 : (Jvm.Cond.initialized C).before args s = true) (w2 : (Jvm.Cond.laysStatic C n d).before args s = true) (h : (Jvm.Cond.exactly (.static C n d) K).value args s none s [] = some true) : ∃ a : Addr, (Term.static C n d).eval args s none [] s = some (.ref a) ∧ Sta s s.heap C n d (.ref a) ∧ Exa s s.heap a K := by
  obtain ⟨a, ev⟩ := exa_v h
  exact ⟨a, ev, Sta.start ev (Or.inr ⟨w1, w2⟩), Exa.start ev h⟩
theorem own_arr0 {s : State} {args : Array Value} {C n d : String} (hfit : Fit s) (w1 : (Jvm.Cond.initialized C).before args s = true) (w2 : (Jvm.Cond.laysStatic C n d).before args s = true)
    (n1 : (Jvm.Cond.arrayOf (.static C n d) .byte).value args s none s [] = some true) (n2 : (Jvm.Cond.exactly (.static C n d) "[B").value args s none s [] = some true) (n3 : (Jvm.Cond.eq (.length (.static C n d)) (.int 0)).value args s none s [] = some true) :
    ∃ (a : Addr) (k : ClassId), Sta s s.heap C n d (.ref a) ∧ Exa s s.heap a "[B" ∧ Arv s s.heap a k .byte (0 : Int32) [] (.int (0 : Int32)) := by
  obtain ⟨a, e1, S, E⟩ := own_sta w1 w2 n2
  obtain ⟨cl, A⟩ := Arr.start e1 n1
  obtain ⟨h31, hz⟩ := own_len e1 A n3
  exact ⟨a, cl.cls, S, E, Arv.start hfit A h31 hz (by decide) rfl trivial⟩
theorem d2_0 : decode prog_63_method_1_code 0 = .ok (.aload_n 0, 1) := by decide +kernel
theorem d2_1 : decode prog_63_method_1_code 1 = .ok (.invokespecial 1, 3) := by decide +kernel
theorem d2_4 : decode prog_63_method_1_code 4 = .ok (.aload_n 0, 1) := by decide +kernel
theorem d2_5 : decode prog_63_method_1_code 5 = .ok (.iload_n 1, 1) := by decide +kernel
theorem d2_6 : decode prog_63_method_1_code 6 = .ok (.putfield 7, 3) := by decide +kernel
theorem d2_9 : decode prog_63_method_1_code 9 = .ok (.aload_n 0, 1) := by decide +kernel
theorem d2_10 : decode prog_63_method_1_code 10 = .ok (.aload_n 2, 1) := by decide +kernel
theorem d2_11 : decode prog_63_method_1_code 11 = .ok (.putfield 13, 3) := by decide +kernel
theorem d2_14 : decode prog_63_method_1_code 14 = .ok (.return_, 1) := by decide +kernel
theorem pn_com_example_enclav_enclav_tam_Reply : plainName "com/example/enclav/enclav/tam/Reply" = true := by first | (simp [plainName, overriddenIn]; done) | decide +kernel
theorem ef_2 (m : MethodId) (a1 : Addr) (p2 : Int32) (a3 : Addr) : entryFrame m #[(.ref a1), (.int p2), (.ref a3)] 3 = mkF m 0 #[.val (.ref a1), .val (.int p2), .val (.ref a3)] [] := by first | (simp [entryFrame, mkF, argsToLocals, Value.category]; done) | rfl
def Q2 (Z : State) (a1 : Addr) (p2 : Int32) (a3 : Addr) (u1 : Value) (u2 : Value) (h0 : Heap) (n0 : Nat) (v : Option Value) (h : Heap) (L : List Loc) : Prop := v = none ∧ Fr n0 L ∧ Keep h0 h [a1] ∧ Fld Z h a1 "com/example/enclav/enclav/tam/Reply" "status" "I" (.int p2) ∧ Fld Z h a1 "com/example/enclav/enclav/tam/Reply" "message" "[B" (.ref a3)
set_option maxRecDepth 65536 in
set_option maxHeartbeats 40000000 in
theorem rm2 (l : Launch) (Z : State) (a0 : Array Value) (hw : ∀ d ∈ tables_1, d.before a0 Z = true) (ws : List Jvm.Cond) (a1 : Addr) (p2 : Int32) (a3 : Addr) (u1 : Value) (u2 : Value) (h0 : Heap) (n0 : Nat) (Z0 : n0 ≤ h0.size) (H0 : Exa Z h0 a1 "com/example/enclav/enclav/tam/Reply") (H1 : Fld Z h0 a1 "com/example/enclav/enclav/tam/Reply" "status" "I" u1) (H2 : Fld Z h0 a1 "com/example/enclav/enclav/tam/Reply" "message" "[B" u2) (H3 : n0 ≤ a1) :
    MetFree l (⟨"com/example/enclav/enclav/tam/Reply", "<init>", "(I[B)V"⟩ : MethodName) (head1 (Jvm.Cond.code (⟨"com/example/enclav/enclav/tam/Reply", "<init>", "(I[B)V"⟩ : MethodName) prog_63_method_1_code 3 none :: ws) ({ frames := 1, cells := 0, slots := 0, locals := 12 } : Room)) (fun a U => a = #[(.ref a1), (.int p2), (.ref a3)] ∧ Z.Warmed39 U.vm ∧ U.heap = h0) (fun _ _ _ _ _ => True) (fun _ U o U' => ∃ v L, o = .returned v ∧ Q2 Z a1 p2 a3 u1 u2 h0 n0 v U'.heap L ∧ FrameEnd U o U' L ({ frames := 1, cells := 0, slots := 0, locals := 12 } : Room).cells ({ frames := 1, cells := 0, slots := 0, locals := 12 } : Room).slots) := by
  refine MetFree.of_bodySF (plainFor_of_name pn_com_example_enclav_enclav_tam_Reply) hisR ?_
  intro p e s m args below meth c s₁ Bd hml0 hP hK
  obtain ⟨rfl, hZ, hh⟩ := hP
  have hx := Bd.exec
  have hby := Bd.bytes
  have hml : c.maxLocals = 3 := hml0
  have hown : s.vm.findClass "com/example/enclav/enclav/tam/Reply" = some m.cls := findClass_of_methodNamed Bd.named
  have hnm := (name_of_methodNamed Bd.named Bd.method).1
  have X0 : Stand p l e ({ frames := 1, cells := 0, slots := 0, locals := 12 } : Room) s m #[(.ref a1), (.int p2), (.ref a3)] below meth c s₁ [] 0 0 := Stand.of_body Bd
  have e0 : s₁.heap = h0 := by rw [← hh, Bd.state]; rfl
  have N0 := Fr.nil n0
  have pre0 : ∀ t, Steps p.tables e below (s₁.setTop (mkF m 0 #[.val (.ref a1), .val (.int p2), .val (.ref a3)] [])) t → Steps p.tables e below (s₁.setTop (entryFrame m #[(.ref a1), (.int p2), (.ref a3)] 3)) t := fun t k => castTop (ef_2 m a1 p2 a3) k
  obtain ⟨T101, X101, e101, st101⟩ := initO X0 hx hZ hown (hw _ (List.mem_of_getElem? (i := 10) rfl)) (hw _ (List.mem_of_getElem? (i := 11) rfl)) (hw _ (List.mem_of_getElem? (i := 12) rfl)) e0 (g := (mkF m 1 #[.val (.ref a1), .val (.int p2), .val (.ref a3)] [(.ref a1)])) rfl (by rw [hml]; rfl) rfl (hb hby d2_1) (by decide) (W := 0) (by show 2 * 0 + _ ≤ _; exact Nat.le_of_eq rfl) (by decide)
  obtain ⟨T102, h102, X102, e102, W102, st102⟩ := putF X101 hx hZ hown (host := "") (Or.inl (hw _ (List.mem_of_getElem? (i := 13) rfl))) Via.refl e101 H1 H0 (Or.inr ⟨(hw _ (List.mem_of_getElem? (i := 14) rfl)), rfl, hnm⟩) (hw _ (List.mem_of_getElem? (i := 6) rfl)) (ty := .int) (by decide) rfl rfl (g := (mkF m 6 #[.val (.ref a1), .val (.int p2), .val (.ref a3)] [(.int p2), (.ref a1)])) rfl rfl (hb hby d2_6)
  have Fw102 := H1.same W102
  have N102 := Fr.snoc X102 N0 H3
  have f103 : Fld Z h102 a1 "com/example/enclav/enclav/tam/Reply" "message" "[B" u2 := (H2.other W102 (Or.inr (slot_ne (Or.inr (hw _ (List.mem_of_getElem? (i := 16) rfl))) (Or.inr (hw _ (List.mem_of_getElem? (i := 14) rfl))) (by decide) (t := (.array .byte)) (t' := .int) (by decide) (by decide))))
  have f104 : Exa Z h102 a1 "com/example/enclav/enclav/tam/Reply" := (H0.wr W102)
  obtain ⟨T105, h105, X105, e105, W105, st105⟩ := putF X102 hx hZ hown (host := "") (Or.inl (hw _ (List.mem_of_getElem? (i := 15) rfl))) Via.refl e102 f103 f104 (Or.inr ⟨(hw _ (List.mem_of_getElem? (i := 16) rfl)), rfl, hnm⟩) (hw _ (List.mem_of_getElem? (i := 6) rfl)) (ty := (.array .byte)) (by decide) rfl rfl (g := (mkF m 11 #[.val (.ref a1), .val (.int p2), .val (.ref a3)] [(.ref a3), (.ref a1)])) rfl rfl (hb hby d2_11)
  have Fw105 := f103.same W105
  have N105 := Fr.snoc X105 N102 H3
  have f106 : Fld Z h105 a1 "com/example/enclav/enclav/tam/Reply" "status" "I" (.int p2) := (Fw102.other W105 (Or.inr (slot_ne (Or.inr (hw _ (List.mem_of_getElem? (i := 14) rfl))) (Or.inr (hw _ (List.mem_of_getElem? (i := 16) rfl))) (by decide) (t := .int) (t' := (.array .byte)) (by decide) (by decide))))
  obtain ⟨fs, hr, hrun, hended, hW, hsame⟩ := X105.leave (v := none) (fun _ => rfl)
  refine ⟨_, _, pre0 _ ?_, hrun, hended, _, _, rfl, ?_, ⟨_, rfl⟩, hW, hsame.mono (by decide) (by decide)⟩
  · skip
    show Steps p.tables e below (s₁.setTop (mkF m 0 #[.val (.ref a1), .val (.int p2), .val (.ref a3)] [])) _
    refine XS.aloadN X0.here hx rfl (hb hby d2_0) rfl rfl ?_
    show Steps p.tables e below (s₁.setTop (mkF m 1 #[.val (.ref a1), .val (.int p2), .val (.ref a3)] [(.ref a1)])) _
    refine st101 _ ?_
    show Steps p.tables e below (T101.setTop (mkF m 4 #[.val (.ref a1), .val (.int p2), .val (.ref a3)] [])) _
    refine XS.aloadN X101.here hx rfl (hb hby d2_4) rfl rfl ?_
    show Steps p.tables e below (T101.setTop (mkF m 5 #[.val (.ref a1), .val (.int p2), .val (.ref a3)] [(.ref a1)])) _
    refine XS.iloadN X101.here hx rfl (hb hby d2_5) rfl ?_
    show Steps p.tables e below (T101.setTop (mkF m 6 #[.val (.ref a1), .val (.int p2), .val (.ref a3)] [(.int p2), (.ref a1)])) _
    refine st102 _ ?_
    show Steps p.tables e below (T102.setTop (mkF m 9 #[.val (.ref a1), .val (.int p2), .val (.ref a3)] [])) _
    refine XS.aloadN X102.here hx rfl (hb hby d2_9) rfl rfl ?_
    show Steps p.tables e below (T102.setTop (mkF m 10 #[.val (.ref a1), .val (.int p2), .val (.ref a3)] [(.ref a1)])) _
    refine XS.aloadN X102.here hx rfl (hb hby d2_10) rfl rfl ?_
    show Steps p.tables e below (T102.setTop (mkF m 11 #[.val (.ref a1), .val (.int p2), .val (.ref a3)] [(.ref a3), (.ref a1)])) _
    refine st105 _ ?_
    show Steps p.tables e below (T105.setTop (mkF m 14 #[.val (.ref a1), .val (.int p2), .val (.ref a3)] [])) _
    exact X105.returnOut hx Bd.returns (hb hby d2_14) hr
  · show Q2 Z a1 p2 a3 u1 u2 h0 n0 _ T105.heap _
    rw [e105]
    exact ⟨rfl, N105, (((Keep.refl h0 [a1]).wr W102 (Or.inl (List.mem_of_getElem? (i := 0) rfl))).wr W105 (Or.inl (List.mem_of_getElem? (i := 0) rfl))), f106, Fw105⟩
theorem d4_0 : decode prog_63_method_3_code 0 = .ok (.new 8, 3) := by decide +kernel
theorem d4_3 : decode prog_63_method_3_code 3 = .ok (.dup, 1) := by decide +kernel
theorem d4_4 : decode prog_63_method_3_code 4 = .ok (.sipush 204, 3) := by decide +kernel
theorem d4_7 : decode prog_63_method_3_code 7 = .ok (.getstatic 20, 3) := by decide +kernel
theorem d4_10 : decode prog_63_method_3_code 10 = .ok (.invokespecial 17, 3) := by decide +kernel
theorem pd_0 : parseMethodDescriptor "(I[B)V" = some ⟨[.int, (.array .byte)], none⟩ := by decide +kernel
theorem d4_13 : decode prog_63_method_3_code 13 = .ok (.areturn, 1) := by decide +kernel
theorem ef_4 (m : MethodId)  : entryFrame m #[] 0 = mkF m 0 #[] [] := by first | (simp [entryFrame, mkF, argsToLocals, Value.category]; done) | rfl
def Q4 (Z : State) (ea : Addr) (h0 : Heap) (n0 : Nat) (v : Option Value) (h : Heap) (L : List Loc) : Prop := ∃ (b : Addr), v = some (.ref b) ∧ Fr n0 L ∧ Keep h0 h [] ∧ h0.size ≤ b ∧ Exa Z h b "com/example/enclav/enclav/tam/Reply" ∧ Fld Z h b "com/example/enclav/enclav/tam/Reply" "status" "I" (.int (204 : Int32)) ∧ Fld Z h b "com/example/enclav/enclav/tam/Reply" "message" "[B" (.ref ea)
set_option maxRecDepth 65536 in
set_option maxHeartbeats 40000000 in
theorem rm4 (l : Launch) (Z : State) (a0 : Array Value) (hw : ∀ d ∈ tables_1, d.before a0 Z = true) (ws : List Jvm.Cond) (ea : Addr) (h0 : Heap) (n0 : Nat) (Z0 : n0 ≤ h0.size) (H0 : Sta Z h0 "com/example/enclav/enclav/tam/Reply" "EMPTY" "[B" (.ref ea)) :
    MetFree l (⟨"com/example/enclav/enclav/tam/Reply", "end", "()Lcom/example/enclav/enclav/tam/Reply;"⟩ : MethodName) (head1 (Jvm.Cond.code (⟨"com/example/enclav/enclav/tam/Reply", "end", "()Lcom/example/enclav/enclav/tam/Reply;"⟩ : MethodName) prog_63_method_3_code 0 (some (.object "com/example/enclav/enclav/tam/Reply")) :: ws) ({ frames := 2, cells := 1, slots := 2, locals := 27 } : Room)) (fun a U => a = #[] ∧ Z.Warmed39 U.vm ∧ U.heap = h0) (fun _ _ _ _ _ => True) (fun _ U o U' => ∃ v L, o = .returned v ∧ Q4 Z ea h0 n0 v U'.heap L ∧ FrameEnd U o U' L ({ frames := 2, cells := 1, slots := 2, locals := 27 } : Room).cells ({ frames := 2, cells := 1, slots := 2, locals := 27 } : Room).slots) := by
  refine MetFree.of_bodySF (plainFor_of_name pn_com_example_enclav_enclav_tam_Reply) hisR ?_
  intro p e s m args below meth c s₁ Bd hml0 hP hK
  obtain ⟨rfl, hZ, hh⟩ := hP
  have hx := Bd.exec
  have hby := Bd.bytes
  have hml : c.maxLocals = 0 := hml0
  have hown : s.vm.findClass "com/example/enclav/enclav/tam/Reply" = some m.cls := findClass_of_methodNamed Bd.named
  have hnm := (name_of_methodNamed Bd.named Bd.method).1
  have X0 : Stand p l e ({ frames := 2, cells := 1, slots := 2, locals := 27 } : Room) s m #[] below meth c s₁ [] 0 0 := Stand.of_body Bd
  have e0 : s₁.heap = h0 := by rw [← hh, Bd.state]; rfl
  have N0 := Fr.nil n0
  have pre0 : ∀ t, Steps p.tables e below (s₁.setTop (mkF m 0 #[] [])) t → Steps p.tables e below (s₁.setTop (entryFrame m #[] 0)) t := fun t k => castTop (ef_4 m ) k
  obtain ⟨T101, h101, X101, e101, E101, A101, D101, -, st101⟩ := newO X0 hx hZ hown (hw _ (List.mem_of_getElem? (i := 5) rfl)) (hw _ (List.mem_of_getElem? (i := 6) rfl)) (hw _ (List.mem_of_getElem? (i := 3) rfl)) e0 (g := (mkF m 0 #[] [])) rfl (hb hby d4_0) (by decide) (by decide)
  obtain ⟨b101, g101⟩ : ∃ z, z = h0.size := ⟨_, rfl⟩
  rw [← g101] at A101 D101 st101
  have F102 : Fld Z h101 b101 "com/example/enclav/enclav/tam/Reply" "status" "I" (.int (0 : Int32)) := D101 (Or.inr (hw _ (List.mem_of_getElem? (i := 14) rfl))) (ty := .int) (by decide)
  have F103 : Fld Z h101 b101 "com/example/enclav/enclav/tam/Reply" "message" "[B" .null := D101 (Or.inr (hw _ (List.mem_of_getElem? (i := 16) rfl))) (ty := (.array .byte)) (by decide)
  have f104 : Sta Z h101 "com/example/enclav/enclav/tam/Reply" "EMPTY" "[B" (.ref ea) := (H0.ext E101)
  obtain ⟨T105, X105, e105, st105⟩ := getS2 X101 hx hZ hown (host := "") (Or.inl (hw _ (List.mem_of_getElem? (i := 20) rfl))) Via.refl e101 f104 (g := (mkF m 7 #[] [(.int (204 : Int32)), (.ref b101), (.ref b101)])) rfl (hb hby d4_7)
  have g106 : n0 ≤ b101 := Nat.le_trans Z0 (Nat.le_of_eq g101.symm)
  have z108 : n0 ≤ h101.size := (Nat.le_trans Z0 E101.1)
  obtain ⟨_, _, ⟨T107, L107, k107, n107⟩, -, X107, ⟨Lc107, hQ107, l107, y107, z107⟩, st107⟩ := X105.specialBack hx (y := (⟨"com/example/enclav/enclav/tam/Reply", "<init>", "(I[B)V"⟩ : MethodName)) rfl hown (mvT hZ (hw _ (List.mem_of_getElem? (i := 7) rfl))) (mvT hZ (hw _ (List.mem_of_getElem? (i := 8) rfl))) (mvT hZ (hw _ (List.mem_of_getElem? (i := 9) rfl))) (by decide) (backOf (W := 1) (rm2 l Z a0 hw [] b101 (204 : Int32) ea (.int (0 : Int32)) .null h101 n0 z108 A101 F102 F103 g106) hZ (hw _ (List.mem_of_getElem? (i := 9) rfl)) (hw _ (List.mem_of_getElem? (i := 3) rfl)) (by decide) (by decide)) (g := (mkF m 10 #[] [(.ref ea), (.int (204 : Int32)), (.ref b101), (.ref b101)])) rfl (by rw [hml]; rfl) (Steps.refl _) (a := b101) (argsL := [(.int (204 : Int32)), (.ref ea)]) (rest := [(.ref b101)]) (lenOf pd_0 rfl) rfl (by show 2 * 0 + _ ≤ _; exact Nat.le_of_eq rfl) (hb hby d4_10) (fun _ _ => ⟨rfl, e105, (by decide : 1 + 0 ≤ _), (by decide : 2 + 0 ≤ _)⟩)
  dsimp only [Pt.U, Pt.locs, Pt.cells, Pt.slots] at X107 l107 y107 z107 st107 hQ107
  subst l107 y107 z107
  obtain ⟨rfl, Nq107, K107, R107_1, R107_2⟩ := hQ107
  have N107 := Fr.app N0 Nq107
  have f109 : Exa Z T107.heap b101 "com/example/enclav/enclav/tam/Reply" := (A101.keep K107)
  obtain ⟨fs, hr, hrun, hended, hW, hsame⟩ := X107.leave (v := some (.ref b101)) (fun h => by rw [Bd.returns] at h; cases h)
  refine ⟨_, _, pre0 _ ?_, hrun, hended, _, _, rfl, ?_, ⟨_, rfl⟩, hW, hsame.mono (by decide) (by decide)⟩
  · skip
    show Steps p.tables e below (s₁.setTop (mkF m 0 #[] [])) _
    refine st101 _ ?_
    show Steps p.tables e below (T101.setTop (mkF m 3 #[] [(.ref b101)])) _
    refine XS.dup X101.here hx rfl (hb hby d4_3) rfl rfl ?_
    show Steps p.tables e below (T101.setTop (mkF m 4 #[] [(.ref b101), (.ref b101)])) _
    refine XS.sipush X101.here hx rfl (hb hby d4_4) ?_
    show Steps p.tables e below (T101.setTop (mkF m 7 #[] [(.int (204 : Int32)), (.ref b101), (.ref b101)])) _
    refine st105 _ ?_
    show Steps p.tables e below (T105.setTop (mkF m 10 #[] [(.ref ea), (.int (204 : Int32)), (.ref b101), (.ref b101)])) _
    refine st107.trans ?_
    show Steps p.tables e below (T107.setTop (mkF m 13 #[] [(.ref b101)])) _
    jvm_step X107.here [X107.here.top, hx, (hb hby d4_13), X107.method', Bd.returns, Value.isRef, FieldType.isReference]
    first | (intro acts; rw [hr _ acts rfl rfl rfl]) | rw [hr _ _ rfl rfl rfl]
    exact Steps.refl _
  · show Q4 Z ea h0 n0 _ T107.heap _
    exact ⟨b101, rfl, N107, (((Keep.refl h0 []).ext E101).trans K107 (allS (P := (fun x => x ∈ [] ∨ h0.size ≤ x)) (Or.inr (Nat.le_trans (Nat.le_refl _) (Nat.le_of_eq g101.symm))) all0)), (Nat.le_trans (Nat.le_refl _) (Nat.le_of_eq g101.symm)), f109, R107_1, R107_2⟩
theorem d5_0 : decode prog_63_method_4_code 0 = .ok (.new 8, 3) := by decide +kernel
theorem d5_3 : decode prog_63_method_4_code 3 = .ok (.dup, 1) := by decide +kernel
theorem d5_4 : decode prog_63_method_4_code 4 = .ok (.sipush 400, 3) := by decide +kernel
theorem d5_7 : decode prog_63_method_4_code 7 = .ok (.getstatic 20, 3) := by decide +kernel
theorem d5_10 : decode prog_63_method_4_code 10 = .ok (.invokespecial 17, 3) := by decide +kernel
theorem d5_13 : decode prog_63_method_4_code 13 = .ok (.areturn, 1) := by decide +kernel
theorem ef_5 (m : MethodId)  : entryFrame m #[] 0 = mkF m 0 #[] [] := by first | (simp [entryFrame, mkF, argsToLocals, Value.category]; done) | rfl
def Q5 (Z : State) (ea : Addr) (h0 : Heap) (n0 : Nat) (v : Option Value) (h : Heap) (L : List Loc) : Prop := ∃ (b : Addr), v = some (.ref b) ∧ Fr n0 L ∧ Keep h0 h [] ∧ h0.size ≤ b ∧ Exa Z h b "com/example/enclav/enclav/tam/Reply" ∧ Fld Z h b "com/example/enclav/enclav/tam/Reply" "status" "I" (.int (400 : Int32)) ∧ Fld Z h b "com/example/enclav/enclav/tam/Reply" "message" "[B" (.ref ea)
set_option maxRecDepth 65536 in
set_option maxHeartbeats 40000000 in
theorem rm5 (l : Launch) (Z : State) (a0 : Array Value) (hw : ∀ d ∈ tables_1, d.before a0 Z = true) (ws : List Jvm.Cond) (ea : Addr) (h0 : Heap) (n0 : Nat) (Z0 : n0 ≤ h0.size) (H0 : Sta Z h0 "com/example/enclav/enclav/tam/Reply" "EMPTY" "[B" (.ref ea)) :
    MetFree l (⟨"com/example/enclav/enclav/tam/Reply", "refused", "()Lcom/example/enclav/enclav/tam/Reply;"⟩ : MethodName) (head1 (Jvm.Cond.code (⟨"com/example/enclav/enclav/tam/Reply", "refused", "()Lcom/example/enclav/enclav/tam/Reply;"⟩ : MethodName) prog_63_method_4_code 0 (some (.object "com/example/enclav/enclav/tam/Reply")) :: ws) ({ frames := 2, cells := 1, slots := 2, locals := 27 } : Room)) (fun a U => a = #[] ∧ Z.Warmed39 U.vm ∧ U.heap = h0) (fun _ _ _ _ _ => True) (fun _ U o U' => ∃ v L, o = .returned v ∧ Q5 Z ea h0 n0 v U'.heap L ∧ FrameEnd U o U' L ({ frames := 2, cells := 1, slots := 2, locals := 27 } : Room).cells ({ frames := 2, cells := 1, slots := 2, locals := 27 } : Room).slots) := by
  refine MetFree.of_bodySF (plainFor_of_name pn_com_example_enclav_enclav_tam_Reply) hisR ?_
  intro p e s m args below meth c s₁ Bd hml0 hP hK
  obtain ⟨rfl, hZ, hh⟩ := hP
  have hx := Bd.exec
  have hby := Bd.bytes
  have hml : c.maxLocals = 0 := hml0
  have hown : s.vm.findClass "com/example/enclav/enclav/tam/Reply" = some m.cls := findClass_of_methodNamed Bd.named
  have hnm := (name_of_methodNamed Bd.named Bd.method).1
  have X0 : Stand p l e ({ frames := 2, cells := 1, slots := 2, locals := 27 } : Room) s m #[] below meth c s₁ [] 0 0 := Stand.of_body Bd
  have e0 : s₁.heap = h0 := by rw [← hh, Bd.state]; rfl
  have N0 := Fr.nil n0
  have pre0 : ∀ t, Steps p.tables e below (s₁.setTop (mkF m 0 #[] [])) t → Steps p.tables e below (s₁.setTop (entryFrame m #[] 0)) t := fun t k => castTop (ef_5 m ) k
  obtain ⟨T101, h101, X101, e101, E101, A101, D101, -, st101⟩ := newO X0 hx hZ hown (hw _ (List.mem_of_getElem? (i := 5) rfl)) (hw _ (List.mem_of_getElem? (i := 6) rfl)) (hw _ (List.mem_of_getElem? (i := 3) rfl)) e0 (g := (mkF m 0 #[] [])) rfl (hb hby d5_0) (by decide) (by decide)
  obtain ⟨b101, g101⟩ : ∃ z, z = h0.size := ⟨_, rfl⟩
  rw [← g101] at A101 D101 st101
  have F102 : Fld Z h101 b101 "com/example/enclav/enclav/tam/Reply" "status" "I" (.int (0 : Int32)) := D101 (Or.inr (hw _ (List.mem_of_getElem? (i := 14) rfl))) (ty := .int) (by decide)
  have F103 : Fld Z h101 b101 "com/example/enclav/enclav/tam/Reply" "message" "[B" .null := D101 (Or.inr (hw _ (List.mem_of_getElem? (i := 16) rfl))) (ty := (.array .byte)) (by decide)
  have f104 : Sta Z h101 "com/example/enclav/enclav/tam/Reply" "EMPTY" "[B" (.ref ea) := (H0.ext E101)
  obtain ⟨T105, X105, e105, st105⟩ := getS2 X101 hx hZ hown (host := "") (Or.inl (hw _ (List.mem_of_getElem? (i := 20) rfl))) Via.refl e101 f104 (g := (mkF m 7 #[] [(.int (400 : Int32)), (.ref b101), (.ref b101)])) rfl (hb hby d5_7)
  have g106 : n0 ≤ b101 := Nat.le_trans Z0 (Nat.le_of_eq g101.symm)
  have z108 : n0 ≤ h101.size := (Nat.le_trans Z0 E101.1)
  obtain ⟨_, _, ⟨T107, L107, k107, n107⟩, -, X107, ⟨Lc107, hQ107, l107, y107, z107⟩, st107⟩ := X105.specialBack hx (y := (⟨"com/example/enclav/enclav/tam/Reply", "<init>", "(I[B)V"⟩ : MethodName)) rfl hown (mvT hZ (hw _ (List.mem_of_getElem? (i := 7) rfl))) (mvT hZ (hw _ (List.mem_of_getElem? (i := 8) rfl))) (mvT hZ (hw _ (List.mem_of_getElem? (i := 9) rfl))) (by decide) (backOf (W := 1) (rm2 l Z a0 hw [] b101 (400 : Int32) ea (.int (0 : Int32)) .null h101 n0 z108 A101 F102 F103 g106) hZ (hw _ (List.mem_of_getElem? (i := 9) rfl)) (hw _ (List.mem_of_getElem? (i := 3) rfl)) (by decide) (by decide)) (g := (mkF m 10 #[] [(.ref ea), (.int (400 : Int32)), (.ref b101), (.ref b101)])) rfl (by rw [hml]; rfl) (Steps.refl _) (a := b101) (argsL := [(.int (400 : Int32)), (.ref ea)]) (rest := [(.ref b101)]) (lenOf pd_0 rfl) rfl (by show 2 * 0 + _ ≤ _; exact Nat.le_of_eq rfl) (hb hby d5_10) (fun _ _ => ⟨rfl, e105, (by decide : 1 + 0 ≤ _), (by decide : 2 + 0 ≤ _)⟩)
  dsimp only [Pt.U, Pt.locs, Pt.cells, Pt.slots] at X107 l107 y107 z107 st107 hQ107
  subst l107 y107 z107
  obtain ⟨rfl, Nq107, K107, R107_1, R107_2⟩ := hQ107
  have N107 := Fr.app N0 Nq107
  have f109 : Exa Z T107.heap b101 "com/example/enclav/enclav/tam/Reply" := (A101.keep K107)
  obtain ⟨fs, hr, hrun, hended, hW, hsame⟩ := X107.leave (v := some (.ref b101)) (fun h => by rw [Bd.returns] at h; cases h)
  refine ⟨_, _, pre0 _ ?_, hrun, hended, _, _, rfl, ?_, ⟨_, rfl⟩, hW, hsame.mono (by decide) (by decide)⟩
  · skip
    show Steps p.tables e below (s₁.setTop (mkF m 0 #[] [])) _
    refine st101 _ ?_
    show Steps p.tables e below (T101.setTop (mkF m 3 #[] [(.ref b101)])) _
    refine XS.dup X101.here hx rfl (hb hby d5_3) rfl rfl ?_
    show Steps p.tables e below (T101.setTop (mkF m 4 #[] [(.ref b101), (.ref b101)])) _
    refine XS.sipush X101.here hx rfl (hb hby d5_4) ?_
    show Steps p.tables e below (T101.setTop (mkF m 7 #[] [(.int (400 : Int32)), (.ref b101), (.ref b101)])) _
    refine st105 _ ?_
    show Steps p.tables e below (T105.setTop (mkF m 10 #[] [(.ref ea), (.int (400 : Int32)), (.ref b101), (.ref b101)])) _
    refine st107.trans ?_
    show Steps p.tables e below (T107.setTop (mkF m 13 #[] [(.ref b101)])) _
    jvm_step X107.here [X107.here.top, hx, (hb hby d5_13), X107.method', Bd.returns, Value.isRef, FieldType.isReference]
    first | (intro acts; rw [hr _ acts rfl rfl rfl]) | rw [hr _ _ rfl rfl rfl]
    exact Steps.refl _
  · show Q5 Z ea h0 n0 _ T107.heap _
    exact ⟨b101, rfl, N107, (((Keep.refl h0 []).ext E101).trans K107 (allS (P := (fun x => x ∈ [] ∨ h0.size ≤ x)) (Or.inr (Nat.le_trans (Nat.le_refl _) (Nat.le_of_eq g101.symm))) all0)), (Nat.le_trans (Nat.le_refl _) (Nat.le_of_eq g101.symm)), f109, R107_1, R107_2⟩
theorem d1_0 : decode prog_63_method_2_code 0 = .ok (.new 8, 3) := by decide +kernel
theorem d1_3 : decode prog_63_method_2_code 3 = .ok (.dup, 1) := by decide +kernel
theorem d1_4 : decode prog_63_method_2_code 4 = .ok (.sipush 200, 3) := by decide +kernel
theorem d1_7 : decode prog_63_method_2_code 7 = .ok (.aload_n 0, 1) := by decide +kernel
theorem d1_8 : decode prog_63_method_2_code 8 = .ok (.invokespecial 17, 3) := by decide +kernel
theorem d1_11 : decode prog_63_method_2_code 11 = .ok (.areturn, 1) := by decide +kernel
theorem ef_1 (m : MethodId) (a1 : Addr) : entryFrame m #[(.ref a1)] 1 = mkF m 0 #[.val (.ref a1)] [] := by first | (simp [entryFrame, mkF, argsToLocals, Value.category]; done) | rfl
def Q1 (Z : State) (a1 : Addr) (h0 : Heap) (n0 : Nat) (v : Option Value) (h : Heap) (L : List Loc) : Prop := ∃ (b : Addr), v = some (.ref b) ∧ Fr n0 L ∧ Keep h0 h [] ∧ h0.size ≤ b ∧ Exa Z h b "com/example/enclav/enclav/tam/Reply" ∧ Fld Z h b "com/example/enclav/enclav/tam/Reply" "status" "I" (.int (200 : Int32)) ∧ Fld Z h b "com/example/enclav/enclav/tam/Reply" "message" "[B" (.ref a1)
set_option maxRecDepth 65536 in
set_option maxHeartbeats 40000000 in
theorem rm1 (l : Launch) (Z : State) (a0 : Array Value) (hw : ∀ d ∈ tables_1, d.before a0 Z = true) (ws : List Jvm.Cond) (a1 : Addr) (h0 : Heap) (n0 : Nat) (Z0 : n0 ≤ h0.size) :
    MetFree l (⟨"com/example/enclav/enclav/tam/Reply", "message", "([B)Lcom/example/enclav/enclav/tam/Reply;"⟩ : MethodName) (head1 (Jvm.Cond.code (⟨"com/example/enclav/enclav/tam/Reply", "message", "([B)Lcom/example/enclav/enclav/tam/Reply;"⟩ : MethodName) prog_63_method_2_code 1 (some (.object "com/example/enclav/enclav/tam/Reply")) :: ws) ({ frames := 2, cells := 1, slots := 2, locals := 27 } : Room)) (fun a U => a = #[(.ref a1)] ∧ Z.Warmed39 U.vm ∧ U.heap = h0) (fun _ _ _ _ _ => True) (fun _ U o U' => ∃ v L, o = .returned v ∧ Q1 Z a1 h0 n0 v U'.heap L ∧ FrameEnd U o U' L ({ frames := 2, cells := 1, slots := 2, locals := 27 } : Room).cells ({ frames := 2, cells := 1, slots := 2, locals := 27 } : Room).slots) := by
  refine MetFree.of_bodySF (plainFor_of_name pn_com_example_enclav_enclav_tam_Reply) hisR ?_
  intro p e s m args below meth c s₁ Bd hml0 hP hK
  obtain ⟨rfl, hZ, hh⟩ := hP
  have hx := Bd.exec
  have hby := Bd.bytes
  have hml : c.maxLocals = 1 := hml0
  have hown : s.vm.findClass "com/example/enclav/enclav/tam/Reply" = some m.cls := findClass_of_methodNamed Bd.named
  have hnm := (name_of_methodNamed Bd.named Bd.method).1
  have X0 : Stand p l e ({ frames := 2, cells := 1, slots := 2, locals := 27 } : Room) s m #[(.ref a1)] below meth c s₁ [] 0 0 := Stand.of_body Bd
  have e0 : s₁.heap = h0 := by rw [← hh, Bd.state]; rfl
  have N0 := Fr.nil n0
  have pre0 : ∀ t, Steps p.tables e below (s₁.setTop (mkF m 0 #[.val (.ref a1)] [])) t → Steps p.tables e below (s₁.setTop (entryFrame m #[(.ref a1)] 1)) t := fun t k => castTop (ef_1 m a1) k
  obtain ⟨T101, h101, X101, e101, E101, A101, D101, -, st101⟩ := newO X0 hx hZ hown (hw _ (List.mem_of_getElem? (i := 5) rfl)) (hw _ (List.mem_of_getElem? (i := 6) rfl)) (hw _ (List.mem_of_getElem? (i := 3) rfl)) e0 (g := (mkF m 0 #[.val (.ref a1)] [])) rfl (hb hby d1_0) (by decide) (by decide)
  obtain ⟨b101, g101⟩ : ∃ z, z = h0.size := ⟨_, rfl⟩
  rw [← g101] at A101 D101 st101
  have F102 : Fld Z h101 b101 "com/example/enclav/enclav/tam/Reply" "status" "I" (.int (0 : Int32)) := D101 (Or.inr (hw _ (List.mem_of_getElem? (i := 14) rfl))) (ty := .int) (by decide)
  have F103 : Fld Z h101 b101 "com/example/enclav/enclav/tam/Reply" "message" "[B" .null := D101 (Or.inr (hw _ (List.mem_of_getElem? (i := 16) rfl))) (ty := (.array .byte)) (by decide)
  have g104 : n0 ≤ b101 := Nat.le_trans Z0 (Nat.le_of_eq g101.symm)
  have z106 : n0 ≤ h101.size := (Nat.le_trans Z0 E101.1)
  obtain ⟨_, _, ⟨T105, L105, k105, n105⟩, -, X105, ⟨Lc105, hQ105, l105, y105, z105⟩, st105⟩ := X101.specialBack hx (y := (⟨"com/example/enclav/enclav/tam/Reply", "<init>", "(I[B)V"⟩ : MethodName)) rfl hown (mvT hZ (hw _ (List.mem_of_getElem? (i := 7) rfl))) (mvT hZ (hw _ (List.mem_of_getElem? (i := 8) rfl))) (mvT hZ (hw _ (List.mem_of_getElem? (i := 9) rfl))) (by decide) (backOf (W := 1) (rm2 l Z a0 hw [] b101 (200 : Int32) a1 (.int (0 : Int32)) .null h101 n0 z106 A101 F102 F103 g104) hZ (hw _ (List.mem_of_getElem? (i := 9) rfl)) (hw _ (List.mem_of_getElem? (i := 3) rfl)) (by decide) (by decide)) (g := (mkF m 8 #[.val (.ref a1)] [(.ref a1), (.int (200 : Int32)), (.ref b101), (.ref b101)])) rfl (by rw [hml]; rfl) (Steps.refl _) (a := b101) (argsL := [(.int (200 : Int32)), (.ref a1)]) (rest := [(.ref b101)]) (lenOf pd_0 rfl) rfl (by show 2 * 0 + _ ≤ _; exact Nat.le_of_eq rfl) (hb hby d1_8) (fun _ _ => ⟨rfl, e101, (by decide : 1 + 0 ≤ _), (by decide : 2 + 0 ≤ _)⟩)
  dsimp only [Pt.U, Pt.locs, Pt.cells, Pt.slots] at X105 l105 y105 z105 st105 hQ105
  subst l105 y105 z105
  obtain ⟨rfl, Nq105, K105, R105_1, R105_2⟩ := hQ105
  have N105 := Fr.app N0 Nq105
  have f107 : Exa Z T105.heap b101 "com/example/enclav/enclav/tam/Reply" := (A101.keep K105)
  obtain ⟨fs, hr, hrun, hended, hW, hsame⟩ := X105.leave (v := some (.ref b101)) (fun h => by rw [Bd.returns] at h; cases h)
  refine ⟨_, _, pre0 _ ?_, hrun, hended, _, _, rfl, ?_, ⟨_, rfl⟩, hW, hsame.mono (by decide) (by decide)⟩
  · skip
    show Steps p.tables e below (s₁.setTop (mkF m 0 #[.val (.ref a1)] [])) _
    refine st101 _ ?_
    show Steps p.tables e below (T101.setTop (mkF m 3 #[.val (.ref a1)] [(.ref b101)])) _
    refine XS.dup X101.here hx rfl (hb hby d1_3) rfl rfl ?_
    show Steps p.tables e below (T101.setTop (mkF m 4 #[.val (.ref a1)] [(.ref b101), (.ref b101)])) _
    refine XS.sipush X101.here hx rfl (hb hby d1_4) ?_
    show Steps p.tables e below (T101.setTop (mkF m 7 #[.val (.ref a1)] [(.int (200 : Int32)), (.ref b101), (.ref b101)])) _
    refine XS.aloadN X101.here hx rfl (hb hby d1_7) rfl rfl ?_
    show Steps p.tables e below (T101.setTop (mkF m 8 #[.val (.ref a1)] [(.ref a1), (.int (200 : Int32)), (.ref b101), (.ref b101)])) _
    refine st105.trans ?_
    show Steps p.tables e below (T105.setTop (mkF m 11 #[.val (.ref a1)] [(.ref b101)])) _
    jvm_step X105.here [X105.here.top, hx, (hb hby d1_11), X105.method', Bd.returns, Value.isRef, FieldType.isReference]
    first | (intro acts; rw [hr _ acts rfl rfl rfl]) | rw [hr _ _ rfl rfl rfl]
    exact Steps.refl _
  · show Q1 Z a1 h0 n0 _ T105.heap _
    exact ⟨b101, rfl, N105, (((Keep.refl h0 []).ext E101).trans K105 (allS (P := (fun x => x ∈ [] ∨ h0.size ≤ x)) (Or.inr (Nat.le_trans (Nat.le_refl _) (Nat.le_of_eq g101.symm))) all0)), (Nat.le_trans (Nat.le_refl _) (Nat.le_of_eq g101.symm)), f107, R105_1, R105_2⟩
theorem d7_0 : decode prog_63_method_5_code 0 = .ok (.aload_n 0, 1) := by decide +kernel
theorem d7_1 : decode prog_63_method_5_code 1 = .ok (.getfield 7, 3) := by decide +kernel
theorem d7_4 : decode prog_63_method_5_code 4 = .ok (.ireturn, 1) := by decide +kernel
theorem ef_7 (m : MethodId) (a1 : Addr) : entryFrame m #[(.ref a1)] 1 = mkF m 0 #[.val (.ref a1)] [] := by first | (simp [entryFrame, mkF, argsToLocals, Value.category]; done) | rfl
def Q7 (Z : State) (a1 : Addr) (w1 : Int32) (h0 : Heap) (n0 : Nat) (v : Option Value) (h : Heap) (L : List Loc) : Prop := v = some (.int w1) ∧ Fr n0 L ∧ h = h0
set_option maxRecDepth 65536 in
set_option maxHeartbeats 40000000 in
theorem rm7 (l : Launch) (Z : State) (a0 : Array Value) (hw : ∀ d ∈ tables_1, d.before a0 Z = true) (ws : List Jvm.Cond) (a1 : Addr) (w1 : Int32) (h0 : Heap) (n0 : Nat) (Z0 : n0 ≤ h0.size) (H0 : Fld Z h0 a1 "com/example/enclav/enclav/tam/Reply" "status" "I" (.int w1)) :
    MetFree l (⟨"com/example/enclav/enclav/tam/Reply", "status", "()I"⟩ : MethodName) (head1 (Jvm.Cond.code (⟨"com/example/enclav/enclav/tam/Reply", "status", "()I"⟩ : MethodName) prog_63_method_5_code 1 (some .int) :: ws) ({ frames := 0, cells := 0, slots := 0, locals := 0 } : Room)) (fun a U => a = #[(.ref a1)] ∧ Z.Warmed39 U.vm ∧ U.heap = h0) (fun _ _ _ _ _ => True) (fun _ U o U' => ∃ v L, o = .returned v ∧ Q7 Z a1 w1 h0 n0 v U'.heap L ∧ FrameEnd U o U' L ({ frames := 0, cells := 0, slots := 0, locals := 0 } : Room).cells ({ frames := 0, cells := 0, slots := 0, locals := 0 } : Room).slots) := by
  refine MetFree.of_bodySF (plainFor_of_name pn_com_example_enclav_enclav_tam_Reply) hisR ?_
  intro p e s m args below meth c s₁ Bd hml0 hP hK
  obtain ⟨rfl, hZ, hh⟩ := hP
  have hx := Bd.exec
  have hby := Bd.bytes
  have hml : c.maxLocals = 1 := hml0
  have hown : s.vm.findClass "com/example/enclav/enclav/tam/Reply" = some m.cls := findClass_of_methodNamed Bd.named
  have hnm := (name_of_methodNamed Bd.named Bd.method).1
  have X0 : Stand p l e ({ frames := 0, cells := 0, slots := 0, locals := 0 } : Room) s m #[(.ref a1)] below meth c s₁ [] 0 0 := Stand.of_body Bd
  have e0 : s₁.heap = h0 := by rw [← hh, Bd.state]; rfl
  have N0 := Fr.nil n0
  have pre0 : ∀ t, Steps p.tables e below (s₁.setTop (mkF m 0 #[.val (.ref a1)] [])) t → Steps p.tables e below (s₁.setTop (entryFrame m #[(.ref a1)] 1)) t := fun t k => castTop (ef_7 m a1) k
  obtain ⟨T101, X101, e101, st101⟩ := getF X0 hx hZ hown (host := "") (Or.inl (hw _ (List.mem_of_getElem? (i := 13) rfl))) Via.refl e0 H0 (g := (mkF m 1 #[.val (.ref a1)] [(.ref a1)])) rfl rfl (hb hby d7_1)
  obtain ⟨fs, hr, hrun, hended, hW, hsame⟩ := X101.leave (v := some (.int w1)) (fun h => by rw [Bd.returns] at h; cases h)
  refine ⟨_, _, pre0 _ ?_, hrun, hended, _, _, rfl, ?_, ⟨_, rfl⟩, hW, hsame.mono (by decide) (by decide)⟩
  · skip
    show Steps p.tables e below (s₁.setTop (mkF m 0 #[.val (.ref a1)] [])) _
    refine XS.aloadN X0.here hx rfl (hb hby d7_0) rfl rfl ?_
    show Steps p.tables e below (s₁.setTop (mkF m 1 #[.val (.ref a1)] [(.ref a1)])) _
    refine st101 _ ?_
    show Steps p.tables e below (T101.setTop (mkF m 4 #[.val (.ref a1)] [(.int w1)])) _
    exact retI X101 hx Bd.returns (hb hby d7_4) hr
  · show Q7 Z a1 w1 h0 n0 _ T101.heap _
    rw [e101]
    exact ⟨rfl, N0, rfl⟩
theorem d6_0 : decode prog_63_method_6_code 0 = .ok (.aload_n 0, 1) := by decide +kernel
theorem d6_1 : decode prog_63_method_6_code 1 = .ok (.getfield 13, 3) := by decide +kernel
theorem d6_4 : decode prog_63_method_6_code 4 = .ok (.invokevirtual 23, 3) := by decide +kernel
theorem d6_7 : decode prog_63_method_6_code 7 = .ok (.checkcast 24, 3) := by decide +kernel
theorem d6_10 : decode prog_63_method_6_code 10 = .ok (.areturn, 1) := by decide +kernel
theorem ef_6 (m : MethodId) (a1 : Addr) : entryFrame m #[(.ref a1)] 1 = mkF m 0 #[.val (.ref a1)] [] := by first | (simp [entryFrame, mkF, argsToLocals, Value.category]; done) | rfl
def Q6 (Z : State) (a1 : Addr) (ea : Addr) (ek : ClassId) (h0 : Heap) (n0 : Nat) (v : Option Value) (h : Heap) (L : List Loc) : Prop := ∃ (b : Addr), v = some (.ref b) ∧ Fr n0 L ∧ Keep h0 h [] ∧ h0.size ≤ b ∧ Arv Z h b ek .byte (0 : Int32) [] (.int (0 : Int32))
set_option maxRecDepth 65536 in
set_option maxHeartbeats 40000000 in
theorem rm6 (l : Launch) (Z : State) (a0 : Array Value) (hw : ∀ d ∈ tables_1, d.before a0 Z = true) (ws : List Jvm.Cond) (a1 : Addr) (ea : Addr) (ek : ClassId) (h0 : Heap) (n0 : Nat) (Z0 : n0 ≤ h0.size) (H0 : Fld Z h0 a1 "com/example/enclav/enclav/tam/Reply" "message" "[B" (.ref ea)) (H1 : Arv Z h0 ea ek .byte (0 : Int32) [] (.int (0 : Int32))) (H2 : Exa Z h0 ea "[B") :
    MetFree l (⟨"com/example/enclav/enclav/tam/Reply", "message", "()[B"⟩ : MethodName) (head1 (Jvm.Cond.code (⟨"com/example/enclav/enclav/tam/Reply", "message", "()[B"⟩ : MethodName) prog_63_method_6_code 1 (some (.array .byte)) :: ws) ({ frames := 1, cells := 1, slots := 0, locals := 14 } : Room)) (fun a U => a = #[(.ref a1)] ∧ Z.Warmed39 U.vm ∧ U.heap = h0) (fun _ _ _ _ _ => True) (fun _ U o U' => ∃ v L, o = .returned v ∧ Q6 Z a1 ea ek h0 n0 v U'.heap L ∧ FrameEnd U o U' L ({ frames := 1, cells := 1, slots := 0, locals := 14 } : Room).cells ({ frames := 1, cells := 1, slots := 0, locals := 14 } : Room).slots) := by
  refine MetFree.of_bodySF (plainFor_of_name pn_com_example_enclav_enclav_tam_Reply) hisR ?_
  intro p e s m args below meth c s₁ Bd hml0 hP hK
  obtain ⟨rfl, hZ, hh⟩ := hP
  have hx := Bd.exec
  have hby := Bd.bytes
  have hml : c.maxLocals = 1 := hml0
  have hown : s.vm.findClass "com/example/enclav/enclav/tam/Reply" = some m.cls := findClass_of_methodNamed Bd.named
  have hnm := (name_of_methodNamed Bd.named Bd.method).1
  have X0 : Stand p l e ({ frames := 1, cells := 1, slots := 0, locals := 14 } : Room) s m #[(.ref a1)] below meth c s₁ [] 0 0 := Stand.of_body Bd
  have e0 : s₁.heap = h0 := by rw [← hh, Bd.state]; rfl
  have N0 := Fr.nil n0
  have pre0 : ∀ t, Steps p.tables e below (s₁.setTop (mkF m 0 #[.val (.ref a1)] [])) t → Steps p.tables e below (s₁.setTop (entryFrame m #[(.ref a1)] 1)) t := fun t k => castTop (ef_6 m a1) k
  obtain ⟨T101, X101, e101, st101⟩ := getF X0 hx hZ hown (host := "") (Or.inl (hw _ (List.mem_of_getElem? (i := 15) rfl))) Via.refl e0 H0 (g := (mkF m 1 #[.val (.ref a1)] [(.ref a1)])) rfl rfl (hb hby d6_1)
  obtain ⟨T102, h102, X102, e102, E102, V102, Qe102, st102⟩ := cloneH X101 hx hZ hown (hw _ (List.mem_of_getElem? (i := 30) rfl)) (hw _ (List.mem_of_getElem? (i := 31) rfl)) (hw _ (List.mem_of_getElem? (i := 35) rfl)) (hw _ (List.mem_of_getElem? (i := 33) rfl)) (hw _ (List.mem_of_getElem? (i := 34) rfl)) (hw _ (List.mem_of_getElem? (i := 36) rfl)) e101 (Arv.arh H1) H2 (g := (mkF m 4 #[.val (.ref a1)] [(.ref ea)])) rfl (by rw [hml]; rfl) rfl (hb hby d6_4) (by decide) (W := 0) (cap := 0) (by show 2 * 0 + _ ≤ _; exact Nat.le_of_eq rfl) (by decide) (by decide) (by decide) (by decide)
  obtain ⟨b102, g102⟩ : ∃ z, z = h0.size := ⟨_, rfl⟩
  rw [← g102] at V102 Qe102 st102
  have V102' : Arv Z h102 b102 ek .byte (0 : Int32) [] (.int (0 : Int32)) := V102
  obtain ⟨T103, X103, e103, st103⟩ := castY X102 hx hZ hown (hw _ (List.mem_of_getElem? (i := 37) rfl)) e102 (Ins.self Qe102) (g := (mkF m 7 #[.val (.ref a1)] [(.ref b102)])) rfl rfl (hb hby d6_7)
  obtain ⟨fs, hr, hrun, hended, hW, hsame⟩ := X103.leave (v := some (.ref b102)) (fun h => by rw [Bd.returns] at h; cases h)
  refine ⟨_, _, pre0 _ ?_, hrun, hended, _, _, rfl, ?_, ⟨_, rfl⟩, hW, hsame.mono (by decide) (by decide)⟩
  · skip
    show Steps p.tables e below (s₁.setTop (mkF m 0 #[.val (.ref a1)] [])) _
    refine XS.aloadN X0.here hx rfl (hb hby d6_0) rfl rfl ?_
    show Steps p.tables e below (s₁.setTop (mkF m 1 #[.val (.ref a1)] [(.ref a1)])) _
    refine st101 _ ?_
    show Steps p.tables e below (T101.setTop (mkF m 4 #[.val (.ref a1)] [(.ref ea)])) _
    refine st102 _ ?_
    show Steps p.tables e below (T102.setTop (mkF m 7 #[.val (.ref a1)] [(.ref b102)])) _
    refine st103 _ ?_
    show Steps p.tables e below (T103.setTop (mkF m 10 #[.val (.ref a1)] [(.ref b102)])) _
    jvm_step X103.here [X103.here.top, hx, (hb hby d6_10), X103.method', Bd.returns, Value.isRef, FieldType.isReference]
    first | (intro acts; rw [hr _ acts rfl rfl rfl]) | rw [hr _ _ rfl rfl rfl]
    exact Steps.refl _
  · show Q6 Z a1 ea ek h0 n0 _ T103.heap _
    rw [e103]
    exact ⟨b102, rfl, N0, ((Keep.refl h0 []).ext E102), (Nat.le_trans (Nat.le_refl _) (Nat.le_of_eq g102.symm)), V102'⟩
theorem pd_1 : parseMethodDescriptor "([B)Lcom/example/enclav/enclav/tam/Reply;" = some ⟨[(.array .byte)], some (.object "com/example/enclav/enclav/tam/Reply")⟩ := by decide +kernel
theorem pd_2 : parseMethodDescriptor "()Lcom/example/enclav/enclav/tam/Reply;" = some ⟨[], some (.object "com/example/enclav/enclav/tam/Reply")⟩ := by decide +kernel
theorem pd_3 : parseMethodDescriptor "()[B" = some ⟨[], some (.array .byte)⟩ := by decide +kernel
theorem pd_4 : parseMethodDescriptor "()I" = some ⟨[], some .int⟩ := by decide +kernel
theorem pn_com_example_enclav_enclav_tam_ReplyEndPinLaw : plainName "com/example/enclav/enclav/tam/ReplyEndPinLaw" = true := by first | (simp [plainName, overriddenIn]; done) | decide +kernel
theorem ef_0 (m : MethodId) (p1 : Int32) : entryFrame m #[(.int p1)] maxLocals = mkF m 0 #[.val (.int p1), .unset, .unset, .unset, .unset, .unset, .unset, .unset] [] := by first | (simp [entryFrame, mkF, argsToLocals, Value.category, maxLocals]; done) | rfl
def Q0 (Z : State) (p1 : Int32) (ea : Addr) (ek : ClassId) (h0 : Heap) (n0 : Nat) (v : Option Value) (h : Heap) (L : List Loc) : Prop := v = some (.int (1 : Int32)) ∧ Fr n0 L
set_option maxRecDepth 65536 in
set_option maxHeartbeats 40000000 in
theorem rm0 (l : Launch) (Z : State) (a0 : Array Value) (hw : ∀ d ∈ tables_1, d.before a0 Z = true) (ws : List Jvm.Cond) (p1 : Int32) (ea : Addr) (ek : ClassId) (h0 : Heap) (n0 : Nat) (Z0 : n0 ≤ h0.size) (H0 : Sta Z h0 "com/example/enclav/enclav/tam/Reply" "EMPTY" "[B" (.ref ea)) (H1 : Exa Z h0 ea "[B") (H2 : Arv Z h0 ea ek .byte (0 : Int32) [] (.int (0 : Int32))) :
    MetFree l x (head1 (Jvm.Cond.code x code maxLocals ret :: ws) room_1) (fun a U => a = #[(.int p1)] ∧ Z.Warmed39 U.vm ∧ U.heap = h0) (fun _ _ _ _ _ => True) (fun _ U o U' => ∃ v L, o = .returned v ∧ Q0 Z p1 ea ek h0 n0 v U'.heap L ∧ FrameEnd U o U' L room_1.cells room_1.slots) := by
  refine MetFree.of_bodySF (plainFor_of_name pn_com_example_enclav_enclav_tam_ReplyEndPinLaw) hisR ?_
  intro p e s m args below meth c s₁ Bd hml0 hP hK
  obtain ⟨rfl, hZ, hh⟩ := hP
  have hx := Bd.exec
  have hby := Bd.bytes
  have hml : c.maxLocals = 8 := hml0
  have hown : s.vm.findClass "com/example/enclav/enclav/tam/ReplyEndPinLaw" = some m.cls := findClass_of_methodNamed Bd.named
  have hnm := (name_of_methodNamed Bd.named Bd.method).1
  have X0 : Stand p l e room_1 s m #[(.int p1)] below meth c s₁ [] 0 0 := Stand.of_body Bd
  have e0 : s₁.heap = h0 := by rw [← hh, Bd.state]; rfl
  have N0 := Fr.nil n0
  have pre0 : ∀ t, Steps p.tables e below (s₁.setTop (mkF m 0 #[.val (.int p1), .unset, .unset, .unset, .unset, .unset, .unset, .unset] [])) t → Steps p.tables e below (s₁.setTop (entryFrame m #[(.int p1)] maxLocals)) t := fun t k => castTop (ef_0 m p1) k
  obtain ⟨T101, h101, k101, X101, e101, E101, A101, Qe101, st101⟩ := newPE X0 hx hZ (hw _ (List.mem_of_getElem? (i := 0) rfl)) e0 (g := (mkF m 1 #[.val (.int p1), .unset, .unset, .unset, .unset, .unset, .unset, .unset] [(.int (1 : Int32))])) rfl (hb hby at_1) rfl (by decide) (cap := 1) (by decide) (by decide) (by decide) (by decide) (ad := "[B") (by decide)
  obtain ⟨b101, g101⟩ : ∃ z, z = h0.size := ⟨_, rfl⟩
  rw [← g101] at A101 Qe101 st101
  have V101 : Arv Z h101 b101 k101 .byte (1 : Int32) [(.int (0 : Int32))] (.int (0 : Int32)) := (Arv.new A101 (by decide)).pad (pad_rep [] (.int (0 : Int32)) 1)
  obtain ⟨cl102, Ar102, qc102, S102, M102, Hh102, G102⟩ := id V101
  have hin102 : ¬ ((0 : Int32) < 0 ∨ cl102.slots.size ≤ ((0 : Int32)).toNatClampNeg) := inb_of S102 ⟨by decide, by decide⟩
  obtain ⟨T102, h102, X102, e102, W102, st102⟩ := stB X101 hx hZ e101 Ar102 (j := (0 : Int32)) hin102 (g := (mkF m 7 #[.val (.int p1), .unset, .unset, .unset, .unset, .unset, .unset, .unset] [(.int (p1.toInt8.toInt32)), (.int (0 : Int32)), (.ref b101), (.ref b101)])) rfl rfl (hb hby at_7)
  have V102 : Arv Z h102 b101 k101 .byte (1 : Int32) [(.int (nar .byte (p1.toInt8.toInt32)))] (.int (0 : Int32)) := Arv.set Ar102 qc102 S102 M102 Hh102 G102 (fits_nar_byte _) W102 0 rfl (by first | decide | (simp; done))
  have g103 : n0 ≤ b101 := Nat.le_trans Z0 (Nat.le_of_eq g101.symm)
  have N102 := Fr.snoc X102 N0 g103
  have z105 : n0 ≤ h102.size := (Nat.le_trans (Nat.le_trans Z0 E101.1) (Nat.le_of_eq W102.size.symm))
  obtain ⟨_, _, ⟨T104, L104, k104, n104⟩, -, X104, ⟨Lc104, hQ104, l104, y104, z104⟩, st104⟩ := Jvm.LawKit.callS X102 hx (y := (⟨"com/example/enclav/enclav/tam/Reply", "message", "([B)Lcom/example/enclav/enclav/tam/Reply;"⟩ : MethodName)) hown (mvT hZ (hw _ (List.mem_of_getElem? (i := 1) rfl))) (mvT hZ (hw _ (List.mem_of_getElem? (i := 2) rfl))) (mvT hZ (hw _ (List.mem_of_getElem? (i := 3) rfl))) (mvT hZ (hw _ (List.mem_of_getElem? (i := 4) rfl))) (by decide) (backOf (W := 0) (rm1 l Z a0 hw [] b101 h102 n0 z105) hZ (hw _ (List.mem_of_getElem? (i := 4) rfl)) (hw _ (List.mem_of_getElem? (i := 3) rfl)) (by decide) (by decide)) (g := (mkF m 10 #[.val (.int p1), .val (.ref b101), .unset, .unset, .unset, .unset, .unset, .unset] [(.ref b101)])) rfl (by rw [hml]; rfl) (argsL := [(.ref b101)]) (rest := []) (lenOf pd_1 rfl) rfl (by show 2 * 0 + _ ≤ _; exact Nat.le_of_eq rfl) (hb hby at_10) (fun _ _ => ⟨rfl, e102, (by decide : 1 + 1 ≤ _), (by decide : 1 + 2 ≤ _)⟩)
  dsimp only [Pt.U, Pt.locs, Pt.cells, Pt.slots] at X104 l104 y104 z104 st104 hQ104
  subst l104 y104 z104
  obtain ⟨b104, rfl, Nq104, K104, R104_1, R104_2, R104_3, R104_4⟩ := hQ104
  have N104 := Fr.app N102 Nq104
  have f106 : Sta Z T104.heap "com/example/enclav/enclav/tam/Reply" "EMPTY" "[B" (.ref ea) := (own_sta_keep ((H0.ext E101).wr W102) K104 own_pl0)
  have z108 : n0 ≤ T104.heap.size := (Nat.le_trans z105 K104.1)
  obtain ⟨_, _, ⟨T107, L107, k107, n107⟩, -, X107, ⟨Lc107, hQ107, l107, y107, z107⟩, st107⟩ := Jvm.LawKit.callS X104 hx (y := (⟨"com/example/enclav/enclav/tam/Reply", "end", "()Lcom/example/enclav/enclav/tam/Reply;"⟩ : MethodName)) hown (mvT hZ (hw _ (List.mem_of_getElem? (i := 17) rfl))) (mvT hZ (hw _ (List.mem_of_getElem? (i := 18) rfl))) (mvT hZ (hw _ (List.mem_of_getElem? (i := 3) rfl))) (mvT hZ (hw _ (List.mem_of_getElem? (i := 19) rfl))) (by decide) (backOf (W := 0) (rm4 l Z a0 hw [] ea T104.heap n0 z108 f106) hZ (hw _ (List.mem_of_getElem? (i := 19) rfl)) (hw _ (List.mem_of_getElem? (i := 3) rfl)) (by decide) (by decide)) (g := (mkF m 14 #[.val (.int p1), .val (.ref b101), .val (.ref b104), .unset, .unset, .unset, .unset, .unset] [])) rfl (by rw [hml]; rfl) (argsL := []) (rest := []) (lenOf pd_2 rfl) rfl (by show 2 * 0 + _ ≤ _; exact Nat.le_of_eq rfl) (hb hby at_14) (fun _ _ => ⟨rfl, rfl, (by decide : 2 + 1 ≤ _), (by decide : 3 + 2 ≤ _)⟩)
  dsimp only [Pt.U, Pt.locs, Pt.cells, Pt.slots] at X107 l107 y107 z107 st107 hQ107
  subst l107 y107 z107
  obtain ⟨b107, rfl, Nq107, K107, R107_1, R107_2, R107_3, R107_4⟩ := hQ107
  have N107 := Fr.app N104 Nq107
  have f109 : Sta Z T107.heap "com/example/enclav/enclav/tam/Reply" "EMPTY" "[B" (.ref ea) := (own_sta_keep f106 K107 own_pl0)
  have z111 : n0 ≤ T107.heap.size := (Nat.le_trans z108 K107.1)
  obtain ⟨_, _, ⟨T110, L110, k110, n110⟩, -, X110, ⟨Lc110, hQ110, l110, y110, z110⟩, st110⟩ := Jvm.LawKit.callS X107 hx (y := (⟨"com/example/enclav/enclav/tam/Reply", "refused", "()Lcom/example/enclav/enclav/tam/Reply;"⟩ : MethodName)) hown (mvT hZ (hw _ (List.mem_of_getElem? (i := 22) rfl))) (mvT hZ (hw _ (List.mem_of_getElem? (i := 23) rfl))) (mvT hZ (hw _ (List.mem_of_getElem? (i := 3) rfl))) (mvT hZ (hw _ (List.mem_of_getElem? (i := 24) rfl))) (by decide) (backOf (W := 0) (rm5 l Z a0 hw [] ea T107.heap n0 z111 f109) hZ (hw _ (List.mem_of_getElem? (i := 24) rfl)) (hw _ (List.mem_of_getElem? (i := 3) rfl)) (by decide) (by decide)) (g := (mkF m 18 #[.val (.int p1), .val (.ref b101), .val (.ref b104), .val (.ref b107), .unset, .unset, .unset, .unset] [])) rfl (by rw [hml]; rfl) (argsL := []) (rest := []) (lenOf pd_2 rfl) rfl (by show 2 * 0 + _ ≤ _; exact Nat.le_of_eq rfl) (hb hby at_18) (fun _ _ => ⟨rfl, rfl, (by decide : 3 + 1 ≤ _), (by decide : 5 + 2 ≤ _)⟩)
  dsimp only [Pt.U, Pt.locs, Pt.cells, Pt.slots] at X110 l110 y110 z110 st110 hQ110
  subst l110 y110 z110
  obtain ⟨b110, rfl, Nq110, K110, R110_1, R110_2, R110_3, R110_4⟩ := hQ110
  have N110 := Fr.app N107 Nq110
  have f112 : Sta Z T110.heap "com/example/enclav/enclav/tam/Reply" "EMPTY" "[B" (.ref ea) := (own_sta_keep f109 K110 own_pl0)
  have z114 : n0 ≤ T110.heap.size := (Nat.le_trans z111 K110.1)
  obtain ⟨_, _, ⟨T113, L113, k113, n113⟩, -, X113, ⟨Lc113, hQ113, l113, y113, z113⟩, st113⟩ := Jvm.LawKit.callS X110 hx (y := (⟨"com/example/enclav/enclav/tam/Reply", "end", "()Lcom/example/enclav/enclav/tam/Reply;"⟩ : MethodName)) hown (mvT hZ (hw _ (List.mem_of_getElem? (i := 17) rfl))) (mvT hZ (hw _ (List.mem_of_getElem? (i := 18) rfl))) (mvT hZ (hw _ (List.mem_of_getElem? (i := 3) rfl))) (mvT hZ (hw _ (List.mem_of_getElem? (i := 19) rfl))) (by decide) (backOf (W := 0) (rm4 l Z a0 hw [] ea T110.heap n0 z114 f112) hZ (hw _ (List.mem_of_getElem? (i := 19) rfl)) (hw _ (List.mem_of_getElem? (i := 3) rfl)) (by decide) (by decide)) (g := (mkF m 23 #[.val (.int p1), .val (.ref b101), .val (.ref b104), .val (.ref b107), .val (.ref b110), .unset, .unset, .unset] [])) rfl (by rw [hml]; rfl) (argsL := []) (rest := []) (lenOf pd_2 rfl) rfl (by show 2 * 0 + _ ≤ _; exact Nat.le_of_eq rfl) (hb hby at_23) (fun _ _ => ⟨rfl, rfl, (by decide : 4 + 1 ≤ _), (by decide : 7 + 2 ≤ _)⟩)
  dsimp only [Pt.U, Pt.locs, Pt.cells, Pt.slots] at X113 l113 y113 z113 st113 hQ113
  subst l113 y113 z113
  obtain ⟨b113, rfl, Nq113, K113, R113_1, R113_2, R113_3, R113_4⟩ := hQ113
  have N113 := Fr.app N110 Nq113
  have f115 : Fld Z T113.heap b107 "com/example/enclav/enclav/tam/Reply" "message" "[B" (.ref ea) := ((R107_4.keep K110 nin0).keep K113 nin0)
  have ne116 : ea ≠ b101 := (Nat.ne_of_lt (Nat.lt_of_lt_of_le H1.lt (Nat.le_of_eq g101.symm)))
  have f117 : Arv Z T113.heap ea ek .byte (0 : Int32) [] (.int (0 : Int32)) := ((((((H2.ext E101).other W102 ne116).keep K104 nin0).keep K107 nin0).keep K110 nin0).keep K113 nin0)
  have f118 : Exa Z T113.heap ea "[B" := ((((((H1.ext E101).wr W102).keep K104).keep K107).keep K110).keep K113)
  have z120 : n0 ≤ T113.heap.size := (Nat.le_trans z114 K113.1)
  have f121 : Exa Z T113.heap b107 "com/example/enclav/enclav/tam/Reply" := ((R107_2.keep K110).keep K113)
  obtain ⟨cq119, kq119, q119a, q119b, q119c⟩ := isOf hZ rfl f121
  obtain ⟨_, _, ⟨T119, L119, k119, n119⟩, -, X119, ⟨Lc119, hQ119, l119, y119, z119⟩, st119⟩ := X113.virtualBack hx (y := (⟨"com/example/enclav/enclav/tam/Reply", "message", "()[B"⟩ : MethodName)) (z := (⟨"com/example/enclav/enclav/tam/Reply", "message", "()[B"⟩ : MethodName)) hown (mvT hZ (hw _ (List.mem_of_getElem? (i := 25) rfl))) (mvT hZ (hw _ (List.mem_of_getElem? (i := 26) rfl))) (notFace_of_selects (args := #[]) (mvT hZ (hw _ (List.mem_of_getElem? (i := 28) rfl)))) (mvT hZ (hw _ (List.mem_of_getElem? (i := 28) rfl))) (mvT hZ (hw _ (List.mem_of_getElem? (i := 27) rfl))) (by decide) (backOf (W := 0) (rm6 l Z a0 hw [] b107 ea ek T113.heap n0 z120 f115 f117 f118) hZ (hw _ (List.mem_of_getElem? (i := 29) rfl)) (hw _ (List.mem_of_getElem? (i := 3) rfl)) (by decide) (by decide)) q119a q119c (g := (mkF m 29 #[.val (.int p1), .val (.ref b101), .val (.ref b104), .val (.ref b107), .val (.ref b110), .val (.ref b113), .unset, .unset] [(.ref b107)])) rfl (by rw [hml]; rfl) (Steps.refl _) (argsL := []) (rest := []) (lenOf pd_3 rfl) rfl (by show 2 * 0 + _ ≤ _; exact Nat.le_of_eq rfl) (hb hby at_29) (fun _ _ => ⟨rfl, rfl, (by decide : 5 + 1 ≤ _), (by decide : 9 + 0 ≤ _)⟩)
  dsimp only [Pt.U, Pt.locs, Pt.cells, Pt.slots] at X119 l119 y119 z119 st119 hQ119
  subst l119 y119 z119
  obtain ⟨b119, rfl, Nq119, K119, R119_1, R119_2⟩ := hQ119
  have N119 := Fr.app N113 Nq119
  have f122 : Fld Z T119.heap b113 "com/example/enclav/enclav/tam/Reply" "message" "[B" (.ref ea) := (R113_4.keep K119 nin0)
  have f123 : Arv Z T119.heap ea ek .byte (0 : Int32) [] (.int (0 : Int32)) := (f117.keep K119 nin0)
  have f124 : Exa Z T119.heap ea "[B" := (f118.keep K119)
  have z126 : n0 ≤ T119.heap.size := (Nat.le_trans z120 K119.1)
  have f127 : Exa Z T119.heap b113 "com/example/enclav/enclav/tam/Reply" := (R113_2.keep K119)
  obtain ⟨cq125, kq125, q125a, q125b, q125c⟩ := isOf hZ rfl f127
  obtain ⟨_, _, ⟨T125, L125, k125, n125⟩, -, X125, ⟨Lc125, hQ125, l125, y125, z125⟩, st125⟩ := X119.virtualBack hx (y := (⟨"com/example/enclav/enclav/tam/Reply", "message", "()[B"⟩ : MethodName)) (z := (⟨"com/example/enclav/enclav/tam/Reply", "message", "()[B"⟩ : MethodName)) hown (mvT hZ (hw _ (List.mem_of_getElem? (i := 25) rfl))) (mvT hZ (hw _ (List.mem_of_getElem? (i := 26) rfl))) (notFace_of_selects (args := #[]) (mvT hZ (hw _ (List.mem_of_getElem? (i := 28) rfl)))) (mvT hZ (hw _ (List.mem_of_getElem? (i := 28) rfl))) (mvT hZ (hw _ (List.mem_of_getElem? (i := 27) rfl))) (by decide) (backOf (W := 0) (rm6 l Z a0 hw [] b113 ea ek T119.heap n0 z126 f122 f123 f124) hZ (hw _ (List.mem_of_getElem? (i := 29) rfl)) (hw _ (List.mem_of_getElem? (i := 3) rfl)) (by decide) (by decide)) q125a q125c (g := (mkF m 36 #[.val (.int p1), .val (.ref b101), .val (.ref b104), .val (.ref b107), .val (.ref b110), .val (.ref b113), .val (.ref b119), .unset] [(.ref b113)])) rfl (by rw [hml]; rfl) (Steps.refl _) (argsL := []) (rest := []) (lenOf pd_3 rfl) rfl (by show 2 * 0 + _ ≤ _; exact Nat.le_of_eq rfl) (hb hby at_36) (fun _ _ => ⟨rfl, rfl, (by decide : 6 + 1 ≤ _), (by decide : 9 + 0 ≤ _)⟩)
  dsimp only [Pt.U, Pt.locs, Pt.cells, Pt.slots] at X125 l125 y125 z125 st125 hQ125
  subst l125 y125 z125
  obtain ⟨b125, rfl, Nq125, K125, R125_1, R125_2⟩ := hQ125
  have N125 := Fr.app N119 Nq125
  have f128 : Fld Z T125.heap b107 "com/example/enclav/enclav/tam/Reply" "status" "I" (.int (204 : Int32)) := ((((R107_3.keep K110 nin0).keep K113 nin0).keep K119 nin0).keep K125 nin0)
  have z130 : n0 ≤ T125.heap.size := (Nat.le_trans z126 K125.1)
  have f131 : Exa Z T125.heap b107 "com/example/enclav/enclav/tam/Reply" := ((f121.keep K119).keep K125)
  obtain ⟨cq129, kq129, q129a, q129b, q129c⟩ := isOf hZ rfl f131
  obtain ⟨_, _, ⟨T129, L129, k129, n129⟩, -, X129, ⟨Lc129, hQ129, l129, y129, z129⟩, st129⟩ := X125.virtualBack hx (y := (⟨"com/example/enclav/enclav/tam/Reply", "status", "()I"⟩ : MethodName)) (z := (⟨"com/example/enclav/enclav/tam/Reply", "status", "()I"⟩ : MethodName)) hown (mvT hZ (hw _ (List.mem_of_getElem? (i := 39) rfl))) (mvT hZ (hw _ (List.mem_of_getElem? (i := 40) rfl))) (notFace_of_selects (args := #[]) (mvT hZ (hw _ (List.mem_of_getElem? (i := 42) rfl)))) (mvT hZ (hw _ (List.mem_of_getElem? (i := 42) rfl))) (mvT hZ (hw _ (List.mem_of_getElem? (i := 41) rfl))) (by decide) (backOf (W := 0) (rm7 l Z a0 hw [] b107 (204 : Int32) T125.heap n0 z130 f128) hZ (hw _ (List.mem_of_getElem? (i := 43) rfl)) (hw _ (List.mem_of_getElem? (i := 3) rfl)) (by decide) (by decide)) q129a q129c (g := (mkF m 54 #[.val (.int p1), .val (.ref b101), .val (.ref b104), .val (.ref b107), .val (.ref b110), .val (.ref b113), .val (.ref b119), .val (.ref b125)] [(.ref b107)])) rfl (by rw [hml]; rfl) (Steps.refl _) (argsL := []) (rest := []) (lenOf pd_4 rfl) rfl (by show 2 * 0 + _ ≤ _; exact Nat.le_of_eq rfl) (hb hby at_54) (fun _ _ => ⟨rfl, rfl, (by decide : 7 + 0 ≤ _), (by decide : 9 + 0 ≤ _)⟩)
  dsimp only [Pt.U, Pt.locs, Pt.cells, Pt.slots] at X129 l129 y129 z129 st129 hQ129
  subst l129 y129 z129
  obtain ⟨rfl, Nq129, Heq129⟩ := hQ129
  have N129 := Fr.app N125 Nq129
  have f132 : Fld Z T125.heap b113 "com/example/enclav/enclav/tam/Reply" "status" "I" (.int (204 : Int32)) := ((R113_3.keep K119 nin0).keep K125 nin0)
  have f134 : Exa Z T125.heap b113 "com/example/enclav/enclav/tam/Reply" := (f127.keep K125)
  obtain ⟨cq133, kq133, q133a, q133b, q133c⟩ := isOf hZ Heq129 f134
  obtain ⟨_, _, ⟨T133, L133, k133, n133⟩, -, X133, ⟨Lc133, hQ133, l133, y133, z133⟩, st133⟩ := X129.virtualBack hx (y := (⟨"com/example/enclav/enclav/tam/Reply", "status", "()I"⟩ : MethodName)) (z := (⟨"com/example/enclav/enclav/tam/Reply", "status", "()I"⟩ : MethodName)) hown (mvT hZ (hw _ (List.mem_of_getElem? (i := 39) rfl))) (mvT hZ (hw _ (List.mem_of_getElem? (i := 40) rfl))) (notFace_of_selects (args := #[]) (mvT hZ (hw _ (List.mem_of_getElem? (i := 42) rfl)))) (mvT hZ (hw _ (List.mem_of_getElem? (i := 42) rfl))) (mvT hZ (hw _ (List.mem_of_getElem? (i := 41) rfl))) (by decide) (backOf (W := 0) (rm7 l Z a0 hw [] b113 (204 : Int32) T125.heap n0 z130 f132) hZ (hw _ (List.mem_of_getElem? (i := 43) rfl)) (hw _ (List.mem_of_getElem? (i := 3) rfl)) (by decide) (by decide)) q133a q133c (g := (mkF m 65 #[.val (.int p1), .val (.ref b101), .val (.ref b104), .val (.ref b107), .val (.ref b110), .val (.ref b113), .val (.ref b119), .val (.ref b125)] [(.ref b113)])) rfl (by rw [hml]; rfl) (Steps.refl _) (argsL := []) (rest := []) (lenOf pd_4 rfl) rfl (by show 2 * 0 + _ ≤ _; exact Nat.le_of_eq rfl) (hb hby at_65) (fun _ _ => ⟨rfl, Heq129, (by decide : 7 + 0 ≤ _), (by decide : 9 + 0 ≤ _)⟩)
  dsimp only [Pt.U, Pt.locs, Pt.cells, Pt.slots] at X133 l133 y133 z133 st133 hQ133
  subst l133 y133 z133
  obtain ⟨rfl, Nq133, Heq133⟩ := hQ133
  have N133 := Fr.app N129 Nq133
  have f135 : Arv Z T125.heap b119 ek .byte (0 : Int32) [] (.int (0 : Int32)) := (R119_2.keep K125 nin0)
  obtain ⟨cl136, Ar136, -, S136, M136, -, -⟩ := id f135
  obtain ⟨cl137, Ar137, -, S137, M137, -, -⟩ := id R125_2
  have f138 : Fld Z T125.heap b104 "com/example/enclav/enclav/tam/Reply" "status" "I" (.int (200 : Int32)) := (((((R104_3.keep K107 nin0).keep K110 nin0).keep K113 nin0).keep K119 nin0).keep K125 nin0)
  have f140 : Exa Z T125.heap b104 "com/example/enclav/enclav/tam/Reply" := (((((R104_2.keep K107).keep K110).keep K113).keep K119).keep K125)
  obtain ⟨cq139, kq139, q139a, q139b, q139c⟩ := isOf hZ Heq133 f140
  obtain ⟨_, _, ⟨T139, L139, k139, n139⟩, -, X139, ⟨Lc139, hQ139, l139, y139, z139⟩, st139⟩ := X133.virtualBack hx (y := (⟨"com/example/enclav/enclav/tam/Reply", "status", "()I"⟩ : MethodName)) (z := (⟨"com/example/enclav/enclav/tam/Reply", "status", "()I"⟩ : MethodName)) hown (mvT hZ (hw _ (List.mem_of_getElem? (i := 39) rfl))) (mvT hZ (hw _ (List.mem_of_getElem? (i := 40) rfl))) (notFace_of_selects (args := #[]) (mvT hZ (hw _ (List.mem_of_getElem? (i := 42) rfl)))) (mvT hZ (hw _ (List.mem_of_getElem? (i := 42) rfl))) (mvT hZ (hw _ (List.mem_of_getElem? (i := 41) rfl))) (by decide) (backOf (W := 0) (rm7 l Z a0 hw [] b104 (200 : Int32) T125.heap n0 z130 f138) hZ (hw _ (List.mem_of_getElem? (i := 43) rfl)) (hw _ (List.mem_of_getElem? (i := 3) rfl)) (by decide) (by decide)) q139a q139c (g := (mkF m 91 #[.val (.int p1), .val (.ref b101), .val (.ref b104), .val (.ref b107), .val (.ref b110), .val (.ref b113), .val (.ref b119), .val (.ref b125)] [(.ref b104)])) rfl (by rw [hml]; rfl) (Steps.refl _) (argsL := []) (rest := []) (lenOf pd_4 rfl) rfl (by show 2 * 0 + _ ≤ _; exact Nat.le_of_eq rfl) (hb hby at_91) (fun _ _ => ⟨rfl, Heq133, (by decide : 7 + 0 ≤ _), (by decide : 9 + 0 ≤ _)⟩)
  dsimp only [Pt.U, Pt.locs, Pt.cells, Pt.slots] at X139 l139 y139 z139 st139 hQ139
  subst l139 y139 z139
  obtain ⟨rfl, Nq139, Heq139⟩ := hQ139
  have N139 := Fr.app N133 Nq139
  obtain ⟨cq141, kq141, q141a, q141b, q141c⟩ := isOf hZ Heq139 f131
  obtain ⟨_, _, ⟨T141, L141, k141, n141⟩, -, X141, ⟨Lc141, hQ141, l141, y141, z141⟩, st141⟩ := X139.virtualBack hx (y := (⟨"com/example/enclav/enclav/tam/Reply", "status", "()I"⟩ : MethodName)) (z := (⟨"com/example/enclav/enclav/tam/Reply", "status", "()I"⟩ : MethodName)) hown (mvT hZ (hw _ (List.mem_of_getElem? (i := 39) rfl))) (mvT hZ (hw _ (List.mem_of_getElem? (i := 40) rfl))) (notFace_of_selects (args := #[]) (mvT hZ (hw _ (List.mem_of_getElem? (i := 42) rfl)))) (mvT hZ (hw _ (List.mem_of_getElem? (i := 42) rfl))) (mvT hZ (hw _ (List.mem_of_getElem? (i := 41) rfl))) (by decide) (backOf (W := 1) (rm7 l Z a0 hw [] b107 (204 : Int32) T125.heap n0 z130 f128) hZ (hw _ (List.mem_of_getElem? (i := 43) rfl)) (hw _ (List.mem_of_getElem? (i := 3) rfl)) (by decide) (by decide)) q141a q141c (g := (mkF m 95 #[.val (.int p1), .val (.ref b101), .val (.ref b104), .val (.ref b107), .val (.ref b110), .val (.ref b113), .val (.ref b119), .val (.ref b125)] [(.ref b107), (.int (200 : Int32))])) rfl (by rw [hml]; rfl) (Steps.refl _) (argsL := []) (rest := [(.int (200 : Int32))]) (lenOf pd_4 rfl) rfl (by show 2 * 0 + _ ≤ _; exact Nat.le_of_eq rfl) (hb hby at_95) (fun _ _ => ⟨rfl, Heq139, (by decide : 7 + 0 ≤ _), (by decide : 9 + 0 ≤ _)⟩)
  dsimp only [Pt.U, Pt.locs, Pt.cells, Pt.slots] at X141 l141 y141 z141 st141 hQ141
  subst l141 y141 z141
  obtain ⟨rfl, Nq141, Heq141⟩ := hQ141
  have N141 := Fr.app N139 Nq141
  have f142 : Fld Z T125.heap b110 "com/example/enclav/enclav/tam/Reply" "status" "I" (.int (400 : Int32)) := (((R110_3.keep K113 nin0).keep K119 nin0).keep K125 nin0)
  have f144 : Exa Z T125.heap b110 "com/example/enclav/enclav/tam/Reply" := (((R110_2.keep K113).keep K119).keep K125)
  obtain ⟨cq143, kq143, q143a, q143b, q143c⟩ := isOf hZ Heq141 f144
  obtain ⟨_, _, ⟨T143, L143, k143, n143⟩, -, X143, ⟨Lc143, hQ143, l143, y143, z143⟩, st143⟩ := X141.virtualBack hx (y := (⟨"com/example/enclav/enclav/tam/Reply", "status", "()I"⟩ : MethodName)) (z := (⟨"com/example/enclav/enclav/tam/Reply", "status", "()I"⟩ : MethodName)) hown (mvT hZ (hw _ (List.mem_of_getElem? (i := 39) rfl))) (mvT hZ (hw _ (List.mem_of_getElem? (i := 40) rfl))) (notFace_of_selects (args := #[]) (mvT hZ (hw _ (List.mem_of_getElem? (i := 42) rfl)))) (mvT hZ (hw _ (List.mem_of_getElem? (i := 42) rfl))) (mvT hZ (hw _ (List.mem_of_getElem? (i := 41) rfl))) (by decide) (backOf (W := 0) (rm7 l Z a0 hw [] b110 (400 : Int32) T125.heap n0 z130 f142) hZ (hw _ (List.mem_of_getElem? (i := 43) rfl)) (hw _ (List.mem_of_getElem? (i := 3) rfl)) (by decide) (by decide)) q143a q143c (g := (mkF m 103 #[.val (.int p1), .val (.ref b101), .val (.ref b104), .val (.ref b107), .val (.ref b110), .val (.ref b113), .val (.ref b119), .val (.ref b125)] [(.ref b110)])) rfl (by rw [hml]; rfl) (Steps.refl _) (argsL := []) (rest := []) (lenOf pd_4 rfl) rfl (by show 2 * 0 + _ ≤ _; exact Nat.le_of_eq rfl) (hb hby at_103) (fun _ _ => ⟨rfl, Heq141, (by decide : 7 + 0 ≤ _), (by decide : 9 + 0 ≤ _)⟩)
  dsimp only [Pt.U, Pt.locs, Pt.cells, Pt.slots] at X143 l143 y143 z143 st143 hQ143
  subst l143 y143 z143
  obtain ⟨rfl, Nq143, Heq143⟩ := hQ143
  have N143 := Fr.app N141 Nq143
  obtain ⟨cq145, kq145, q145a, q145b, q145c⟩ := isOf hZ Heq143 f131
  obtain ⟨_, _, ⟨T145, L145, k145, n145⟩, -, X145, ⟨Lc145, hQ145, l145, y145, z145⟩, st145⟩ := X143.virtualBack hx (y := (⟨"com/example/enclav/enclav/tam/Reply", "status", "()I"⟩ : MethodName)) (z := (⟨"com/example/enclav/enclav/tam/Reply", "status", "()I"⟩ : MethodName)) hown (mvT hZ (hw _ (List.mem_of_getElem? (i := 39) rfl))) (mvT hZ (hw _ (List.mem_of_getElem? (i := 40) rfl))) (notFace_of_selects (args := #[]) (mvT hZ (hw _ (List.mem_of_getElem? (i := 42) rfl)))) (mvT hZ (hw _ (List.mem_of_getElem? (i := 42) rfl))) (mvT hZ (hw _ (List.mem_of_getElem? (i := 41) rfl))) (by decide) (backOf (W := 1) (rm7 l Z a0 hw [] b107 (204 : Int32) T125.heap n0 z130 f128) hZ (hw _ (List.mem_of_getElem? (i := 43) rfl)) (hw _ (List.mem_of_getElem? (i := 3) rfl)) (by decide) (by decide)) q145a q145c (g := (mkF m 107 #[.val (.int p1), .val (.ref b101), .val (.ref b104), .val (.ref b107), .val (.ref b110), .val (.ref b113), .val (.ref b119), .val (.ref b125)] [(.ref b107), (.int (400 : Int32))])) rfl (by rw [hml]; rfl) (Steps.refl _) (argsL := []) (rest := [(.int (400 : Int32))]) (lenOf pd_4 rfl) rfl (by show 2 * 0 + _ ≤ _; exact Nat.le_of_eq rfl) (hb hby at_107) (fun _ _ => ⟨rfl, Heq143, (by decide : 7 + 0 ≤ _), (by decide : 9 + 0 ≤ _)⟩)
  dsimp only [Pt.U, Pt.locs, Pt.cells, Pt.slots] at X145 l145 y145 z145 st145 hQ145
  subst l145 y145 z145
  obtain ⟨rfl, Nq145, Heq145⟩ := hQ145
  have N145 := Fr.app N143 Nq145
  obtain ⟨fs, hr, hrun, hended, hW, hsame⟩ := X145.leave (v := some (.int (1 : Int32))) (fun h => by rw [Bd.returns] at h; cases h)
  refine ⟨_, _, pre0 _ ?_, hrun, hended, _, _, rfl, ?_, ⟨_, rfl⟩, hW, hsame.mono (by decide) (by decide)⟩
  · skip
    show Steps p.tables e below (s₁.setTop (mkF m 0 #[.val (.int p1), .unset, .unset, .unset, .unset, .unset, .unset, .unset] [])) _
    refine XS.iconst X0.here hx rfl (hb hby at_0) ?_
    show Steps p.tables e below (s₁.setTop (mkF m 1 #[.val (.int p1), .unset, .unset, .unset, .unset, .unset, .unset, .unset] [(.int (1 : Int32))])) _
    refine st101 _ ?_
    show Steps p.tables e below (T101.setTop (mkF m 3 #[.val (.int p1), .unset, .unset, .unset, .unset, .unset, .unset, .unset] [(.ref b101)])) _
    refine XS.dup X101.here hx rfl (hb hby at_3) rfl rfl ?_
    show Steps p.tables e below (T101.setTop (mkF m 4 #[.val (.int p1), .unset, .unset, .unset, .unset, .unset, .unset, .unset] [(.ref b101), (.ref b101)])) _
    refine XS.iconst X101.here hx rfl (hb hby at_4) ?_
    show Steps p.tables e below (T101.setTop (mkF m 5 #[.val (.int p1), .unset, .unset, .unset, .unset, .unset, .unset, .unset] [(.int (0 : Int32)), (.ref b101), (.ref b101)])) _
    refine XS.iloadN X101.here hx rfl (hb hby at_5) rfl ?_
    show Steps p.tables e below (T101.setTop (mkF m 6 #[.val (.int p1), .unset, .unset, .unset, .unset, .unset, .unset, .unset] [(.int p1), (.int (0 : Int32)), (.ref b101), (.ref b101)])) _
    refine XS.i2b X101.here hx rfl (hb hby at_6) rfl ?_
    show Steps p.tables e below (T101.setTop (mkF m 7 #[.val (.int p1), .unset, .unset, .unset, .unset, .unset, .unset, .unset] [(.int (p1.toInt8.toInt32)), (.int (0 : Int32)), (.ref b101), (.ref b101)])) _
    refine st102 _ ?_
    show Steps p.tables e below (T102.setTop (mkF m 8 #[.val (.int p1), .unset, .unset, .unset, .unset, .unset, .unset, .unset] [(.ref b101)])) _
    refine XS.astoreN X102.here hx rfl (hb hby at_8) rfl rfl (l' := #[.val (.int p1), .val (.ref b101), .unset, .unset, .unset, .unset, .unset, .unset]) rfl ?_
    show Steps p.tables e below (T102.setTop (mkF m 9 #[.val (.int p1), .val (.ref b101), .unset, .unset, .unset, .unset, .unset, .unset] [])) _
    refine XS.aloadN X102.here hx rfl (hb hby at_9) rfl rfl ?_
    show Steps p.tables e below (T102.setTop (mkF m 10 #[.val (.int p1), .val (.ref b101), .unset, .unset, .unset, .unset, .unset, .unset] [(.ref b101)])) _
    refine st104 _ ?_
    show Steps p.tables e below (T104.setTop (mkF m 13 #[.val (.int p1), .val (.ref b101), .unset, .unset, .unset, .unset, .unset, .unset] [(.ref b104)])) _
    refine XS.astoreN X104.here hx rfl (hb hby at_13) rfl rfl (l' := #[.val (.int p1), .val (.ref b101), .val (.ref b104), .unset, .unset, .unset, .unset, .unset]) rfl ?_
    show Steps p.tables e below (T104.setTop (mkF m 14 #[.val (.int p1), .val (.ref b101), .val (.ref b104), .unset, .unset, .unset, .unset, .unset] [])) _
    refine st107 _ ?_
    show Steps p.tables e below (T107.setTop (mkF m 17 #[.val (.int p1), .val (.ref b101), .val (.ref b104), .unset, .unset, .unset, .unset, .unset] [(.ref b107)])) _
    refine XS.astoreN X107.here hx rfl (hb hby at_17) rfl rfl (l' := #[.val (.int p1), .val (.ref b101), .val (.ref b104), .val (.ref b107), .unset, .unset, .unset, .unset]) rfl ?_
    show Steps p.tables e below (T107.setTop (mkF m 18 #[.val (.int p1), .val (.ref b101), .val (.ref b104), .val (.ref b107), .unset, .unset, .unset, .unset] [])) _
    refine st110 _ ?_
    show Steps p.tables e below (T110.setTop (mkF m 21 #[.val (.int p1), .val (.ref b101), .val (.ref b104), .val (.ref b107), .unset, .unset, .unset, .unset] [(.ref b110)])) _
    refine XS.astore X110.here hx rfl (hb hby at_21) rfl rfl (l' := #[.val (.int p1), .val (.ref b101), .val (.ref b104), .val (.ref b107), .val (.ref b110), .unset, .unset, .unset]) rfl ?_
    show Steps p.tables e below (T110.setTop (mkF m 23 #[.val (.int p1), .val (.ref b101), .val (.ref b104), .val (.ref b107), .val (.ref b110), .unset, .unset, .unset] [])) _
    refine st113 _ ?_
    show Steps p.tables e below (T113.setTop (mkF m 26 #[.val (.int p1), .val (.ref b101), .val (.ref b104), .val (.ref b107), .val (.ref b110), .unset, .unset, .unset] [(.ref b113)])) _
    refine XS.astore X113.here hx rfl (hb hby at_26) rfl rfl (l' := #[.val (.int p1), .val (.ref b101), .val (.ref b104), .val (.ref b107), .val (.ref b110), .val (.ref b113), .unset, .unset]) rfl ?_
    show Steps p.tables e below (T113.setTop (mkF m 28 #[.val (.int p1), .val (.ref b101), .val (.ref b104), .val (.ref b107), .val (.ref b110), .val (.ref b113), .unset, .unset] [])) _
    refine XS.aloadN X113.here hx rfl (hb hby at_28) rfl rfl ?_
    show Steps p.tables e below (T113.setTop (mkF m 29 #[.val (.int p1), .val (.ref b101), .val (.ref b104), .val (.ref b107), .val (.ref b110), .val (.ref b113), .unset, .unset] [(.ref b107)])) _
    refine st119.trans ?_
    show Steps p.tables e below (T119.setTop (mkF m 32 #[.val (.int p1), .val (.ref b101), .val (.ref b104), .val (.ref b107), .val (.ref b110), .val (.ref b113), .unset, .unset] [(.ref b119)])) _
    refine XS.astore X119.here hx rfl (hb hby at_32) rfl rfl (l' := #[.val (.int p1), .val (.ref b101), .val (.ref b104), .val (.ref b107), .val (.ref b110), .val (.ref b113), .val (.ref b119), .unset]) rfl ?_
    show Steps p.tables e below (T119.setTop (mkF m 34 #[.val (.int p1), .val (.ref b101), .val (.ref b104), .val (.ref b107), .val (.ref b110), .val (.ref b113), .val (.ref b119), .unset] [])) _
    refine XS.aload X119.here hx rfl (hb hby at_34) rfl rfl ?_
    show Steps p.tables e below (T119.setTop (mkF m 36 #[.val (.int p1), .val (.ref b101), .val (.ref b104), .val (.ref b107), .val (.ref b110), .val (.ref b113), .val (.ref b119), .unset] [(.ref b113)])) _
    refine st125.trans ?_
    show Steps p.tables e below (T125.setTop (mkF m 39 #[.val (.int p1), .val (.ref b101), .val (.ref b104), .val (.ref b107), .val (.ref b110), .val (.ref b113), .val (.ref b119), .unset] [(.ref b125)])) _
    refine XS.astore X125.here hx rfl (hb hby at_39) rfl rfl (l' := #[.val (.int p1), .val (.ref b101), .val (.ref b104), .val (.ref b107), .val (.ref b110), .val (.ref b113), .val (.ref b119), .val (.ref b125)]) rfl ?_
    show Steps p.tables e below (T125.setTop (mkF m 41 #[.val (.int p1), .val (.ref b101), .val (.ref b104), .val (.ref b107), .val (.ref b110), .val (.ref b113), .val (.ref b119), .val (.ref b125)] [])) _
    refine XS.aload X125.here hx rfl (hb hby at_41) rfl rfl ?_
    show Steps p.tables e below (T125.setTop (mkF m 43 #[.val (.int p1), .val (.ref b101), .val (.ref b104), .val (.ref b107), .val (.ref b110), .val (.ref b113), .val (.ref b119), .val (.ref b125)] [(.ref b119)])) _
    refine XS.ifnullNo X125.here hx rfl (hb hby at_43) rfl ?_
    show Steps p.tables e below (T125.setTop (mkF m 46 #[.val (.int p1), .val (.ref b101), .val (.ref b104), .val (.ref b107), .val (.ref b110), .val (.ref b113), .val (.ref b119), .val (.ref b125)] [])) _
    refine XS.aload X125.here hx rfl (hb hby at_46) rfl rfl ?_
    show Steps p.tables e below (T125.setTop (mkF m 48 #[.val (.int p1), .val (.ref b101), .val (.ref b104), .val (.ref b107), .val (.ref b110), .val (.ref b113), .val (.ref b119), .val (.ref b125)] [(.ref b125)])) _
    refine XS.ifnonnullYes X125.here hx rfl (pc0 := 48) (pc' := 53) rfl (hb hby at_48) rfl (by decide) (by decide) ?_
    show Steps p.tables e below (T125.setTop (mkF m 53 #[.val (.int p1), .val (.ref b101), .val (.ref b104), .val (.ref b107), .val (.ref b110), .val (.ref b113), .val (.ref b119), .val (.ref b125)] [])) _
    refine XS.aloadN X125.here hx rfl (hb hby at_53) rfl rfl ?_
    show Steps p.tables e below (T125.setTop (mkF m 54 #[.val (.int p1), .val (.ref b101), .val (.ref b104), .val (.ref b107), .val (.ref b110), .val (.ref b113), .val (.ref b119), .val (.ref b125)] [(.ref b107)])) _
    refine st129.trans ?_
    show Steps p.tables e below (T129.setTop (mkF m 57 #[.val (.int p1), .val (.ref b101), .val (.ref b104), .val (.ref b107), .val (.ref b110), .val (.ref b113), .val (.ref b119), .val (.ref b125)] [(.int (204 : Int32))])) _
    refine XS.sipush X129.here hx rfl (hb hby at_57) ?_
    show Steps p.tables e below (T129.setTop (mkF m 60 #[.val (.int p1), .val (.ref b101), .val (.ref b104), .val (.ref b107), .val (.ref b110), .val (.ref b113), .val (.ref b119), .val (.ref b125)] [(.int (204 : Int32)), (.int (204 : Int32))])) _
    refine XS.icmpNo X129.here hx rfl (hb hby at_60) rfl (teq (by decide : (204 : Int32) = (204 : Int32))).2 ?_
    show Steps p.tables e below (T129.setTop (mkF m 63 #[.val (.int p1), .val (.ref b101), .val (.ref b104), .val (.ref b107), .val (.ref b110), .val (.ref b113), .val (.ref b119), .val (.ref b125)] [])) _
    refine XS.aload X129.here hx rfl (hb hby at_63) rfl rfl ?_
    show Steps p.tables e below (T129.setTop (mkF m 65 #[.val (.int p1), .val (.ref b101), .val (.ref b104), .val (.ref b107), .val (.ref b110), .val (.ref b113), .val (.ref b119), .val (.ref b125)] [(.ref b113)])) _
    refine st133.trans ?_
    show Steps p.tables e below (T133.setTop (mkF m 68 #[.val (.int p1), .val (.ref b101), .val (.ref b104), .val (.ref b107), .val (.ref b110), .val (.ref b113), .val (.ref b119), .val (.ref b125)] [(.int (204 : Int32))])) _
    refine XS.sipush X133.here hx rfl (hb hby at_68) ?_
    show Steps p.tables e below (T133.setTop (mkF m 71 #[.val (.int p1), .val (.ref b101), .val (.ref b104), .val (.ref b107), .val (.ref b110), .val (.ref b113), .val (.ref b119), .val (.ref b125)] [(.int (204 : Int32)), (.int (204 : Int32))])) _
    refine XS.icmpYes X133.here hx rfl (pc0 := 71) (pc' := 76) rfl (hb hby at_71) rfl (teq (by decide : (204 : Int32) = (204 : Int32))).1 (by decide) (by decide) ?_
    show Steps p.tables e below (T133.setTop (mkF m 76 #[.val (.int p1), .val (.ref b101), .val (.ref b104), .val (.ref b107), .val (.ref b110), .val (.ref b113), .val (.ref b119), .val (.ref b125)] [])) _
    refine XS.aload X133.here hx rfl (hb hby at_76) rfl rfl ?_
    show Steps p.tables e below (T133.setTop (mkF m 78 #[.val (.int p1), .val (.ref b101), .val (.ref b104), .val (.ref b107), .val (.ref b110), .val (.ref b113), .val (.ref b119), .val (.ref b125)] [(.ref b119)])) _
    refine X133.arraylength hx (by rw [Heq133]; exact Ar136.1) (State.isArrayOf_alike hZ.alike Ar136.2.1) (g := (mkF m 78 #[.val (.int p1), .val (.ref b101), .val (.ref b104), .val (.ref b107), .val (.ref b110), .val (.ref b113), .val (.ref b119), .val (.ref b125)] [(.ref b119)])) rfl rfl (hb hby at_78) _ ?_
    rw [len_of S136 M136]
    show Steps p.tables e below (T133.setTop (mkF m 79 #[.val (.int p1), .val (.ref b101), .val (.ref b104), .val (.ref b107), .val (.ref b110), .val (.ref b113), .val (.ref b119), .val (.ref b125)] [(.int (0 : Int32))])) _
    refine XS.ifNo X133.here hx rfl (hb hby at_79) rfl ((if0 _ _).trans (teq (by decide : (0 : Int32) = (0 : Int32))).2) ?_
    show Steps p.tables e below (T133.setTop (mkF m 82 #[.val (.int p1), .val (.ref b101), .val (.ref b104), .val (.ref b107), .val (.ref b110), .val (.ref b113), .val (.ref b119), .val (.ref b125)] [])) _
    refine XS.aload X133.here hx rfl (hb hby at_82) rfl rfl ?_
    show Steps p.tables e below (T133.setTop (mkF m 84 #[.val (.int p1), .val (.ref b101), .val (.ref b104), .val (.ref b107), .val (.ref b110), .val (.ref b113), .val (.ref b119), .val (.ref b125)] [(.ref b125)])) _
    refine X133.arraylength hx (by rw [Heq133]; exact Ar137.1) (State.isArrayOf_alike hZ.alike Ar137.2.1) (g := (mkF m 84 #[.val (.int p1), .val (.ref b101), .val (.ref b104), .val (.ref b107), .val (.ref b110), .val (.ref b113), .val (.ref b119), .val (.ref b125)] [(.ref b125)])) rfl rfl (hb hby at_84) _ ?_
    rw [len_of S137 M137]
    show Steps p.tables e below (T133.setTop (mkF m 85 #[.val (.int p1), .val (.ref b101), .val (.ref b104), .val (.ref b107), .val (.ref b110), .val (.ref b113), .val (.ref b119), .val (.ref b125)] [(.int (0 : Int32))])) _
    refine XS.ifYes X133.here hx rfl (pc0 := 85) (pc' := 90) rfl (hb hby at_85) rfl ((if0 _ _).trans (teq (by decide : (0 : Int32) = (0 : Int32))).1) (by decide) (by decide) ?_
    show Steps p.tables e below (T133.setTop (mkF m 90 #[.val (.int p1), .val (.ref b101), .val (.ref b104), .val (.ref b107), .val (.ref b110), .val (.ref b113), .val (.ref b119), .val (.ref b125)] [])) _
    refine XS.aloadN X133.here hx rfl (hb hby at_90) rfl rfl ?_
    show Steps p.tables e below (T133.setTop (mkF m 91 #[.val (.int p1), .val (.ref b101), .val (.ref b104), .val (.ref b107), .val (.ref b110), .val (.ref b113), .val (.ref b119), .val (.ref b125)] [(.ref b104)])) _
    refine st139.trans ?_
    show Steps p.tables e below (T139.setTop (mkF m 94 #[.val (.int p1), .val (.ref b101), .val (.ref b104), .val (.ref b107), .val (.ref b110), .val (.ref b113), .val (.ref b119), .val (.ref b125)] [(.int (200 : Int32))])) _
    refine XS.aloadN X139.here hx rfl (hb hby at_94) rfl rfl ?_
    show Steps p.tables e below (T139.setTop (mkF m 95 #[.val (.int p1), .val (.ref b101), .val (.ref b104), .val (.ref b107), .val (.ref b110), .val (.ref b113), .val (.ref b119), .val (.ref b125)] [(.ref b107), (.int (200 : Int32))])) _
    refine st141.trans ?_
    show Steps p.tables e below (T141.setTop (mkF m 98 #[.val (.int p1), .val (.ref b101), .val (.ref b104), .val (.ref b107), .val (.ref b110), .val (.ref b113), .val (.ref b119), .val (.ref b125)] [(.int (204 : Int32)), (.int (200 : Int32))])) _
    refine XS.icmpNo X141.here hx rfl (hb hby at_98) rfl (feq (by decide : ¬ ((200 : Int32) = (204 : Int32)))).1 ?_
    show Steps p.tables e below (T141.setTop (mkF m 101 #[.val (.int p1), .val (.ref b101), .val (.ref b104), .val (.ref b107), .val (.ref b110), .val (.ref b113), .val (.ref b119), .val (.ref b125)] [])) _
    refine XS.aload X141.here hx rfl (hb hby at_101) rfl rfl ?_
    show Steps p.tables e below (T141.setTop (mkF m 103 #[.val (.int p1), .val (.ref b101), .val (.ref b104), .val (.ref b107), .val (.ref b110), .val (.ref b113), .val (.ref b119), .val (.ref b125)] [(.ref b110)])) _
    refine st143.trans ?_
    show Steps p.tables e below (T143.setTop (mkF m 106 #[.val (.int p1), .val (.ref b101), .val (.ref b104), .val (.ref b107), .val (.ref b110), .val (.ref b113), .val (.ref b119), .val (.ref b125)] [(.int (400 : Int32))])) _
    refine XS.aloadN X143.here hx rfl (hb hby at_106) rfl rfl ?_
    show Steps p.tables e below (T143.setTop (mkF m 107 #[.val (.int p1), .val (.ref b101), .val (.ref b104), .val (.ref b107), .val (.ref b110), .val (.ref b113), .val (.ref b119), .val (.ref b125)] [(.ref b107), (.int (400 : Int32))])) _
    refine st145.trans ?_
    show Steps p.tables e below (T145.setTop (mkF m 110 #[.val (.int p1), .val (.ref b101), .val (.ref b104), .val (.ref b107), .val (.ref b110), .val (.ref b113), .val (.ref b119), .val (.ref b125)] [(.int (204 : Int32)), (.int (400 : Int32))])) _
    refine XS.icmpYes X145.here hx rfl (pc0 := 110) (pc' := 115) rfl (hb hby at_110) rfl (feq (by decide : ¬ ((400 : Int32) = (204 : Int32)))).2 (by decide) (by decide) ?_
    show Steps p.tables e below (T145.setTop (mkF m 115 #[.val (.int p1), .val (.ref b101), .val (.ref b104), .val (.ref b107), .val (.ref b110), .val (.ref b113), .val (.ref b119), .val (.ref b125)] [])) _
    refine XS.iconst X145.here hx rfl (hb hby at_115) ?_
    show Steps p.tables e below (T145.setTop (mkF m 116 #[.val (.int p1), .val (.ref b101), .val (.ref b104), .val (.ref b107), .val (.ref b110), .val (.ref b113), .val (.ref b119), .val (.ref b125)] [(.int (1 : Int32))])) _
    exact retN X145 hx (t := .boolean) Bd.returns (by simp) (hb hby at_116) hr
  · show Q0 Z p1 ea ek h0 n0 _ T145.heap _
    rw [Heq145]
    exact ⟨rfl, N145⟩
set_option maxRecDepth 65536 in
set_option maxHeartbeats 40000000 in
theorem comes_1 {Post : Tables → Env → Array Value → State → Outcome → State → Prop} (hpost : ∀ tb e args s v u, (limb_1_1.after args s (.returned v) u = true ∧ limb_1_2.after args s (.returned v) u = true ∧ True) → FrameEnd s (.returned v) u (Jvm.fieldLocs frame_1_writes args s ++ Jvm.arrayLocs frame_1_arrays args s ++ Jvm.staticLocs frame_1_statics s) 24 128 → Post tb e args s (.returned v) u) :
    ArmFor flags0 classFile x code maxLocals ret World_1 tables_1 room_1 Calls_1 rest_1 Pre_1 Post := by
  intro l hfl _ _ p e ha hc hk s m args below hf hA hF happ hP
  obtain ⟨hcalls, hrest, hpre⟩ := hP
  obtain ⟨-, -, -, hnamed, -, -, -, hat⟩ := (Spec.applies_iff hf).mp happ
  obtain ⟨hg, hn⟩ := and_e (Cond.before_iff.mp (show (Jvm.Cond.and given_1 narrow_1).before args s = true from hpre))
  obtain ⟨gc, ga0⟩ := and_e hg
  obtain ⟨w0, rfl⟩ : ∃ w0 : Value, args = #[w0] := by
    have hs : args.size = 1 := by simpa [Cond.value, given_1] using gc
    obtain ⟨L⟩ := args
    match L, hs with
    | [w0], _ => exact ⟨w0, rfl⟩
  have hw := fun d (hd : d ∈ tables_1) => atoms_spec (ws := Jvm.Cond.code x code maxLocals ret :: tables_1) hat d (List.mem_cons_of_mem _ hd)
  have hfit : Fit s := fun {y c} hc i hi => by
    obtain ⟨ha, rfl⟩ := Array.getElem?_eq_some_iff.mp hc
    have q := List.all_eq_true.mp ((Array.all_eq_true_iff_forall_mem.mp hF) _ (Array.getElem_mem ha)) i (List.mem_range.mpr hi)
    simpa [Array.getElem?_eq_getElem hi] using q
  obtain ⟨i0, ei0⟩ := is_v ga0
  obtain rfl : w0 = (.int i0) := Option.some.inj ei0
  obtain ⟨n1, hn2⟩ := and_e hn
  obtain ⟨n2, n3⟩ := and_e hn2
  obtain ⟨ea, ek, S0, E0, V0⟩ := own_arr0 hfit (hw _ (List.mem_of_getElem? (i := 3) rfl)) (hw _ (List.mem_of_getElem? (i := 21) rfl)) n1 n2 n3
  obtain ⟨n, o, h1, h2, h3, _, L, rfl, ⟨rfl, N⟩, hq⟩ := rm0 l s _ hw tables_1 i0 ea ek s.heap s.heap.size (Nat.le_refl _) S0 E0 V0 p e ha hc hk s m _ below hf ((Spec.applies_iff_loose hf).mp happ).1 ⟨rfl, State.Warmed39.refl s, rfl⟩ trivial
  refine ⟨n, _, h1, h2, h3, hpost _ _ _ _ _ _ ⟨Cond.after_iff.mpr rfl, Cond.after_iff.mpr (eq_i res_at (Term.int_eval (1)) rfl), trivial⟩ ⟨hq.1, hq.2.1, (hq.2.2.sift fun y hy => Or.inr (N y hy)).mono (by decide) (by decide)⟩⟩
theorem main_1_1 : Claimed_1_1 := comes_1 fun _ _ _ _ _ _ h hF => ⟨h.1, hF⟩
theorem main_1_2 : Claimed_1_2 := comes_1 fun _ _ _ _ _ _ h hF => ⟨h.2.1, hF⟩
end Jvm.Pilot.@@N@@
namespace Jvm.Pilot.@@N@@
open Jvm Jvm.ClassFile Sem Op Lib Jvm.Free Jvm.Stand Jvm.Pilot.@@N@@.Jvm.D
/-! MADE BY PROGRAM (witnessworld.py) out of the Statement's table words and the real class files: 9 classes; the members and pool entries that the words name. The judged class is class 1, her method 1. -/
namespace start1
open Jvm.ClassFile
def u (s : String) : CpInfo := .utf8 (stringToUtf16 s)
/-- a pool by its gaps: so many unusable entries, then the entry; so many at the end -/
def gap : Nat → List CpInfo → List CpInfo
  | 0, r => r
  | n + 1, r => .unusable :: gap n r
def poolList (es : List (Nat × CpInfo)) (last : Nat) : List CpInfo := es.foldr (fun e r => gap e.1 (e.2 :: r)) (gap last [])
def pool (es : List (Nat × CpInfo)) (last : Nat) : Array CpInfo := ⟨poolList es last⟩
def fileOf (pool : Array CpInfo) (this : Nat) (attrs : Array Attribute := #[]) (ms : Array MethodInfo := #[]) (fl : Nat := 33) (sup : Nat := 0) (ifs : Array Nat := #[]) (fds : Array FieldInfo := #[]) : ClassFile where
  minorVersion := 0
  majorVersion := 65
  constantPool := pool
  accessFlags := fl
  thisClass := this
  superClass := sup
  interfaces := ifs
  fields := fds
  methods := ms
  attributes := attrs
def plain (name : String) (sup : Option ClassId) : Class where
  name := name
  kind := .ordinary
  loader := none
  accessFlags := 33
  super := sup
  interfaces := #[]
  cf := none
  fields := #[]
  methods := #[]
  instanceTypes := #[]
  staticTypes := #[]
  resolved := #[]
  callSites := []
  init := .initialized
  statics := none
  mirror := none

def pool0 : Array CpInfo := pool [(5, u "<init>"), (0, u "()V"), (1, .class_ 10), (1, u "java/lang/Object"), (85, u "clone"), (0, u "()Ljava/lang/Object;")] 26

def k0c0 : Code := { maxStack := 0, maxLocals := 1, code := object_method_1_code, exceptionTable := #[], attributes := #[] }
def k0m0 : Method := { name := "<init>", desc := "()V", sig := { parameters := [], returnType := none }, accessFlags := 1, code := some k0c0 }
def k0m1 : Method := { name := "clone", desc := "()Ljava/lang/Object;", sig := { parameters := [], returnType := some (.object "java/lang/Object") }, accessFlags := 260, code := none }
/-- java/lang/Object -/
def k0 : Class := { plain "java/lang/Object" none with
  accessFlags := 33
  interfaces := #[]
  cf := some (fileOf pool0 8 #[] #[{ accessFlags := 1, nameIndex := 5, descriptorIndex := 6, attributes := #[] }, { accessFlags := 260, nameIndex := 96, descriptorIndex := 97, attributes := #[] }] 33 0 #[] #[])
  fields := #[]
  methods := #[k0m0, k0m1]
  instanceTypes := #[]
  staticTypes := #[]
  resolved := Array.replicate 124 none
  statics := none }

def pool1 : Array CpInfo := pool [(2, .class_ 4), (1, u "java/lang/Object"), (0, u "<init>"), (0, u "()V"), (0, .methodref 8 9), (0, .class_ 10), (0, .nameAndType 11 12), (0, u "com/example/enclav/enclav/tam/Reply"), (0, u "message"), (0, u "([B)Lcom/example/enclav/enclav/tam/Reply;"), (0, .methodref 8 14), (0, .nameAndType 15 16), (0, u "end"), (0, u "()Lcom/example/enclav/enclav/tam/Reply;"), (0, .methodref 8 18), (0, .nameAndType 19 16), (0, u "refused"), (0, .methodref 8 21), (0, .nameAndType 11 22), (0, u "()[B"), (0, .methodref 8 24), (0, .nameAndType 25 26), (0, u "status"), (0, u "()I"), (0, .class_ 28), (0, u "com/example/enclav/enclav/tam/ReplyEndPinLaw"), (2, u "law"), (0, u "(I)Z")] 5

def k1m0 : Method := { name := "<init>", desc := "()V", sig := { parameters := [], returnType := none }, accessFlags := 1, code := none }
def k1c1 : Code := { maxStack := 4, maxLocals := 8, code := code, exceptionTable := #[], attributes := #[] }
def k1m1 : Method := { name := "law", desc := "(I)Z", sig := { parameters := [.int], returnType := some .boolean }, accessFlags := 9, code := some k1c1 }
/-- com/example/enclav/enclav/tam/ReplyEndPinLaw -/
def k1 : Class := { plain "com/example/enclav/enclav/tam/ReplyEndPinLaw" (some 0) with
  accessFlags := 49
  interfaces := #[]
  cf := some (fileOf pool1 27 #[] #[{ accessFlags := 1, nameIndex := 5, descriptorIndex := 6, attributes := #[] }, { accessFlags := 9, nameIndex := 31, descriptorIndex := 32, attributes := #[] }] 49 2 #[] #[])
  fields := #[]
  methods := #[k1m0, k1m1]
  instanceTypes := #[]
  staticTypes := #[]
  resolved := Array.replicate 38 none
  statics := none }

def pool2 : Array CpInfo := pool [(1, .methodref 2 3), (0, .class_ 4), (0, .nameAndType 5 6), (0, u "java/lang/Object"), (0, u "<init>"), (0, u "()V"), (0, .fieldref 8 9), (0, .class_ 10), (0, .nameAndType 11 12), (0, u "com/example/enclav/enclav/tam/Reply"), (0, u "status"), (0, u "I"), (0, .fieldref 8 14), (0, .nameAndType 15 16), (0, u "message"), (0, u "[B"), (0, .methodref 8 18), (0, .nameAndType 5 19), (0, u "(I[B)V"), (0, .fieldref 8 21), (0, .nameAndType 22 16), (0, u "EMPTY"), (0, .methodref 24 25), (0, .class_ 16), (0, .nameAndType 26 27), (0, u "clone"), (0, u "()Ljava/lang/Object;"), (2, u "([B)Lcom/example/enclav/enclav/tam/Reply;"), (0, u "end"), (0, u "()Lcom/example/enclav/enclav/tam/Reply;"), (0, u "refused"), (0, u "()I"), (0, u "()[B")] 3

def k2c0 : Code := { maxStack := 2, maxLocals := 3, code := prog_63_method_1_code, exceptionTable := #[], attributes := #[] }
def k2m0 : Method := { name := "<init>", desc := "(I[B)V", sig := { parameters := [.int, (.array .byte)], returnType := none }, accessFlags := 2, code := some k2c0 }
def k2c1 : Code := { maxStack := 4, maxLocals := 1, code := prog_63_method_2_code, exceptionTable := #[], attributes := #[] }
def k2m1 : Method := { name := "message", desc := "([B)Lcom/example/enclav/enclav/tam/Reply;", sig := { parameters := [(.array .byte)], returnType := some (.object "com/example/enclav/enclav/tam/Reply") }, accessFlags := 8, code := some k2c1 }
def k2c2 : Code := { maxStack := 4, maxLocals := 0, code := prog_63_method_3_code, exceptionTable := #[], attributes := #[] }
def k2m2 : Method := { name := "end", desc := "()Lcom/example/enclav/enclav/tam/Reply;", sig := { parameters := [], returnType := some (.object "com/example/enclav/enclav/tam/Reply") }, accessFlags := 8, code := some k2c2 }
def k2c3 : Code := { maxStack := 4, maxLocals := 0, code := prog_63_method_4_code, exceptionTable := #[], attributes := #[] }
def k2m3 : Method := { name := "refused", desc := "()Lcom/example/enclav/enclav/tam/Reply;", sig := { parameters := [], returnType := some (.object "com/example/enclav/enclav/tam/Reply") }, accessFlags := 8, code := some k2c3 }
def k2c4 : Code := { maxStack := 1, maxLocals := 1, code := prog_63_method_5_code, exceptionTable := #[], attributes := #[] }
def k2m4 : Method := { name := "status", desc := "()I", sig := { parameters := [], returnType := some .int }, accessFlags := 1, code := some k2c4 }
def k2c5 : Code := { maxStack := 1, maxLocals := 1, code := prog_63_method_6_code, exceptionTable := #[], attributes := #[] }
def k2m5 : Method := { name := "message", desc := "()[B", sig := { parameters := [], returnType := some (.array .byte) }, accessFlags := 1, code := some k2c5 }
/-- com/example/enclav/enclav/tam/Reply -/
def k2 : Class := { plain "com/example/enclav/enclav/tam/Reply" (some 0) with
  accessFlags := 49
  interfaces := #[]
  cf := some (fileOf pool2 8 #[] #[{ accessFlags := 2, nameIndex := 5, descriptorIndex := 19, attributes := #[] }, { accessFlags := 8, nameIndex := 15, descriptorIndex := 30, attributes := #[] }, { accessFlags := 8, nameIndex := 31, descriptorIndex := 32, attributes := #[] }, { accessFlags := 8, nameIndex := 33, descriptorIndex := 32, attributes := #[] }, { accessFlags := 1, nameIndex := 11, descriptorIndex := 34, attributes := #[] }, { accessFlags := 1, nameIndex := 15, descriptorIndex := 35, attributes := #[] }] 49 2 #[] #[{ accessFlags := 26, nameIndex := 22, descriptorIndex := 16, attributes := #[] }, { accessFlags := 18, nameIndex := 11, descriptorIndex := 12, attributes := #[] }, { accessFlags := 18, nameIndex := 15, descriptorIndex := 16, attributes := #[] }])
  fields := #[{ name := "EMPTY", type := (.array .byte), accessFlags := 26, slot := 0, constantValue := 0 }, { name := "status", type := .int, accessFlags := 18, slot := 0, constantValue := 0 }, { name := "message", type := (.array .byte), accessFlags := 18, slot := 1, constantValue := 0 }]
  methods := #[k2m0, k2m1, k2m2, k2m3, k2m4, k2m5]
  instanceTypes := #[.int, (.array .byte)]
  staticTypes := #[(.array .byte)]
  resolved := Array.replicate 39 none
  statics := some 0 }

def pool3 : Array CpInfo := pool [(1, .class_ 2), (0, u "java/lang/Cloneable"), (0, .class_ 4), (0, u "java/lang/Object")] 2

/-- java/lang/Cloneable -/
def k3 : Class := { plain "java/lang/Cloneable" (some 0) with
  accessFlags := 1537
  interfaces := #[]
  cf := some (fileOf pool3 1 #[] #[] 1537 3 #[] #[])
  fields := #[]
  methods := #[]
  instanceTypes := #[]
  staticTypes := #[]
  resolved := Array.replicate 7 none
  statics := none }

def pool4 : Array CpInfo := pool [(1, u "java/io/Serializable"), (0, .class_ 1), (0, u "java/lang/Object"), (0, .class_ 3)] 3

/-- java/io/Serializable -/
def k4 : Class := { plain "java/io/Serializable" (some 0) with
  accessFlags := 1537
  interfaces := #[]
  cf := some (fileOf pool4 2 #[] #[] 1537 4 #[] #[])
  fields := #[]
  methods := #[]
  instanceTypes := #[]
  staticTypes := #[]
  resolved := Array.replicate 8 none
  statics := none }

/-- the primitive byte -/
def k5 : Class := { plain "byte" none with kind := .primitive 'B', accessFlags := 0x411 }
/-- [B -/
def k6 : Class := { plain "[B" (some 0) with kind := .array 5 .byte, interfaces := #[3, 4], accessFlags := 1041 }

/-- the primitive int -/
def k7 : Class := { plain "int" none with kind := .primitive 'I', accessFlags := 0x411 }
/-- [I -/
def k8 : Class := { plain "[I" (some 0) with kind := .array 7 .int, interfaces := #[3, 4], accessFlags := 1041 }

def heap : Heap := #[{ cls := 2, slots := #[.ref 1], vm := .statics 2 },
  { cls := 6, slots := #[], vm := .none }]
def classes : Array Class := #[k0, k1, k2, k3, k4, k5, k6, k7, k8]
def interned : List (Array UInt16 × Addr) := []
def slotsUsed : Nat := 1
def theMethod : MethodId := ⟨1, 1⟩
def args0 : Array Value := #[.int 5]
def aboutOver (below : List Frame) : State where
  vm := { classes := classes, interned := interned.toArray }
  heap := heap
  slotsUsed := slotsUsed
  threads := #[{ frames := .invoking theMethod args0 :: below }]
def below0 : List Frame := [.native { method := ⟨0, 0⟩, args := #[] }]
def about1 : State := aboutOver below0
def p0 : Program := .bare "" "" ""
def e0 : Env := launch0.env 0 0 0
theorem w_frames : about1.frames = Frame.invoking theMethod args0 :: below0 := rfl
set_option maxRecDepth 65536 in
theorem w_args : argsFit about1.vm theMethod args0 = true := by decide +kernel
set_option maxRecDepth 65536 in
theorem w_heap : heapFits about1 = true := by decide +kernel
set_option maxRecDepth 65536 in
theorem w_runnable : about1.curStatus? = some .runnable := by decide +kernel
set_option maxRecDepth 65536 in
theorem w_alone : about1.alone = true := by decide +kernel
set_option maxRecDepth 65536 in
theorem w_named : about1.methodNamed? x = some theMethod := by decide +kernel
set_option maxRecDepth 65536 in
theorem w_hears : about1.hears theMethod below0 = true := by decide +kernel
set_option maxRecDepth 65536 in
theorem w_ripe : about1.ripe theMethod args0 below0 = true := by decide +kernel
theorem w_running : about1.status = .running := rfl
set_option maxRecDepth 65536 in
theorem w_room : about1.hasRoom e0.platform room_1 = true :=
  launch0.hasRoom_least _ room_1 (by decide +kernel) (by decide +kernel) (by decide +kernel) (by decide +kernel) (by decide +kernel) (by decide +kernel)
theorem allAtoms_all (ts : List Jvm.Cond) (a : Array Jvm.Value) (st : Jvm.State) : (allAtoms ts).before a st = ts.all (fun c => c.before a st) := by
  induction ts with
  | nil => rfl
  | cons c t ih =>
    show (Jvm.Cond.and c (allAtoms t)).before a st = _
    rw [Jvm.Cond.before_and, ih, List.all_cons]
def words1 : List Jvm.Cond := Jvm.Cond.code x code maxLocals ret :: tables_1
/-- a 'code' word, met by the world's own term for the bytes: nothing is compared byte by byte -/
theorem code_word {y : MethodName} {bytes : ByteArray} {mx : Nat} {rt : Option FieldType} {a : Array Value} {s : State} {m : MethodId} {meth : Method} {c : Code} (h1 : s.methodNamed? y = some m) (h2 : s.vm.method? m = some meth) (h3 : meth.code = some c) (h4 : c.code = bytes)
    (h5 : (c.maxLocals == mx && c.exceptionTable.isEmpty && decide (c.maxStack ≤ mostOperands) && decide (meth.sig.returnType = rt) && !meth.locks && decide (parseMethodDescriptor y.desc = some meth.sig)) = true) : (Jvm.Cond.code y bytes mx rt).before a s = true := by
  simp only [Bool.and_eq_true, beq_iff_eq, Bool.not_eq_true', decide_eq_true_eq] at h5
  obtain ⟨⟨⟨⟨⟨g1, g2⟩, g3⟩, g4⟩, g5⟩, g6⟩ := h5
  simp [Cond.before, Cond.holds, Cond.value, h1, h2, h3, h4, g1, g2, g3, g4, g5, g6]
def isCode : Jvm.Cond → Bool
  | .code _ _ _ _ => true
  | _ => false
theorem all_split {L : List Jvm.Cond} {P : Jvm.Cond → Bool} (h1 : L.all (fun c => isCode c || P c) = true) (h2 : ∀ c ∈ L.filter isCode, P c = true) : L.all P = true := by
  refine List.all_eq_true.mpr fun c hc => ?_
  have h := List.all_eq_true.mp h1 c hc
  rcases Bool.eq_false_or_eq_true (isCode c) with hi | hi
  · exact h2 c (List.mem_filter.mpr ⟨hc, hi⟩)
  · simpa [hi] using h
set_option maxRecDepth 65536 in
theorem w_c0 : (Jvm.Cond.code x code maxLocals ret).before args0 about1 = true := code_word (m := ⟨1, 1⟩) (meth := k1m1) (c := k1c1) (by decide +kernel) rfl rfl rfl (by decide +kernel)
set_option maxRecDepth 65536 in
theorem w_c1 : (Jvm.Cond.code ({ cls := "com/example/enclav/enclav/tam/Reply", name := "message", desc := "([B)Lcom/example/enclav/enclav/tam/Reply;" } : Jvm.MethodName) prog_63_method_2_code (1 : Nat) (Option.some (Jvm.ClassFile.FieldType.object "com/example/enclav/enclav/tam/Reply"))).before args0 about1 = true := code_word (m := ⟨2, 1⟩) (meth := k2m1) (c := k2c1) (by decide +kernel) rfl rfl rfl (by decide +kernel)
set_option maxRecDepth 65536 in
theorem w_c2 : (Jvm.Cond.code ({ cls := "com/example/enclav/enclav/tam/Reply", name := "<init>", desc := "(I[B)V" } : Jvm.MethodName) prog_63_method_1_code (3 : Nat) (Option.none : Option Jvm.ClassFile.FieldType)).before args0 about1 = true := code_word (m := ⟨2, 0⟩) (meth := k2m0) (c := k2c0) (by decide +kernel) rfl rfl rfl (by decide +kernel)
set_option maxRecDepth 65536 in
theorem w_c3 : (Jvm.Cond.code ({ cls := "java/lang/Object", name := "<init>", desc := "()V" } : Jvm.MethodName) object_method_1_code (1 : Nat) (Option.none : Option Jvm.ClassFile.FieldType)).before args0 about1 = true := code_word (m := ⟨0, 0⟩) (meth := k0m0) (c := k0c0) (by decide +kernel) rfl rfl rfl (by decide +kernel)
set_option maxRecDepth 65536 in
theorem w_c4 : (Jvm.Cond.code ({ cls := "com/example/enclav/enclav/tam/Reply", name := "end", desc := "()Lcom/example/enclav/enclav/tam/Reply;" } : Jvm.MethodName) prog_63_method_3_code (0 : Nat) (Option.some (Jvm.ClassFile.FieldType.object "com/example/enclav/enclav/tam/Reply"))).before args0 about1 = true := code_word (m := ⟨2, 2⟩) (meth := k2m2) (c := k2c2) (by decide +kernel) rfl rfl rfl (by decide +kernel)
set_option maxRecDepth 65536 in
theorem w_c5 : (Jvm.Cond.code ({ cls := "com/example/enclav/enclav/tam/Reply", name := "refused", desc := "()Lcom/example/enclav/enclav/tam/Reply;" } : Jvm.MethodName) prog_63_method_4_code (0 : Nat) (Option.some (Jvm.ClassFile.FieldType.object "com/example/enclav/enclav/tam/Reply"))).before args0 about1 = true := code_word (m := ⟨2, 3⟩) (meth := k2m3) (c := k2c3) (by decide +kernel) rfl rfl rfl (by decide +kernel)
set_option maxRecDepth 65536 in
theorem w_c6 : (Jvm.Cond.code ({ cls := "com/example/enclav/enclav/tam/Reply", name := "message", desc := "()[B" } : Jvm.MethodName) prog_63_method_6_code (1 : Nat) (Option.some (Jvm.ClassFile.FieldType.array Jvm.ClassFile.FieldType.byte))).before args0 about1 = true := code_word (m := ⟨2, 5⟩) (meth := k2m5) (c := k2c5) (by decide +kernel) rfl rfl rfl (by decide +kernel)
set_option maxRecDepth 65536 in
theorem w_c7 : (Jvm.Cond.code ({ cls := "com/example/enclav/enclav/tam/Reply", name := "status", desc := "()I" } : Jvm.MethodName) prog_63_method_5_code (1 : Nat) (Option.some Jvm.ClassFile.FieldType.int)).before args0 about1 = true := code_word (m := ⟨2, 4⟩) (meth := k2m4) (c := k2c4) (by decide +kernel) rfl rfl rfl (by decide +kernel)
def codes1 : List Jvm.Cond := [Jvm.Cond.code x code maxLocals ret, Jvm.Cond.code ({ cls := "com/example/enclav/enclav/tam/Reply", name := "message", desc := "([B)Lcom/example/enclav/enclav/tam/Reply;" } : Jvm.MethodName) prog_63_method_2_code (1 : Nat) (Option.some (Jvm.ClassFile.FieldType.object "com/example/enclav/enclav/tam/Reply")), Jvm.Cond.code ({ cls := "com/example/enclav/enclav/tam/Reply", name := "<init>", desc := "(I[B)V" } : Jvm.MethodName) prog_63_method_1_code (3 : Nat) (Option.none : Option Jvm.ClassFile.FieldType), Jvm.Cond.code ({ cls := "java/lang/Object", name := "<init>", desc := "()V" } : Jvm.MethodName) object_method_1_code (1 : Nat) (Option.none : Option Jvm.ClassFile.FieldType), Jvm.Cond.code ({ cls := "com/example/enclav/enclav/tam/Reply", name := "end", desc := "()Lcom/example/enclav/enclav/tam/Reply;" } : Jvm.MethodName) prog_63_method_3_code (0 : Nat) (Option.some (Jvm.ClassFile.FieldType.object "com/example/enclav/enclav/tam/Reply")), Jvm.Cond.code ({ cls := "com/example/enclav/enclav/tam/Reply", name := "refused", desc := "()Lcom/example/enclav/enclav/tam/Reply;" } : Jvm.MethodName) prog_63_method_4_code (0 : Nat) (Option.some (Jvm.ClassFile.FieldType.object "com/example/enclav/enclav/tam/Reply")), Jvm.Cond.code ({ cls := "com/example/enclav/enclav/tam/Reply", name := "message", desc := "()[B" } : Jvm.MethodName) prog_63_method_6_code (1 : Nat) (Option.some (Jvm.ClassFile.FieldType.array Jvm.ClassFile.FieldType.byte)), Jvm.Cond.code ({ cls := "com/example/enclav/enclav/tam/Reply", name := "status", desc := "()I" } : Jvm.MethodName) prog_63_method_5_code (1 : Nat) (Option.some Jvm.ClassFile.FieldType.int)]
set_option maxRecDepth 65536 in
theorem codes_eq : words1.filter isCode = codes1 := rfl
theorem w_codes : ∀ c ∈ words1.filter isCode, c.before args0 about1 = true := by
  rw [codes_eq]
  intro c hc
  simp only [codes1, List.mem_cons, List.not_mem_nil, or_false] at hc
  rcases hc with rfl | rfl | rfl | rfl | rfl | rfl | rfl | rfl
  · exact w_c0
  · exact w_c1
  · exact w_c2
  · exact w_c3
  · exact w_c4
  · exact w_c5
  · exact w_c6
  · exact w_c7
set_option maxRecDepth 65536 in
theorem w_t1 : (words1.take 24).all (fun c => isCode c || c.before args0 about1) = true := by decide +kernel
set_option maxRecDepth 65536 in
theorem w_t2 : (words1.drop 24).all (fun c => isCode c || c.before args0 about1) = true := by decide +kernel
theorem w_tables : (allAtoms (Jvm.Cond.code x code maxLocals ret :: tables_1)).before args0 about1 = true := by
  rw [allAtoms_all]
  show words1.all (fun c => c.before args0 about1) = true
  refine all_split ?_ w_codes
  rw [← List.take_append_drop 24 words1, List.all_append, w_t1, w_t2]
  rfl
set_option maxRecDepth 65536 in
theorem w_case : (Jvm.Cond.and given_1 narrow_1).before args0 about1 = true := by decide +kernel
theorem w_applies : (headSpec (Jvm.Cond.code x code maxLocals ret :: tables_1) room_1).applies x e0.platform about1 = true :=
  (Spec.applies_iff w_frames).mpr ⟨w_running, w_runnable, w_alone, w_named, w_hears, w_ripe, w_room, w_tables⟩
theorem atStart : AtStart classFile x code maxLocals ret World_1 tables_1 room_1 Calls_1 rest_1 Pre_1 launch0 p0 e0 about1 theMethod args0 below0 :=
  ⟨lists_1, trivial, launch0.admits_env _ _ _, launch0.least_env, fairChoices_fair.cas, fairChoices_fair.clock, w_frames, w_args, w_heap, w_applies, trivial, trivial, w_case⟩
end start1
theorem witness_1 : WitnessClaimed_1 := ⟨start1.p0, start1.e0, start1.about1, start1.theMethod, start1.args0, start1.below0, start1.atStart⟩
end Jvm.Pilot.@@N@@
