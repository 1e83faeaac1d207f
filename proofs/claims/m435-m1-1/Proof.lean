import JvmDerived
import JvmDerived.Pilot.@@N@@Statement
import JvmDerived.Pilot.@@N@@Code
set_option linter.unusedVariables false
set_option linter.unusedSimpArgs false
namespace Jvm.RoadKit
open Sem ClassFile Op Lib Jvm.Stand Jvm.Free Jvm.LawKit
section New
variable {p : Program} {l : Launch} {e : Env} {R : Room} {s : State} {m : MethodId} {args : Array Value} {below : List Frame} {meth : Method} {c : Code} {T : State} {locs : List Loc} {cells slots : Nat}
theorem retI (X : Stand p l e R s m args below meth c T locs cells slots) (hx : p.tables.exec = Jvm.exec) {pc : Nat} {Ls : Array Slot} {z : Int32} {rest : List Value} (hret : meth.sig.returnType = some .int) (hd : decode c.code pc = .ok (.ireturn, 1)) {fs : List Frame}
    (hl : ∀ (f : JFrame) (acts : List Action), f.method = m → f.locked = none → f.entered = [] → (doReturn e (T.setTop f) acts (some (.int z))).1 = T.setFrames fs) : Steps p.tables e below (T.setTop (mkF m pc Ls (.int z :: rest))) (T.setFrames fs) := by
  have hm' : T.vm.method? m = some meth := X.method'
  have hn : narrow .int (.int z) = .int z := rfl
  show Steps p.tables e below (T.setTop { method := m, pc := pc, locals := Ls, stack := _ :: rest, locked := none }) _
  jvm_step X.here [X.here.top, hx, hd, hm', hret, hn]
  first | (intro acts; rw [hl _ acts rfl rfl rfl]) | rw [hl _ _ rfl rfl rfl]
  exact Steps.refl _
end New
end Jvm.RoadKit
namespace Jvm.Pilot.@@N@@
open Jvm Jvm.ClassFile Sem Op Lib Jvm.Free Jvm.Stand Jvm.LawKit Jvm.RoadKit Bundle Jvm.Pilot.@@N@@.Jvm.D
theorem own_retJ {p : Program} {l : Launch} {e : Env} {R : Room} {s : State} {m : MethodId} {args : Array Value} {below : List Frame} {meth : Method} {c : Code} {T : State} {locs : List Loc} {cells slots : Nat} (X : Stand p l e R s m args below meth c T locs cells slots) (hx : p.tables.exec = Jvm.exec) {pc : Nat} {Ls : Array Slot} {z : Int64} {rest : List Value} (hret : meth.sig.returnType = some .long) (hd : decode c.code pc = .ok (.lreturn, 1)) {fs : List Frame}
    (hl : ∀ (f : JFrame) (acts : List Action), f.method = m → f.locked = none → f.entered = [] → (doReturn e (T.setTop f) acts (some (.long z))).1 = T.setFrames fs) : Steps p.tables e below (T.setTop (mkF m pc Ls (.long z :: rest))) (T.setFrames fs) := by
  have hm' : T.vm.method? m = some meth := X.method'
  have hn : narrow .long (.long z) = .long z := rfl
  show Steps p.tables e below (T.setTop { method := m, pc := pc, locals := Ls, stack := _ :: rest, locked := none }) _
  jvm_step X.here [X.here.top, hx, hd, hm', hret, hn]
  first | (intro acts; rw [hl _ acts rfl rfl rfl]) | rw [hl _ _ rfl rfl rfl]
  exact Steps.refl _
theorem own_retD {p : Program} {l : Launch} {e : Env} {R : Room} {s : State} {m : MethodId} {args : Array Value} {below : List Frame} {meth : Method} {c : Code} {T : State} {locs : List Loc} {cells slots : Nat} (X : Stand p l e R s m args below meth c T locs cells slots) (hx : p.tables.exec = Jvm.exec) {pc : Nat} {Ls : Array Slot} {z : UInt64} {rest : List Value} (hret : meth.sig.returnType = some .double) (hd : decode c.code pc = .ok (.dreturn, 1)) {fs : List Frame}
    (hl : ∀ (f : JFrame) (acts : List Action), f.method = m → f.locked = none → f.entered = [] → (doReturn e (T.setTop f) acts (some (.double z))).1 = T.setFrames fs) : Steps p.tables e below (T.setTop (mkF m pc Ls (.double z :: rest))) (T.setFrames fs) := by
  have hm' : T.vm.method? m = some meth := X.method'
  have hn : narrow .double (.double z) = .double z := rfl
  show Steps p.tables e below (T.setTop { method := m, pc := pc, locals := Ls, stack := _ :: rest, locked := none }) _
  jvm_step X.here [X.here.top, hx, hd, hm', hret, hn]
  first | (intro acts; rw [hl _ acts rfl rfl rfl]) | rw [hl _ _ rfl rfl rfl]
  exact Steps.refl _
theorem own_sta_keep {Z : State} {h h' : Heap} {C n d : String} {v : Value} {ws : List Addr} (F : Sta Z h C n d v) (K : Keep h h' ws) (q : ∀ x ∈ ws, ∀ c : Cell, h[x]? = some c → c.vm.isStatics = false) : Sta Z h' C n d v := by
  obtain ⟨cf, i, k, f, st, cell, h1, h2, h3, h4, h5, h6, h7⟩ := F
  exact ⟨cf, i, k, f, st, cell, h1, h2, h3, h4, K.2.1 st cell h5 (fun z => by have := q st z cell h5; rw [h6] at this; cases this), h6, h7⟩
theorem own_ins_keep {Z : State} {h h' : Heap} {a : Addr} {C : String} {b : Bool} {ws : List Addr} (F : Ins Z h a C b) (K : Keep h h' ws) : Ins Z h' a C b := by
  obtain ⟨cell, cT, h1, h2, h3⟩ := F
  obtain ⟨c', e1, e2, e3, -⟩ := K.2.2 a cell h1
  exact ⟨c', cT, e1, h2, by rw [e2, e3]; exact h3⟩
theorem own_pl0 {h : Heap} : ∀ x ∈ ([] : List Addr), ∀ c : Cell, h[x]? = some c → c.vm.isStatics = false := fun _ q => nomatch q
theorem own_plS {h : Heap} {y : Addr} {L : List Addr} (q : ∀ c : Cell, h[y]? = some c → c.vm.isStatics = false) (r : ∀ x ∈ L, ∀ c : Cell, h[x]? = some c → c.vm.isStatics = false) : ∀ x ∈ y :: L, ∀ c : Cell, h[x]? = some c → c.vm.isStatics = false := fun x z => (List.mem_cons.mp z).elim (fun u => u ▸ q) (r x)
theorem own_pl_exa {Z : State} {h : Heap} {a : Addr} {C : String} (F : Exa Z h a C) : ∀ c : Cell, h[a]? = some c → c.vm.isStatics = false := fun c hc => by
  obtain ⟨cell, k, h1, -, -, h4, -⟩ := F; cases h1.symm.trans hc; exact h4
theorem own_pl_fld {Z : State} {h : Heap} {a : Addr} {C n d : String} {v : Value} (F : Fld Z h a C n d v) : ∀ c : Cell, h[a]? = some c → c.vm.isStatics = false := fun c hc => by
  obtain ⟨cell, cf, k, i, f, h1, -, -, -, h5, -⟩ := F; cases h1.symm.trans hc; exact h5
theorem own_pl_arv {Z : State} {h : Heap} {a : Addr} {k : ClassId} {ty : FieldType} {z : Int32} {vs : List Value} {d : Value} (F : Arv Z h a k ty z vs d) : ∀ c : Cell, h[a]? = some c → c.vm.isStatics = false := fun c hc => by
  obtain ⟨cl, A, -⟩ := F; cases A.1.symm.trans hc; exact A.plain
theorem own_len {s : State} {args : Array Value} {t : Term} {a : Addr} {cl : Cell} {ty : FieldType} {z : Int32} (ev : t.eval args s none [] s = some (.ref a)) (A : Arr s s.heap a cl ty) (n3 : (Jvm.Cond.eq (.length t) (.int z)).value args s none s [] = some true) : cl.slots.size < 2 ^ 31 ∧ cl.slots.size.toInt32 = z := by
  have hlen := Cond.eq_int (Cond.before_iff.mpr n3) (Term.int_eval z)
  have hat : s.arrayAt? a = some cl := A.fin (Vm.Alike.refl _)
  have h31 := SBG.length_lt ev hat hlen
  obtain ⟨a', cell, e1, e2, e3⟩ := Term.length_spec hlen
  cases e1.symm.trans ev
  cases e2.symm.trans hat
  exact ⟨h31, (Value.int.inj e3).symm⟩
theorem own_elem {s : State} {args : Array Value} {t u : Term} {a : Addr} {cl : Cell} {ty : FieldType} {i : Int32} {v : Value} (ev : t.eval args s none [] s = some (.ref a)) (A : Arr s s.heap a cl ty) (h : (Jvm.Cond.eq (.elem t (.int i)) u).value args s none s [] = some true) (hu : u.eval args s none [] s = some v) (hv : v.isRef = true) : cl.slots[i.toNatClampNeg]? = some v :=
  (elem_in (Cond.eq_refs (Cond.before_iff.mpr h) hu hv) ev (Term.int_eval i) A.1).2
theorem own_fld {s : State} {args : Array Value} {t : Term} {a : Addr} {C n d : String} {z : Int32} (ev : t.eval args s none [] s = some (.ref a)) (h : (Jvm.Cond.eq (.field t C n d) (.int z)).value args s none s [] = some true) : Fld s s.heap a C n d (.int z) :=
  Fld.start ((fld_at ev).symm.trans (Cond.eq_int (Cond.before_iff.mpr h) (Term.int_eval z)))
theorem own_sta {s : State} {args : Array Value} {C n d K : String} (w1 : (Jvm.Cond.initialized C).before args s = true) (w2 : (Jvm.Cond.laysStatic C n d).before args s = true) (h : (Jvm.Cond.exactly (.static C n d) K).value args s none s [] = some true) : ∃ a : Addr, (Term.static C n d).eval args s none [] s = some (.ref a) ∧ Sta s s.heap C n d (.ref a) ∧ Exa s s.heap a K := by
  obtain ⟨a, ev⟩ := exa_v h
  exact ⟨a, ev, Sta.start ev (Or.inr ⟨w1, w2⟩), Exa.start ev h⟩
def own_of (i : Int32) (j r : Addr) : Value := if (1903654775 : Int32) = i then .ref j else if (-2012129793 : Int32) = i then .ref r else .null
def own_exp (i : Int32) (j r : Addr) : Value := if i = (1903654775 : Int32) then .ref j else if i = (-2012129793 : Int32) then .ref r else .null
theorem own_eq (i : Int32) (j r : Addr) : own_of i j r = own_exp i j r := by
  unfold own_of own_exp
  simp only [eq_comm (a := (1903654775 : Int32)), eq_comm (a := (-2012129793 : Int32))]
theorem own_ref1 (i : Int32) (j r : Addr) : (own_of i j r).isRef = true := by
  unfold own_of; split
  · rfl
  · split <;> rfl
theorem own_ref2 (i : Int32) (j r : Addr) : (own_exp i j r).isRef = true := by rw [← own_eq]; exact own_ref1 i j r
theorem d1_0 : decode prog_58_method_4_code 0 = .ok (.getstatic 33, 3) := by decide +kernel
theorem d1_3 : decode prog_58_method_4_code 3 = .ok (.astore_n 1, 1) := by decide +kernel
theorem d1_4 : decode prog_58_method_4_code 4 = .ok (.aload_n 1, 1) := by decide +kernel
theorem d1_5 : decode prog_58_method_4_code 5 = .ok (.arraylength, 1) := by decide +kernel
theorem d1_6 : decode prog_58_method_4_code 6 = .ok (.istore_n 2, 1) := by decide +kernel
theorem d1_7 : decode prog_58_method_4_code 7 = .ok (.iconst 0, 1) := by decide +kernel
theorem d1_8 : decode prog_58_method_4_code 8 = .ok (.istore_n 3, 1) := by decide +kernel
theorem d1_9 : decode prog_58_method_4_code 9 = .ok (.iload_n 3, 1) := by decide +kernel
theorem d1_10 : decode prog_58_method_4_code 10 = .ok (.iload_n 2, 1) := by decide +kernel
theorem d1_11 : decode prog_58_method_4_code 11 = .ok (.if_icmp .ge 26, 3) := by decide +kernel
theorem d1_14 : decode prog_58_method_4_code 14 = .ok (.aload_n 1, 1) := by decide +kernel
theorem d1_15 : decode prog_58_method_4_code 15 = .ok (.iload_n 3, 1) := by decide +kernel
theorem d1_16 : decode prog_58_method_4_code 16 = .ok (.aaload, 1) := by decide +kernel
theorem d1_17 : decode prog_58_method_4_code 17 = .ok (.astore 4, 2) := by decide +kernel
theorem d1_19 : decode prog_58_method_4_code 19 = .ok (.aload 4, 2) := by decide +kernel
theorem d1_21 : decode prog_58_method_4_code 21 = .ok (.getfield 29, 3) := by decide +kernel
theorem d1_24 : decode prog_58_method_4_code 24 = .ok (.iload_n 0, 1) := by decide +kernel
theorem d1_25 : decode prog_58_method_4_code 25 = .ok (.if_icmp .ne 6, 3) := by decide +kernel
theorem d1_28 : decode prog_58_method_4_code 28 = .ok (.aload 4, 2) := by decide +kernel
theorem d1_30 : decode prog_58_method_4_code 30 = .ok (.areturn, 1) := by decide +kernel
theorem d1_31 : decode prog_58_method_4_code 31 = .ok (.iinc 3 1, 3) := by decide +kernel
theorem d1_34 : decode prog_58_method_4_code 34 = .ok (.goto (-25), 3) := by decide +kernel
theorem d1_37 : decode prog_58_method_4_code 37 = .ok (.aconst_null, 1) := by decide +kernel
theorem d1_38 : decode prog_58_method_4_code 38 = .ok (.areturn, 1) := by decide +kernel
theorem pn_com_example_inkblock_inkblock_reader_ChannelLayout : plainName "com/example/inkblock/inkblock/reader/ChannelLayout" = true := by first | (simp [plainName, overriddenIn]; done) | decide +kernel
theorem ef_1 (m : MethodId) (p1 : Int32) : entryFrame m #[(.int p1)] 5 = mkF m 0 #[.val (.int p1), .unset, .unset, .unset, .unset] [] := by first | (simp [entryFrame, mkF, argsToLocals, Value.category]; done) | rfl
def Q1 (Z : State) (p1 : Int32) (pa : Addr) (pk : ClassId) (oj : Addr) (or_ : Addr) (h0 : Heap) (n0 : Nat) (v : Option Value) (h : Heap) (L : List Loc) : Prop := v = some (own_of p1 oj or_) ∧ Fr n0 L ∧ h = h0
set_option maxRecDepth 65536 in
set_option maxHeartbeats 40000000 in
theorem rm1 (l : Launch) (Z : State) (a0 : Array Value) (hw : ∀ d ∈ tables_1, d.before a0 Z = true) (ws : List Jvm.Cond) (p1 : Int32) (pa : Addr) (pk : ClassId) (oj : Addr) (or_ : Addr) (h0 : Heap) (n0 : Nat) (Z0 : n0 ≤ h0.size) (H0 : Sta Z h0 "com/example/inkblock/inkblock/reader/ChannelLayout" "PREFERRED" "[Lcom/example/inkblock/inkblock/reader/ChannelLayout;" (.ref pa)) (H1 : Sta Z h0 "com/example/inkblock/inkblock/reader/ChannelLayout" "JSON" "Lcom/example/inkblock/inkblock/reader/ChannelLayout;" (.ref oj)) (H2 : Sta Z h0 "com/example/inkblock/inkblock/reader/ChannelLayout" "RAW" "Lcom/example/inkblock/inkblock/reader/ChannelLayout;" (.ref or_)) (H3 : Arv Z h0 pa pk (.object "com/example/inkblock/inkblock/reader/ChannelLayout") (2 : Int32) [(.ref oj), (.ref or_)] .null) (H4 : Fld Z h0 oj "com/example/inkblock/inkblock/reader/ChannelLayout" "pairId" "I" (.int (1903654775 : Int32))) (H5 : Fld Z h0 or_ "com/example/inkblock/inkblock/reader/ChannelLayout" "pairId" "I" (.int (-2012129793 : Int32))) :
    MetFree l (⟨"com/example/inkblock/inkblock/reader/ChannelLayout", "of", "(I)Lcom/example/inkblock/inkblock/reader/ChannelLayout;"⟩ : MethodName) (head1 (Jvm.Cond.code (⟨"com/example/inkblock/inkblock/reader/ChannelLayout", "of", "(I)Lcom/example/inkblock/inkblock/reader/ChannelLayout;"⟩ : MethodName) prog_58_method_4_code 5 (some (.object "com/example/inkblock/inkblock/reader/ChannelLayout")) :: ws) ({ frames := 0, cells := 0, slots := 0, locals := 0 } : Room)) (fun a U => a = #[(.int p1)] ∧ Z.Warmed39 U.vm ∧ U.heap = h0) (fun _ _ _ _ _ => True) (fun _ U o U' => ∃ v L, o = .returned v ∧ Q1 Z p1 pa pk oj or_ h0 n0 v U'.heap L ∧ FrameEnd U o U' L ({ frames := 0, cells := 0, slots := 0, locals := 0 } : Room).cells ({ frames := 0, cells := 0, slots := 0, locals := 0 } : Room).slots) := by
  refine MetFree.of_bodySF (plainFor_of_name pn_com_example_inkblock_inkblock_reader_ChannelLayout) hisR ?_
  intro p e s m args below meth c s₁ Bd hml0 hP hK
  obtain ⟨rfl, hZ, hh⟩ := hP
  have hx := Bd.exec
  have hby := Bd.bytes
  have hml : c.maxLocals = 5 := hml0
  have hown : s.vm.findClass "com/example/inkblock/inkblock/reader/ChannelLayout" = some m.cls := findClass_of_methodNamed Bd.named
  have hnm := (name_of_methodNamed Bd.named Bd.method).1
  have X0 : Stand p l e ({ frames := 0, cells := 0, slots := 0, locals := 0 } : Room) s m #[(.int p1)] below meth c s₁ [] 0 0 := Stand.of_body Bd
  have e0 : s₁.heap = h0 := by rw [← hh, Bd.state]; rfl
  have N0 := Fr.nil n0
  have pre0 : ∀ t, Steps p.tables e below (s₁.setTop (mkF m 0 #[.val (.int p1), .unset, .unset, .unset, .unset] [])) t → Steps p.tables e below (s₁.setTop (entryFrame m #[(.int p1)] 5)) t := fun t k => castTop (ef_1 m p1) k
  obtain ⟨T101, X101, e101, st101⟩ := getS2 X0 hx hZ hown (host := "") (Or.inl (hw _ (List.mem_of_getElem? (i := 5) rfl))) Via.refl e0 H0 (g := (mkF m 0 #[.val (.int p1), .unset, .unset, .unset, .unset] [])) rfl (hb hby d1_0)
  obtain ⟨cl102, Ar102, -, S102, M102, -, -⟩ := id H3
  obtain ⟨cl103, Ar103, qc103, S103, M103, Hh103, G103⟩ := id H3
  have hin103 : ¬ ((0 : Int32) < 0 ∨ cl103.slots.size ≤ ((0 : Int32)).toNatClampNeg) := inb_of S103 ⟨by decide, by decide⟩
  obtain ⟨T104, X104, e104, st104⟩ := getF X101 hx hZ hown (host := "") (Or.inl (hw _ (List.mem_of_getElem? (i := 8) rfl))) Via.refl e101 H4 (g := (mkF m 21 #[.val (.int p1), .val (.ref pa), .val (.int (2 : Int32)), .val (.int (0 : Int32)), .val (.ref oj)] [(.ref oj)])) rfl rfl (hb hby d1_21)
  have pre105 : ∀ t, Steps p.tables e below (T104.setTop (mkF m 25 #[.val (.int p1), .val (.ref pa), .val (.int (2 : Int32)), .val (.int (0 : Int32)), .val (.ref oj)] [(.int p1), (.int (1903654775 : Int32))])) t → Steps p.tables e below (s₁.setTop (entryFrame m #[(.int p1)] 5)) t := fun t kt => by
    refine pre0 t ?_
    show Steps p.tables e below (s₁.setTop (mkF m 0 #[.val (.int p1), .unset, .unset, .unset, .unset] [])) _
    refine st101 _ ?_
    show Steps p.tables e below (T101.setTop (mkF m 3 #[.val (.int p1), .unset, .unset, .unset, .unset] [(.ref pa)])) _
    refine XS.astoreN X101.here hx rfl (hb hby d1_3) rfl rfl (l' := #[.val (.int p1), .val (.ref pa), .unset, .unset, .unset]) rfl ?_
    show Steps p.tables e below (T101.setTop (mkF m 4 #[.val (.int p1), .val (.ref pa), .unset, .unset, .unset] [])) _
    refine XS.aloadN X101.here hx rfl (hb hby d1_4) rfl rfl ?_
    show Steps p.tables e below (T101.setTop (mkF m 5 #[.val (.int p1), .val (.ref pa), .unset, .unset, .unset] [(.ref pa)])) _
    refine X101.arraylength hx (by rw [e101]; exact Ar102.1) (State.isArrayOf_alike hZ.alike Ar102.2.1) (g := (mkF m 5 #[.val (.int p1), .val (.ref pa), .unset, .unset, .unset] [(.ref pa)])) rfl rfl (hb hby d1_5) _ ?_
    rw [len_of S102 M102]
    show Steps p.tables e below (T101.setTop (mkF m 6 #[.val (.int p1), .val (.ref pa), .unset, .unset, .unset] [(.int (2 : Int32))])) _
    refine XS.istoreN X101.here hx rfl (hb hby d1_6) rfl (l' := #[.val (.int p1), .val (.ref pa), .val (.int (2 : Int32)), .unset, .unset]) rfl ?_
    show Steps p.tables e below (T101.setTop (mkF m 7 #[.val (.int p1), .val (.ref pa), .val (.int (2 : Int32)), .unset, .unset] [])) _
    refine XS.iconst X101.here hx rfl (hb hby d1_7) ?_
    show Steps p.tables e below (T101.setTop (mkF m 8 #[.val (.int p1), .val (.ref pa), .val (.int (2 : Int32)), .unset, .unset] [(.int (0 : Int32))])) _
    refine XS.istoreN X101.here hx rfl (hb hby d1_8) rfl (l' := #[.val (.int p1), .val (.ref pa), .val (.int (2 : Int32)), .val (.int (0 : Int32)), .unset]) rfl ?_
    show Steps p.tables e below (T101.setTop (mkF m 9 #[.val (.int p1), .val (.ref pa), .val (.int (2 : Int32)), .val (.int (0 : Int32)), .unset] [])) _
    refine XS.iloadN X101.here hx rfl (hb hby d1_9) rfl ?_
    show Steps p.tables e below (T101.setTop (mkF m 10 #[.val (.int p1), .val (.ref pa), .val (.int (2 : Int32)), .val (.int (0 : Int32)), .unset] [(.int (0 : Int32))])) _
    refine XS.iloadN X101.here hx rfl (hb hby d1_10) rfl ?_
    show Steps p.tables e below (T101.setTop (mkF m 11 #[.val (.int p1), .val (.ref pa), .val (.int (2 : Int32)), .val (.int (0 : Int32)), .unset] [(.int (2 : Int32)), (.int (0 : Int32))])) _
    refine XS.icmpNo X101.here hx rfl (hb hby d1_11) rfl (tlt (by decide : (0 : Int32) < (2 : Int32))).2.1 ?_
    show Steps p.tables e below (T101.setTop (mkF m 14 #[.val (.int p1), .val (.ref pa), .val (.int (2 : Int32)), .val (.int (0 : Int32)), .unset] [])) _
    refine XS.aloadN X101.here hx rfl (hb hby d1_14) rfl rfl ?_
    show Steps p.tables e below (T101.setTop (mkF m 15 #[.val (.int p1), .val (.ref pa), .val (.int (2 : Int32)), .val (.int (0 : Int32)), .unset] [(.ref pa)])) _
    refine XS.iloadN X101.here hx rfl (hb hby d1_15) rfl ?_
    show Steps p.tables e below (T101.setTop (mkF m 16 #[.val (.int p1), .val (.ref pa), .val (.int (2 : Int32)), .val (.int (0 : Int32)), .unset] [(.int (0 : Int32)), (.ref pa)])) _
    refine X101.aaload hx (j := (0 : Int32)) (v := (.ref oj)) (by rw [e101]; exact Ar103.1) (State.isArrayOf_alike hZ.alike Ar103.2.1) rfl Ar103.2.2 hin103 (Hh103.at hin103 (rfl)) (g := (mkF m 16 #[.val (.int p1), .val (.ref pa), .val (.int (2 : Int32)), .val (.int (0 : Int32)), .unset] [(.int (0 : Int32)), (.ref pa)])) rfl rfl (hb hby d1_16) _ ?_
    show Steps p.tables e below (T101.setTop (mkF m 17 #[.val (.int p1), .val (.ref pa), .val (.int (2 : Int32)), .val (.int (0 : Int32)), .unset] [(.ref oj)])) _
    refine XS.astore X101.here hx rfl (hb hby d1_17) rfl rfl (l' := #[.val (.int p1), .val (.ref pa), .val (.int (2 : Int32)), .val (.int (0 : Int32)), .val (.ref oj)]) rfl ?_
    show Steps p.tables e below (T101.setTop (mkF m 19 #[.val (.int p1), .val (.ref pa), .val (.int (2 : Int32)), .val (.int (0 : Int32)), .val (.ref oj)] [])) _
    refine XS.aload X101.here hx rfl (hb hby d1_19) rfl rfl ?_
    show Steps p.tables e below (T101.setTop (mkF m 21 #[.val (.int p1), .val (.ref pa), .val (.int (2 : Int32)), .val (.int (0 : Int32)), .val (.ref oj)] [(.ref oj)])) _
    refine st104 _ ?_
    show Steps p.tables e below (T104.setTop (mkF m 24 #[.val (.int p1), .val (.ref pa), .val (.int (2 : Int32)), .val (.int (0 : Int32)), .val (.ref oj)] [(.int (1903654775 : Int32))])) _
    refine XS.iloadN X104.here hx rfl (hb hby d1_24) rfl ?_
    show Steps p.tables e below (T104.setTop (mkF m 25 #[.val (.int p1), .val (.ref pa), .val (.int (2 : Int32)), .val (.int (0 : Int32)), .val (.ref oj)] [(.int p1), (.int (1903654775 : Int32))])) _
    exact kt
  by_cases hc25_106 : (1903654775 : Int32) = p1
  · skip
    obtain ⟨fs, hr, hrun, hended, hW, hsame⟩ := X104.leave (v := some (.ref oj)) (fun h => by rw [Bd.returns] at h; cases h)
    refine ⟨_, _, pre105 _ ?_, hrun, hended, _, _, rfl, ?_, ⟨_, rfl⟩, hW, hsame.mono (by decide) (by decide)⟩
    · skip
      show Steps p.tables e below (T104.setTop (mkF m 25 #[.val (.int p1), .val (.ref pa), .val (.int (2 : Int32)), .val (.int (0 : Int32)), .val (.ref oj)] [(.int p1), (.int (1903654775 : Int32))])) _
      refine XS.icmpNo X104.here hx rfl (hb hby d1_25) rfl (teq (hc25_106 : (1903654775 : Int32) = p1)).2 ?_
      show Steps p.tables e below (T104.setTop (mkF m 28 #[.val (.int p1), .val (.ref pa), .val (.int (2 : Int32)), .val (.int (0 : Int32)), .val (.ref oj)] [])) _
      refine XS.aload X104.here hx rfl (hb hby d1_28) rfl rfl ?_
      show Steps p.tables e below (T104.setTop (mkF m 30 #[.val (.int p1), .val (.ref pa), .val (.int (2 : Int32)), .val (.int (0 : Int32)), .val (.ref oj)] [(.ref oj)])) _
      jvm_step X104.here [X104.here.top, hx, (hb hby d1_30), X104.method', Bd.returns, Value.isRef, FieldType.isReference]
      first | (intro acts; rw [hr _ acts rfl rfl rfl]) | rw [hr _ _ rfl rfl rfl]
      exact Steps.refl _
    · show Q1 Z p1 pa pk oj or_ h0 n0 _ T104.heap _
      rw [e104]
      exact ⟨(by simp only [own_of, eq_true hc25_106, if_true, if_false]), N0, rfl⟩
  · skip
    obtain ⟨cl107, Ar107, qc107, S107, M107, Hh107, G107⟩ := id H3
    have hin107 : ¬ ((1 : Int32) < 0 ∨ cl107.slots.size ≤ ((1 : Int32)).toNatClampNeg) := inb_of S107 ⟨by decide, by decide⟩
    obtain ⟨T108, X108, e108, st108⟩ := getF X104 hx hZ hown (host := "") (Or.inl (hw _ (List.mem_of_getElem? (i := 8) rfl))) Via.refl e104 H5 (g := (mkF m 21 #[.val (.int p1), .val (.ref pa), .val (.int (2 : Int32)), .val (.int (1 : Int32)), .val (.ref or_)] [(.ref or_)])) rfl rfl (hb hby d1_21)
    have pre109 : ∀ t, Steps p.tables e below (T108.setTop (mkF m 25 #[.val (.int p1), .val (.ref pa), .val (.int (2 : Int32)), .val (.int (1 : Int32)), .val (.ref or_)] [(.int p1), (.int (-2012129793 : Int32))])) t → Steps p.tables e below (s₁.setTop (entryFrame m #[(.int p1)] 5)) t := fun t kt => by
      refine pre105 t ?_
      show Steps p.tables e below (T104.setTop (mkF m 25 #[.val (.int p1), .val (.ref pa), .val (.int (2 : Int32)), .val (.int (0 : Int32)), .val (.ref oj)] [(.int p1), (.int (1903654775 : Int32))])) _
      refine XS.icmpYes X104.here hx rfl (pc0 := 25) (pc' := 31) rfl (hb hby d1_25) rfl (feq (hc25_106 : ¬ ((1903654775 : Int32) = p1))).2 (by decide) (by decide) ?_
      show Steps p.tables e below (T104.setTop (mkF m 31 #[.val (.int p1), .val (.ref pa), .val (.int (2 : Int32)), .val (.int (0 : Int32)), .val (.ref oj)] [])) _
      refine XS.iinc X104.here hx rfl (hb hby d1_31) rfl (l' := #[.val (.int p1), .val (.ref pa), .val (.int (2 : Int32)), .val (.int ((0 : Int32) + (1 : Int32))), .val (.ref oj)]) rfl ?_
      show Steps p.tables e below (T104.setTop (mkF m 34 #[.val (.int p1), .val (.ref pa), .val (.int (2 : Int32)), .val (.int ((0 : Int32) + (1 : Int32))), .val (.ref oj)] [])) _
      rw [show ((0 : Int32) + (1 : Int32)) = (1 : Int32) from by decide]
      show Steps p.tables e below (T104.setTop (mkF m 34 #[.val (.int p1), .val (.ref pa), .val (.int (2 : Int32)), .val (.int (1 : Int32)), .val (.ref oj)] [])) _
      refine XS.goto X104.here hx rfl (pc0 := 34) (pc' := 9) rfl (hb hby d1_34) (by decide) (by decide) ?_
      show Steps p.tables e below (T104.setTop (mkF m 9 #[.val (.int p1), .val (.ref pa), .val (.int (2 : Int32)), .val (.int (1 : Int32)), .val (.ref oj)] [])) _
      refine XS.iloadN X104.here hx rfl (hb hby d1_9) rfl ?_
      show Steps p.tables e below (T104.setTop (mkF m 10 #[.val (.int p1), .val (.ref pa), .val (.int (2 : Int32)), .val (.int (1 : Int32)), .val (.ref oj)] [(.int (1 : Int32))])) _
      refine XS.iloadN X104.here hx rfl (hb hby d1_10) rfl ?_
      show Steps p.tables e below (T104.setTop (mkF m 11 #[.val (.int p1), .val (.ref pa), .val (.int (2 : Int32)), .val (.int (1 : Int32)), .val (.ref oj)] [(.int (2 : Int32)), (.int (1 : Int32))])) _
      refine XS.icmpNo X104.here hx rfl (hb hby d1_11) rfl (tlt (by decide : (1 : Int32) < (2 : Int32))).2.1 ?_
      show Steps p.tables e below (T104.setTop (mkF m 14 #[.val (.int p1), .val (.ref pa), .val (.int (2 : Int32)), .val (.int (1 : Int32)), .val (.ref oj)] [])) _
      refine XS.aloadN X104.here hx rfl (hb hby d1_14) rfl rfl ?_
      show Steps p.tables e below (T104.setTop (mkF m 15 #[.val (.int p1), .val (.ref pa), .val (.int (2 : Int32)), .val (.int (1 : Int32)), .val (.ref oj)] [(.ref pa)])) _
      refine XS.iloadN X104.here hx rfl (hb hby d1_15) rfl ?_
      show Steps p.tables e below (T104.setTop (mkF m 16 #[.val (.int p1), .val (.ref pa), .val (.int (2 : Int32)), .val (.int (1 : Int32)), .val (.ref oj)] [(.int (1 : Int32)), (.ref pa)])) _
      refine X104.aaload hx (j := (1 : Int32)) (v := (.ref or_)) (by rw [e104]; exact Ar107.1) (State.isArrayOf_alike hZ.alike Ar107.2.1) rfl Ar107.2.2 hin107 (Hh107.at hin107 (rfl)) (g := (mkF m 16 #[.val (.int p1), .val (.ref pa), .val (.int (2 : Int32)), .val (.int (1 : Int32)), .val (.ref oj)] [(.int (1 : Int32)), (.ref pa)])) rfl rfl (hb hby d1_16) _ ?_
      show Steps p.tables e below (T104.setTop (mkF m 17 #[.val (.int p1), .val (.ref pa), .val (.int (2 : Int32)), .val (.int (1 : Int32)), .val (.ref oj)] [(.ref or_)])) _
      refine XS.astore X104.here hx rfl (hb hby d1_17) rfl rfl (l' := #[.val (.int p1), .val (.ref pa), .val (.int (2 : Int32)), .val (.int (1 : Int32)), .val (.ref or_)]) rfl ?_
      show Steps p.tables e below (T104.setTop (mkF m 19 #[.val (.int p1), .val (.ref pa), .val (.int (2 : Int32)), .val (.int (1 : Int32)), .val (.ref or_)] [])) _
      refine XS.aload X104.here hx rfl (hb hby d1_19) rfl rfl ?_
      show Steps p.tables e below (T104.setTop (mkF m 21 #[.val (.int p1), .val (.ref pa), .val (.int (2 : Int32)), .val (.int (1 : Int32)), .val (.ref or_)] [(.ref or_)])) _
      refine st108 _ ?_
      show Steps p.tables e below (T108.setTop (mkF m 24 #[.val (.int p1), .val (.ref pa), .val (.int (2 : Int32)), .val (.int (1 : Int32)), .val (.ref or_)] [(.int (-2012129793 : Int32))])) _
      refine XS.iloadN X108.here hx rfl (hb hby d1_24) rfl ?_
      show Steps p.tables e below (T108.setTop (mkF m 25 #[.val (.int p1), .val (.ref pa), .val (.int (2 : Int32)), .val (.int (1 : Int32)), .val (.ref or_)] [(.int p1), (.int (-2012129793 : Int32))])) _
      exact kt
    by_cases hc25_110 : (-2012129793 : Int32) = p1
    · skip
      obtain ⟨fs, hr, hrun, hended, hW, hsame⟩ := X108.leave (v := some (.ref or_)) (fun h => by rw [Bd.returns] at h; cases h)
      refine ⟨_, _, pre109 _ ?_, hrun, hended, _, _, rfl, ?_, ⟨_, rfl⟩, hW, hsame.mono (by decide) (by decide)⟩
      · skip
        show Steps p.tables e below (T108.setTop (mkF m 25 #[.val (.int p1), .val (.ref pa), .val (.int (2 : Int32)), .val (.int (1 : Int32)), .val (.ref or_)] [(.int p1), (.int (-2012129793 : Int32))])) _
        refine XS.icmpNo X108.here hx rfl (hb hby d1_25) rfl (teq (hc25_110 : (-2012129793 : Int32) = p1)).2 ?_
        show Steps p.tables e below (T108.setTop (mkF m 28 #[.val (.int p1), .val (.ref pa), .val (.int (2 : Int32)), .val (.int (1 : Int32)), .val (.ref or_)] [])) _
        refine XS.aload X108.here hx rfl (hb hby d1_28) rfl rfl ?_
        show Steps p.tables e below (T108.setTop (mkF m 30 #[.val (.int p1), .val (.ref pa), .val (.int (2 : Int32)), .val (.int (1 : Int32)), .val (.ref or_)] [(.ref or_)])) _
        jvm_step X108.here [X108.here.top, hx, (hb hby d1_30), X108.method', Bd.returns, Value.isRef, FieldType.isReference]
        first | (intro acts; rw [hr _ acts rfl rfl rfl]) | rw [hr _ _ rfl rfl rfl]
        exact Steps.refl _
      · show Q1 Z p1 pa pk oj or_ h0 n0 _ T108.heap _
        rw [e108]
        exact ⟨(by simp only [own_of, eq_false hc25_106, eq_true hc25_110, if_true, if_false]), N0, rfl⟩
    · skip
      obtain ⟨fs, hr, hrun, hended, hW, hsame⟩ := X108.leave (v := some .null) (fun h => by rw [Bd.returns] at h; cases h)
      refine ⟨_, _, pre109 _ ?_, hrun, hended, _, _, rfl, ?_, ⟨_, rfl⟩, hW, hsame.mono (by decide) (by decide)⟩
      · skip
        show Steps p.tables e below (T108.setTop (mkF m 25 #[.val (.int p1), .val (.ref pa), .val (.int (2 : Int32)), .val (.int (1 : Int32)), .val (.ref or_)] [(.int p1), (.int (-2012129793 : Int32))])) _
        refine XS.icmpYes X108.here hx rfl (pc0 := 25) (pc' := 31) rfl (hb hby d1_25) rfl (feq (hc25_110 : ¬ ((-2012129793 : Int32) = p1))).2 (by decide) (by decide) ?_
        show Steps p.tables e below (T108.setTop (mkF m 31 #[.val (.int p1), .val (.ref pa), .val (.int (2 : Int32)), .val (.int (1 : Int32)), .val (.ref or_)] [])) _
        refine XS.iinc X108.here hx rfl (hb hby d1_31) rfl (l' := #[.val (.int p1), .val (.ref pa), .val (.int (2 : Int32)), .val (.int ((1 : Int32) + (1 : Int32))), .val (.ref or_)]) rfl ?_
        show Steps p.tables e below (T108.setTop (mkF m 34 #[.val (.int p1), .val (.ref pa), .val (.int (2 : Int32)), .val (.int ((1 : Int32) + (1 : Int32))), .val (.ref or_)] [])) _
        rw [show ((1 : Int32) + (1 : Int32)) = (2 : Int32) from by decide]
        show Steps p.tables e below (T108.setTop (mkF m 34 #[.val (.int p1), .val (.ref pa), .val (.int (2 : Int32)), .val (.int (2 : Int32)), .val (.ref or_)] [])) _
        refine XS.goto X108.here hx rfl (pc0 := 34) (pc' := 9) rfl (hb hby d1_34) (by decide) (by decide) ?_
        show Steps p.tables e below (T108.setTop (mkF m 9 #[.val (.int p1), .val (.ref pa), .val (.int (2 : Int32)), .val (.int (2 : Int32)), .val (.ref or_)] [])) _
        refine XS.iloadN X108.here hx rfl (hb hby d1_9) rfl ?_
        show Steps p.tables e below (T108.setTop (mkF m 10 #[.val (.int p1), .val (.ref pa), .val (.int (2 : Int32)), .val (.int (2 : Int32)), .val (.ref or_)] [(.int (2 : Int32))])) _
        refine XS.iloadN X108.here hx rfl (hb hby d1_10) rfl ?_
        show Steps p.tables e below (T108.setTop (mkF m 11 #[.val (.int p1), .val (.ref pa), .val (.int (2 : Int32)), .val (.int (2 : Int32)), .val (.ref or_)] [(.int (2 : Int32)), (.int (2 : Int32))])) _
        refine XS.icmpYes X108.here hx rfl (pc0 := 11) (pc' := 37) rfl (hb hby d1_11) rfl (flt (by decide : ¬ ((2 : Int32) < (2 : Int32)))).2.1 (by decide) (by decide) ?_
        show Steps p.tables e below (T108.setTop (mkF m 37 #[.val (.int p1), .val (.ref pa), .val (.int (2 : Int32)), .val (.int (2 : Int32)), .val (.ref or_)] [])) _
        refine XS.aconstNull X108.here hx rfl (hb hby d1_37) ?_
        show Steps p.tables e below (T108.setTop (mkF m 38 #[.val (.int p1), .val (.ref pa), .val (.int (2 : Int32)), .val (.int (2 : Int32)), .val (.ref or_)] [.null])) _
        jvm_step X108.here [X108.here.top, hx, (hb hby d1_38), X108.method', Bd.returns, Value.isRef, FieldType.isReference]
        first | (intro acts; rw [hr _ acts rfl rfl rfl]) | rw [hr _ _ rfl rfl rfl]
        exact Steps.refl _
      · show Q1 Z p1 pa pk oj or_ h0 n0 _ T108.heap _
        rw [e108]
        exact ⟨(by simp only [own_of, eq_false hc25_106, eq_false hc25_110, if_true, if_false]), N0, rfl⟩
theorem d2_0 : decode method_2_code 0 = .ok (.iload_n 0, 1) := by decide +kernel
theorem d2_1 : decode method_2_code 1 = .ok (.ldc 7, 2) := by decide +kernel
theorem d2_3 : decode method_2_code 3 = .ok (.if_icmp .ne 7, 3) := by decide +kernel
theorem d2_6 : decode method_2_code 6 = .ok (.getstatic 8, 3) := by decide +kernel
theorem d2_9 : decode method_2_code 9 = .ok (.areturn, 1) := by decide +kernel
theorem d2_10 : decode method_2_code 10 = .ok (.iload_n 0, 1) := by decide +kernel
theorem d2_11 : decode method_2_code 11 = .ok (.ldc 14, 2) := by decide +kernel
theorem d2_13 : decode method_2_code 13 = .ok (.if_icmp .ne 7, 3) := by decide +kernel
theorem d2_16 : decode method_2_code 16 = .ok (.getstatic 15, 3) := by decide +kernel
theorem d2_19 : decode method_2_code 19 = .ok (.areturn, 1) := by decide +kernel
theorem d2_20 : decode method_2_code 20 = .ok (.aconst_null, 1) := by decide +kernel
theorem d2_21 : decode method_2_code 21 = .ok (.areturn, 1) := by decide +kernel
theorem pn_com_example_inkblock_inkblock_reader_ChannelLayoutOfPinLaw : plainName "com/example/inkblock/inkblock/reader/ChannelLayoutOfPinLaw" = true := by first | (simp [plainName, overriddenIn]; done) | decide +kernel
theorem ef_2 (m : MethodId) (p1 : Int32) : entryFrame m #[(.int p1)] 1 = mkF m 0 #[.val (.int p1)] [] := by first | (simp [entryFrame, mkF, argsToLocals, Value.category]; done) | rfl
def Q2 (Z : State) (p1 : Int32) (oj : Addr) (or_ : Addr) (h0 : Heap) (n0 : Nat) (v : Option Value) (h : Heap) (L : List Loc) : Prop := v = some (own_exp p1 oj or_) ∧ Fr n0 L ∧ h = h0
set_option maxRecDepth 65536 in
set_option maxHeartbeats 40000000 in
theorem rm2 (l : Launch) (Z : State) (a0 : Array Value) (hw : ∀ d ∈ tables_1, d.before a0 Z = true) (ws : List Jvm.Cond) (p1 : Int32) (oj : Addr) (or_ : Addr) (h0 : Heap) (n0 : Nat) (Z0 : n0 ≤ h0.size) (H0 : Sta Z h0 "com/example/inkblock/inkblock/reader/ChannelLayout" "JSON" "Lcom/example/inkblock/inkblock/reader/ChannelLayout;" (.ref oj)) (H1 : Sta Z h0 "com/example/inkblock/inkblock/reader/ChannelLayout" "RAW" "Lcom/example/inkblock/inkblock/reader/ChannelLayout;" (.ref or_)) :
    MetFree l (⟨"com/example/inkblock/inkblock/reader/ChannelLayoutOfPinLaw", "expected", "(I)Lcom/example/inkblock/inkblock/reader/ChannelLayout;"⟩ : MethodName) (head1 (Jvm.Cond.code (⟨"com/example/inkblock/inkblock/reader/ChannelLayoutOfPinLaw", "expected", "(I)Lcom/example/inkblock/inkblock/reader/ChannelLayout;"⟩ : MethodName) method_2_code 1 (some (.object "com/example/inkblock/inkblock/reader/ChannelLayout")) :: ws) ({ frames := 0, cells := 0, slots := 0, locals := 0 } : Room)) (fun a U => a = #[(.int p1)] ∧ Z.Warmed39 U.vm ∧ U.heap = h0) (fun _ _ _ _ _ => True) (fun _ U o U' => ∃ v L, o = .returned v ∧ Q2 Z p1 oj or_ h0 n0 v U'.heap L ∧ FrameEnd U o U' L ({ frames := 0, cells := 0, slots := 0, locals := 0 } : Room).cells ({ frames := 0, cells := 0, slots := 0, locals := 0 } : Room).slots) := by
  refine MetFree.of_bodySF (plainFor_of_name pn_com_example_inkblock_inkblock_reader_ChannelLayoutOfPinLaw) hisR ?_
  intro p e s m args below meth c s₁ Bd hml0 hP hK
  obtain ⟨rfl, hZ, hh⟩ := hP
  have hx := Bd.exec
  have hby := Bd.bytes
  have hml : c.maxLocals = 1 := hml0
  have hown : s.vm.findClass "com/example/inkblock/inkblock/reader/ChannelLayoutOfPinLaw" = some m.cls := findClass_of_methodNamed Bd.named
  have hnm := (name_of_methodNamed Bd.named Bd.method).1
  have X0 : Stand p l e ({ frames := 0, cells := 0, slots := 0, locals := 0 } : Room) s m #[(.int p1)] below meth c s₁ [] 0 0 := Stand.of_body Bd
  have e0 : s₁.heap = h0 := by rw [← hh, Bd.state]; rfl
  have N0 := Fr.nil n0
  have pre0 : ∀ t, Steps p.tables e below (s₁.setTop (mkF m 0 #[.val (.int p1)] [])) t → Steps p.tables e below (s₁.setTop (entryFrame m #[(.int p1)] 1)) t := fun t k => castTop (ef_2 m p1) k
  have pre101 : ∀ t, Steps p.tables e below (s₁.setTop (mkF m 3 #[.val (.int p1)] [(.int (1903654775 : Int32)), (.int p1)])) t → Steps p.tables e below (s₁.setTop (entryFrame m #[(.int p1)] 1)) t := fun t kt => by
    refine pre0 t ?_
    show Steps p.tables e below (s₁.setTop (mkF m 0 #[.val (.int p1)] [])) _
    refine XS.iloadN X0.here hx rfl (hb hby d2_0) rfl ?_
    show Steps p.tables e below (s₁.setTop (mkF m 1 #[.val (.int p1)] [(.int p1)])) _
    refine X0.ldcInt hx hown (mvT hZ (hw _ (List.mem_of_getElem? (i := 0) rfl))) (g := (mkF m 1 #[.val (.int p1)] [(.int p1)])) rfl (hb hby d2_1) _ ?_
    show Steps p.tables e below (s₁.setTop (mkF m 3 #[.val (.int p1)] [(.int (1903654775 : Int32)), (.int p1)])) _
    exact kt
  by_cases hc3_102 : p1 = (1903654775 : Int32)
  · skip
    obtain ⟨T103, X103, e103, st103⟩ := getS2 X0 hx hZ hown (host := "") (Or.inl (hw _ (List.mem_of_getElem? (i := 14) rfl))) Via.refl e0 H0 (g := (mkF m 6 #[.val (.int p1)] [])) rfl (hb hby d2_6)
    obtain ⟨fs, hr, hrun, hended, hW, hsame⟩ := X103.leave (v := some (.ref oj)) (fun h => by rw [Bd.returns] at h; cases h)
    refine ⟨_, _, pre101 _ ?_, hrun, hended, _, _, rfl, ?_, ⟨_, rfl⟩, hW, hsame.mono (by decide) (by decide)⟩
    · skip
      show Steps p.tables e below (s₁.setTop (mkF m 3 #[.val (.int p1)] [(.int (1903654775 : Int32)), (.int p1)])) _
      refine XS.icmpNo X0.here hx rfl (hb hby d2_3) rfl (teq (hc3_102 : p1 = (1903654775 : Int32))).2 ?_
      show Steps p.tables e below (s₁.setTop (mkF m 6 #[.val (.int p1)] [])) _
      refine st103 _ ?_
      show Steps p.tables e below (T103.setTop (mkF m 9 #[.val (.int p1)] [(.ref oj)])) _
      jvm_step X103.here [X103.here.top, hx, (hb hby d2_9), X103.method', Bd.returns, Value.isRef, FieldType.isReference]
      first | (intro acts; rw [hr _ acts rfl rfl rfl]) | rw [hr _ _ rfl rfl rfl]
      exact Steps.refl _
    · show Q2 Z p1 oj or_ h0 n0 _ T103.heap _
      rw [e103]
      exact ⟨(by simp only [own_exp, eq_true hc3_102, if_true, if_false]), N0, rfl⟩
  · skip
    have pre104 : ∀ t, Steps p.tables e below (s₁.setTop (mkF m 13 #[.val (.int p1)] [(.int (-2012129793 : Int32)), (.int p1)])) t → Steps p.tables e below (s₁.setTop (entryFrame m #[(.int p1)] 1)) t := fun t kt => by
      refine pre101 t ?_
      show Steps p.tables e below (s₁.setTop (mkF m 3 #[.val (.int p1)] [(.int (1903654775 : Int32)), (.int p1)])) _
      refine XS.icmpYes X0.here hx rfl (pc0 := 3) (pc' := 10) rfl (hb hby d2_3) rfl (feq (hc3_102 : ¬ (p1 = (1903654775 : Int32)))).2 (by decide) (by decide) ?_
      show Steps p.tables e below (s₁.setTop (mkF m 10 #[.val (.int p1)] [])) _
      refine XS.iloadN X0.here hx rfl (hb hby d2_10) rfl ?_
      show Steps p.tables e below (s₁.setTop (mkF m 11 #[.val (.int p1)] [(.int p1)])) _
      refine X0.ldcInt hx hown (mvT hZ (hw _ (List.mem_of_getElem? (i := 16) rfl))) (g := (mkF m 11 #[.val (.int p1)] [(.int p1)])) rfl (hb hby d2_11) _ ?_
      show Steps p.tables e below (s₁.setTop (mkF m 13 #[.val (.int p1)] [(.int (-2012129793 : Int32)), (.int p1)])) _
      exact kt
    by_cases hc13_105 : p1 = (-2012129793 : Int32)
    · skip
      obtain ⟨T106, X106, e106, st106⟩ := getS2 X0 hx hZ hown (host := "") (Or.inl (hw _ (List.mem_of_getElem? (i := 17) rfl))) Via.refl e0 H1 (g := (mkF m 16 #[.val (.int p1)] [])) rfl (hb hby d2_16)
      obtain ⟨fs, hr, hrun, hended, hW, hsame⟩ := X106.leave (v := some (.ref or_)) (fun h => by rw [Bd.returns] at h; cases h)
      refine ⟨_, _, pre104 _ ?_, hrun, hended, _, _, rfl, ?_, ⟨_, rfl⟩, hW, hsame.mono (by decide) (by decide)⟩
      · skip
        show Steps p.tables e below (s₁.setTop (mkF m 13 #[.val (.int p1)] [(.int (-2012129793 : Int32)), (.int p1)])) _
        refine XS.icmpNo X0.here hx rfl (hb hby d2_13) rfl (teq (hc13_105 : p1 = (-2012129793 : Int32))).2 ?_
        show Steps p.tables e below (s₁.setTop (mkF m 16 #[.val (.int p1)] [])) _
        refine st106 _ ?_
        show Steps p.tables e below (T106.setTop (mkF m 19 #[.val (.int p1)] [(.ref or_)])) _
        jvm_step X106.here [X106.here.top, hx, (hb hby d2_19), X106.method', Bd.returns, Value.isRef, FieldType.isReference]
        first | (intro acts; rw [hr _ acts rfl rfl rfl]) | rw [hr _ _ rfl rfl rfl]
        exact Steps.refl _
      · show Q2 Z p1 oj or_ h0 n0 _ T106.heap _
        rw [e106]
        exact ⟨(by simp only [own_exp, eq_false hc3_102, eq_true hc13_105, if_true, if_false]), N0, rfl⟩
    · skip
      obtain ⟨fs, hr, hrun, hended, hW, hsame⟩ := X0.leave (v := some .null) (fun h => by rw [Bd.returns] at h; cases h)
      refine ⟨_, _, pre104 _ ?_, hrun, hended, _, _, rfl, ?_, ⟨_, rfl⟩, hW, hsame.mono (by decide) (by decide)⟩
      · skip
        show Steps p.tables e below (s₁.setTop (mkF m 13 #[.val (.int p1)] [(.int (-2012129793 : Int32)), (.int p1)])) _
        refine XS.icmpYes X0.here hx rfl (pc0 := 13) (pc' := 20) rfl (hb hby d2_13) rfl (feq (hc13_105 : ¬ (p1 = (-2012129793 : Int32)))).2 (by decide) (by decide) ?_
        show Steps p.tables e below (s₁.setTop (mkF m 20 #[.val (.int p1)] [])) _
        refine XS.aconstNull X0.here hx rfl (hb hby d2_20) ?_
        show Steps p.tables e below (s₁.setTop (mkF m 21 #[.val (.int p1)] [.null])) _
        jvm_step X0.here [X0.here.top, hx, (hb hby d2_21), X0.method', Bd.returns, Value.isRef, FieldType.isReference]
        first | (intro acts; rw [hr _ acts rfl rfl rfl]) | rw [hr _ _ rfl rfl rfl]
        exact Steps.refl _
      · show Q2 Z p1 oj or_ h0 n0 _ s₁.heap _
        rw [e0]
        exact ⟨(by simp only [own_exp, eq_false hc3_102, eq_false hc13_105, if_true, if_false]), N0, rfl⟩
theorem pd_0 : parseMethodDescriptor "(I)Lcom/example/inkblock/inkblock/reader/ChannelLayout;" = some ⟨[.int], some (.object "com/example/inkblock/inkblock/reader/ChannelLayout")⟩ := by decide +kernel
theorem ef_0 (m : MethodId) (p1 : Int32) (p2 : Int32) : entryFrame m #[(.int p1), (.int p2)] maxLocals = mkF m 0 #[.val (.int p1), .val (.int p2), .unset, .unset] [] := by first | (simp [entryFrame, mkF, argsToLocals, Value.category, maxLocals]; done) | rfl
def Q0 (Z : State) (p1 : Int32) (p2 : Int32) (pa : Addr) (pk : ClassId) (oj : Addr) (or_ : Addr) (h0 : Heap) (n0 : Nat) (v : Option Value) (h : Heap) (L : List Loc) : Prop := v = some (.int (1 : Int32)) ∧ Fr n0 L
set_option maxRecDepth 65536 in
set_option maxHeartbeats 40000000 in
theorem rm0 (l : Launch) (Z : State) (a0 : Array Value) (hw : ∀ d ∈ tables_1, d.before a0 Z = true) (ws : List Jvm.Cond) (p1 : Int32) (p2 : Int32) (pa : Addr) (pk : ClassId) (oj : Addr) (or_ : Addr) (h0 : Heap) (n0 : Nat) (Z0 : n0 ≤ h0.size) (H0 : Sta Z h0 "com/example/inkblock/inkblock/reader/ChannelLayout" "PREFERRED" "[Lcom/example/inkblock/inkblock/reader/ChannelLayout;" (.ref pa)) (H1 : Sta Z h0 "com/example/inkblock/inkblock/reader/ChannelLayout" "JSON" "Lcom/example/inkblock/inkblock/reader/ChannelLayout;" (.ref oj)) (H2 : Sta Z h0 "com/example/inkblock/inkblock/reader/ChannelLayout" "RAW" "Lcom/example/inkblock/inkblock/reader/ChannelLayout;" (.ref or_)) (H3 : Arv Z h0 pa pk (.object "com/example/inkblock/inkblock/reader/ChannelLayout") (2 : Int32) [(.ref oj), (.ref or_)] .null) (H4 : Fld Z h0 oj "com/example/inkblock/inkblock/reader/ChannelLayout" "pairId" "I" (.int (1903654775 : Int32))) (H5 : Fld Z h0 or_ "com/example/inkblock/inkblock/reader/ChannelLayout" "pairId" "I" (.int (-2012129793 : Int32))) :
    MetFree l x (head1 (Jvm.Cond.code x code maxLocals ret :: ws) room_1) (fun a U => a = #[(.int p1), (.int p2)] ∧ Z.Warmed39 U.vm ∧ U.heap = h0) (fun _ _ _ _ _ => True) (fun _ U o U' => ∃ v L, o = .returned v ∧ Q0 Z p1 p2 pa pk oj or_ h0 n0 v U'.heap L ∧ FrameEnd U o U' L room_1.cells room_1.slots) := by
  refine MetFree.of_bodySF (plainFor_of_name pn_com_example_inkblock_inkblock_reader_ChannelLayoutOfPinLaw) hisR ?_
  intro p e s m args below meth c s₁ Bd hml0 hP hK
  obtain ⟨rfl, hZ, hh⟩ := hP
  have hx := Bd.exec
  have hby := Bd.bytes
  have hml : c.maxLocals = 4 := hml0
  have hown : s.vm.findClass "com/example/inkblock/inkblock/reader/ChannelLayoutOfPinLaw" = some m.cls := findClass_of_methodNamed Bd.named
  have hnm := (name_of_methodNamed Bd.named Bd.method).1
  have X0 : Stand p l e room_1 s m #[(.int p1), (.int p2)] below meth c s₁ [] 0 0 := Stand.of_body Bd
  have e0 : s₁.heap = h0 := by rw [← hh, Bd.state]; rfl
  have N0 := Fr.nil n0
  have pre0 : ∀ t, Steps p.tables e below (s₁.setTop (mkF m 0 #[.val (.int p1), .val (.int p2), .unset, .unset] [])) t → Steps p.tables e below (s₁.setTop (entryFrame m #[(.int p1), (.int p2)] maxLocals)) t := fun t k => castTop (ef_0 m p1 p2) k
  have pre101 : ∀ t, Steps p.tables e below (s₁.setTop (mkF m 6 #[.val (.int p1), .val (.int p2), .val (.int (p1 &&& (7 : Int32))), .unset] [(.int (p1 &&& (7 : Int32)))])) t → Steps p.tables e below (s₁.setTop (entryFrame m #[(.int p1), (.int p2)] maxLocals)) t := fun t kt => by
    refine pre0 t ?_
    show Steps p.tables e below (s₁.setTop (mkF m 0 #[.val (.int p1), .val (.int p2), .unset, .unset] [])) _
    refine XS.iloadN X0.here hx rfl (hb hby at_0) rfl ?_
    show Steps p.tables e below (s₁.setTop (mkF m 1 #[.val (.int p1), .val (.int p2), .unset, .unset] [(.int p1)])) _
    refine XS.bipush X0.here hx rfl (hb hby at_1) ?_
    show Steps p.tables e below (s₁.setTop (mkF m 3 #[.val (.int p1), .val (.int p2), .unset, .unset] [(.int (7 : Int32)), (.int p1)])) _
    refine XS.iand X0.here hx rfl (hb hby at_3) rfl ?_
    show Steps p.tables e below (s₁.setTop (mkF m 4 #[.val (.int p1), .val (.int p2), .unset, .unset] [(.int (p1 &&& (7 : Int32)))])) _
    refine XS.istoreN X0.here hx rfl (hb hby at_4) rfl (l' := #[.val (.int p1), .val (.int p2), .val (.int (p1 &&& (7 : Int32))), .unset]) rfl ?_
    show Steps p.tables e below (s₁.setTop (mkF m 5 #[.val (.int p1), .val (.int p2), .val (.int (p1 &&& (7 : Int32))), .unset] [])) _
    refine XS.iloadN X0.here hx rfl (hb hby at_5) rfl ?_
    show Steps p.tables e below (s₁.setTop (mkF m 6 #[.val (.int p1), .val (.int p2), .val (.int (p1 &&& (7 : Int32))), .unset] [(.int (p1 &&& (7 : Int32)))])) _
    exact kt
  by_cases hc6_102 : (p1 &&& (7 : Int32)) = (0 : Int32)
  · skip
    obtain ⟨_, _, ⟨T103, L103, k103, n103⟩, -, X103, ⟨Lc103, hQ103, l103, y103, z103⟩, st103⟩ := Jvm.LawKit.callS X0 hx (y := (⟨"com/example/inkblock/inkblock/reader/ChannelLayout", "of", "(I)Lcom/example/inkblock/inkblock/reader/ChannelLayout;"⟩ : MethodName)) hown (mvT hZ (hw _ (List.mem_of_getElem? (i := 1) rfl))) (mvT hZ (hw _ (List.mem_of_getElem? (i := 2) rfl))) (mvT hZ (hw _ (List.mem_of_getElem? (i := 3) rfl))) (mvT hZ (hw _ (List.mem_of_getElem? (i := 4) rfl))) (by decide) (backOf (W := 0) (rm1 l Z a0 hw [] (1903654775 : Int32) pa pk oj or_ h0 n0 Z0 H0 H1 H2 H3 H4 H5) hZ (hw _ (List.mem_of_getElem? (i := 4) rfl)) (hw _ (List.mem_of_getElem? (i := 3) rfl)) (by decide) (by decide)) (g := (mkF m 91 #[.val (.int p1), .val (.int p2), .val (.int (p1 &&& (7 : Int32))), .val (.int (1903654775 : Int32))] [(.int (1903654775 : Int32))])) rfl (by rw [hml]; rfl) (argsL := [(.int (1903654775 : Int32))]) (rest := []) (lenOf pd_0 rfl) rfl (by show 2 * 0 + _ ≤ _; exact Nat.le_of_eq rfl) (hb hby at_91) (fun _ _ => ⟨rfl, e0, (by decide : 0 + 0 ≤ _), (by decide : 0 + 0 ≤ _)⟩)
    dsimp only [Pt.U, Pt.locs, Pt.cells, Pt.slots] at X103 l103 y103 z103 st103 hQ103
    subst l103 y103 z103
    obtain ⟨rfl, Nq103, Heq103⟩ := hQ103
    have N103 := Fr.app N0 Nq103
    obtain ⟨_, _, ⟨T104, L104, k104, n104⟩, -, X104, ⟨Lc104, hQ104, l104, y104, z104⟩, st104⟩ := Jvm.LawKit.callS X103 hx (y := (⟨"com/example/inkblock/inkblock/reader/ChannelLayoutOfPinLaw", "expected", "(I)Lcom/example/inkblock/inkblock/reader/ChannelLayout;"⟩ : MethodName)) hown (mvT hZ (hw _ (List.mem_of_getElem? (i := 10) rfl))) (mvT hZ (hw _ (List.mem_of_getElem? (i := 11) rfl))) (mvT hZ (hw _ (List.mem_of_getElem? (i := 12) rfl))) (mvT hZ (hw _ (List.mem_of_getElem? (i := 13) rfl))) (by decide) (backOf (W := 1) (rm2 l Z a0 hw [] (1903654775 : Int32) oj or_ h0 n0 Z0 H1 H2) hZ (hw _ (List.mem_of_getElem? (i := 13) rfl)) (hw _ (List.mem_of_getElem? (i := 12) rfl)) (by decide) (by decide)) (g := (mkF m 95 #[.val (.int p1), .val (.int p2), .val (.int (p1 &&& (7 : Int32))), .val (.int (1903654775 : Int32))] [(.int (1903654775 : Int32)), (own_of (1903654775 : Int32) oj or_)])) rfl (by rw [hml]; rfl) (argsL := [(.int (1903654775 : Int32))]) (rest := [(own_of (1903654775 : Int32) oj or_)]) (lenOf pd_0 rfl) rfl (by show 2 * 0 + _ ≤ _; unfold own_of; split; (exact Nat.le_refl _); split <;> exact Nat.le_refl _) (hb hby at_95) (fun _ _ => ⟨rfl, Heq103, (by decide : 0 + 0 ≤ _), (by decide : 0 + 0 ≤ _)⟩)
    dsimp only [Pt.U, Pt.locs, Pt.cells, Pt.slots] at X104 l104 y104 z104 st104 hQ104
    subst l104 y104 z104
    obtain ⟨rfl, Nq104, Heq104⟩ := hQ104
    have N104 := Fr.app N103 Nq104
    obtain ⟨fs, hr, hrun, hended, hW, hsame⟩ := X104.leave (v := some (.int (1 : Int32))) (fun h => by rw [Bd.returns] at h; cases h)
    refine ⟨_, _, pre101 _ ?_, hrun, hended, _, _, rfl, ?_, ⟨_, rfl⟩, hW, hsame.mono (by decide) (by decide)⟩
    · skip
      show Steps p.tables e below (s₁.setTop (mkF m 6 #[.val (.int p1), .val (.int p2), .val (.int (p1 &&& (7 : Int32))), .unset] [(.int (p1 &&& (7 : Int32)))])) _
      refine XS.ifNo X0.here hx rfl (hb hby at_6) rfl ((if0 _ _).trans (teq (hc6_102 : (p1 &&& (7 : Int32)) = (0 : Int32))).2) ?_
      show Steps p.tables e below (s₁.setTop (mkF m 9 #[.val (.int p1), .val (.int p2), .val (.int (p1 &&& (7 : Int32))), .unset] [])) _
      refine X0.ldcInt hx hown (mvT hZ (hw _ (List.mem_of_getElem? (i := 0) rfl))) (g := (mkF m 9 #[.val (.int p1), .val (.int p2), .val (.int (p1 &&& (7 : Int32))), .unset] [])) rfl (hb hby at_9) _ ?_
      show Steps p.tables e below (s₁.setTop (mkF m 11 #[.val (.int p1), .val (.int p2), .val (.int (p1 &&& (7 : Int32))), .unset] [(.int (1903654775 : Int32))])) _
      refine XS.istoreN X0.here hx rfl (hb hby at_11) rfl (l' := #[.val (.int p1), .val (.int p2), .val (.int (p1 &&& (7 : Int32))), .val (.int (1903654775 : Int32))]) rfl ?_
      show Steps p.tables e below (s₁.setTop (mkF m 12 #[.val (.int p1), .val (.int p2), .val (.int (p1 &&& (7 : Int32))), .val (.int (1903654775 : Int32))] [])) _
      refine XS.goto X0.here hx rfl (pc0 := 12) (pc' := 90) rfl (hb hby at_12) (by decide) (by decide) ?_
      show Steps p.tables e below (s₁.setTop (mkF m 90 #[.val (.int p1), .val (.int p2), .val (.int (p1 &&& (7 : Int32))), .val (.int (1903654775 : Int32))] [])) _
      refine XS.iloadN X0.here hx rfl (hb hby at_90) rfl ?_
      show Steps p.tables e below (s₁.setTop (mkF m 91 #[.val (.int p1), .val (.int p2), .val (.int (p1 &&& (7 : Int32))), .val (.int (1903654775 : Int32))] [(.int (1903654775 : Int32))])) _
      refine st103 _ ?_
      show Steps p.tables e below (T103.setTop (mkF m 94 #[.val (.int p1), .val (.int p2), .val (.int (p1 &&& (7 : Int32))), .val (.int (1903654775 : Int32))] [(own_of (1903654775 : Int32) oj or_)])) _
      refine XS.iloadN X103.here hx rfl (hb hby at_94) rfl ?_
      show Steps p.tables e below (T103.setTop (mkF m 95 #[.val (.int p1), .val (.int p2), .val (.int (p1 &&& (7 : Int32))), .val (.int (1903654775 : Int32))] [(.int (1903654775 : Int32)), (own_of (1903654775 : Int32) oj or_)])) _
      refine st104 _ ?_
      show Steps p.tables e below (T104.setTop (mkF m 98 #[.val (.int p1), .val (.int p2), .val (.int (p1 &&& (7 : Int32))), .val (.int (1903654775 : Int32))] [(own_exp (1903654775 : Int32) oj or_), (own_of (1903654775 : Int32) oj or_)])) _
      refine Jvm.RoadKit.acmp (g := (mkF m 98 #[.val (.int p1), .val (.int p2), .val (.int (p1 &&& (7 : Int32))), .val (.int (1903654775 : Int32))] [(own_exp (1903654775 : Int32) oj or_), (own_of (1903654775 : Int32) oj or_)])) X104 hx rfl (own_ref1 _ _ _) (own_ref2 _ _ _) (pc0 := 98) (pc' := 101) (same := true) rfl (hb hby at_98) rfl (decide_eq_true (own_eq _ _ _ : ((own_of (1903654775 : Int32) oj or_) : Value) = (own_exp (1903654775 : Int32) oj or_))) (by decide) (by decide) ?_
      show Steps p.tables e below (T104.setTop (mkF m 101 #[.val (.int p1), .val (.int p2), .val (.int (p1 &&& (7 : Int32))), .val (.int (1903654775 : Int32))] [])) _
      refine XS.iconst X104.here hx rfl (hb hby at_101) ?_
      show Steps p.tables e below (T104.setTop (mkF m 102 #[.val (.int p1), .val (.int p2), .val (.int (p1 &&& (7 : Int32))), .val (.int (1903654775 : Int32))] [(.int (1 : Int32))])) _
      refine XS.goto X104.here hx rfl (pc0 := 102) (pc' := 106) rfl (hb hby at_102) (by decide) (by decide) ?_
      show Steps p.tables e below (T104.setTop (mkF m 106 #[.val (.int p1), .val (.int p2), .val (.int (p1 &&& (7 : Int32))), .val (.int (1903654775 : Int32))] [(.int (1 : Int32))])) _
      exact retN X104 hx (t := .boolean) Bd.returns (by simp) (hb hby at_106) hr
    · show Q0 Z p1 p2 pa pk oj or_ h0 n0 _ T104.heap _
      rw [Heq104]
      exact ⟨rfl, N104⟩
  · skip
    have pre105 : ∀ t, Steps p.tables e below (s₁.setTop (mkF m 17 #[.val (.int p1), .val (.int p2), .val (.int (p1 &&& (7 : Int32))), .unset] [(.int (1 : Int32)), (.int (p1 &&& (7 : Int32)))])) t → Steps p.tables e below (s₁.setTop (entryFrame m #[(.int p1), (.int p2)] maxLocals)) t := fun t kt => by
      refine pre101 t ?_
      show Steps p.tables e below (s₁.setTop (mkF m 6 #[.val (.int p1), .val (.int p2), .val (.int (p1 &&& (7 : Int32))), .unset] [(.int (p1 &&& (7 : Int32)))])) _
      refine XS.ifYes X0.here hx rfl (pc0 := 6) (pc' := 15) rfl (hb hby at_6) rfl ((if0 _ _).trans (feq (hc6_102 : ¬ ((p1 &&& (7 : Int32)) = (0 : Int32)))).2) (by decide) (by decide) ?_
      show Steps p.tables e below (s₁.setTop (mkF m 15 #[.val (.int p1), .val (.int p2), .val (.int (p1 &&& (7 : Int32))), .unset] [])) _
      refine XS.iloadN X0.here hx rfl (hb hby at_15) rfl ?_
      show Steps p.tables e below (s₁.setTop (mkF m 16 #[.val (.int p1), .val (.int p2), .val (.int (p1 &&& (7 : Int32))), .unset] [(.int (p1 &&& (7 : Int32)))])) _
      refine XS.iconst X0.here hx rfl (hb hby at_16) ?_
      show Steps p.tables e below (s₁.setTop (mkF m 17 #[.val (.int p1), .val (.int p2), .val (.int (p1 &&& (7 : Int32))), .unset] [(.int (1 : Int32)), (.int (p1 &&& (7 : Int32)))])) _
      exact kt
    by_cases hc17_106 : (p1 &&& (7 : Int32)) = (1 : Int32)
    · skip
      obtain ⟨_, _, ⟨T107, L107, k107, n107⟩, -, X107, ⟨Lc107, hQ107, l107, y107, z107⟩, st107⟩ := Jvm.LawKit.callS X0 hx (y := (⟨"com/example/inkblock/inkblock/reader/ChannelLayout", "of", "(I)Lcom/example/inkblock/inkblock/reader/ChannelLayout;"⟩ : MethodName)) hown (mvT hZ (hw _ (List.mem_of_getElem? (i := 1) rfl))) (mvT hZ (hw _ (List.mem_of_getElem? (i := 2) rfl))) (mvT hZ (hw _ (List.mem_of_getElem? (i := 3) rfl))) (mvT hZ (hw _ (List.mem_of_getElem? (i := 4) rfl))) (by decide) (backOf (W := 0) (rm1 l Z a0 hw [] (-2012129793 : Int32) pa pk oj or_ h0 n0 Z0 H0 H1 H2 H3 H4 H5) hZ (hw _ (List.mem_of_getElem? (i := 4) rfl)) (hw _ (List.mem_of_getElem? (i := 3) rfl)) (by decide) (by decide)) (g := (mkF m 91 #[.val (.int p1), .val (.int p2), .val (.int (p1 &&& (7 : Int32))), .val (.int (-2012129793 : Int32))] [(.int (-2012129793 : Int32))])) rfl (by rw [hml]; rfl) (argsL := [(.int (-2012129793 : Int32))]) (rest := []) (lenOf pd_0 rfl) rfl (by show 2 * 0 + _ ≤ _; exact Nat.le_of_eq rfl) (hb hby at_91) (fun _ _ => ⟨rfl, e0, (by decide : 0 + 0 ≤ _), (by decide : 0 + 0 ≤ _)⟩)
      dsimp only [Pt.U, Pt.locs, Pt.cells, Pt.slots] at X107 l107 y107 z107 st107 hQ107
      subst l107 y107 z107
      obtain ⟨rfl, Nq107, Heq107⟩ := hQ107
      have N107 := Fr.app N0 Nq107
      obtain ⟨_, _, ⟨T108, L108, k108, n108⟩, -, X108, ⟨Lc108, hQ108, l108, y108, z108⟩, st108⟩ := Jvm.LawKit.callS X107 hx (y := (⟨"com/example/inkblock/inkblock/reader/ChannelLayoutOfPinLaw", "expected", "(I)Lcom/example/inkblock/inkblock/reader/ChannelLayout;"⟩ : MethodName)) hown (mvT hZ (hw _ (List.mem_of_getElem? (i := 10) rfl))) (mvT hZ (hw _ (List.mem_of_getElem? (i := 11) rfl))) (mvT hZ (hw _ (List.mem_of_getElem? (i := 12) rfl))) (mvT hZ (hw _ (List.mem_of_getElem? (i := 13) rfl))) (by decide) (backOf (W := 1) (rm2 l Z a0 hw [] (-2012129793 : Int32) oj or_ h0 n0 Z0 H1 H2) hZ (hw _ (List.mem_of_getElem? (i := 13) rfl)) (hw _ (List.mem_of_getElem? (i := 12) rfl)) (by decide) (by decide)) (g := (mkF m 95 #[.val (.int p1), .val (.int p2), .val (.int (p1 &&& (7 : Int32))), .val (.int (-2012129793 : Int32))] [(.int (-2012129793 : Int32)), (own_of (-2012129793 : Int32) oj or_)])) rfl (by rw [hml]; rfl) (argsL := [(.int (-2012129793 : Int32))]) (rest := [(own_of (-2012129793 : Int32) oj or_)]) (lenOf pd_0 rfl) rfl (by show 2 * 0 + _ ≤ _; unfold own_of; split; (exact Nat.le_refl _); split <;> exact Nat.le_refl _) (hb hby at_95) (fun _ _ => ⟨rfl, Heq107, (by decide : 0 + 0 ≤ _), (by decide : 0 + 0 ≤ _)⟩)
      dsimp only [Pt.U, Pt.locs, Pt.cells, Pt.slots] at X108 l108 y108 z108 st108 hQ108
      subst l108 y108 z108
      obtain ⟨rfl, Nq108, Heq108⟩ := hQ108
      have N108 := Fr.app N107 Nq108
      obtain ⟨fs, hr, hrun, hended, hW, hsame⟩ := X108.leave (v := some (.int (1 : Int32))) (fun h => by rw [Bd.returns] at h; cases h)
      refine ⟨_, _, pre105 _ ?_, hrun, hended, _, _, rfl, ?_, ⟨_, rfl⟩, hW, hsame.mono (by decide) (by decide)⟩
      · skip
        show Steps p.tables e below (s₁.setTop (mkF m 17 #[.val (.int p1), .val (.int p2), .val (.int (p1 &&& (7 : Int32))), .unset] [(.int (1 : Int32)), (.int (p1 &&& (7 : Int32)))])) _
        refine XS.icmpNo X0.here hx rfl (hb hby at_17) rfl (teq (hc17_106 : (p1 &&& (7 : Int32)) = (1 : Int32))).2 ?_
        show Steps p.tables e below (s₁.setTop (mkF m 20 #[.val (.int p1), .val (.int p2), .val (.int (p1 &&& (7 : Int32))), .unset] [])) _
        refine X0.ldcInt hx hown (mvT hZ (hw _ (List.mem_of_getElem? (i := 16) rfl))) (g := (mkF m 20 #[.val (.int p1), .val (.int p2), .val (.int (p1 &&& (7 : Int32))), .unset] [])) rfl (hb hby at_20) _ ?_
        show Steps p.tables e below (s₁.setTop (mkF m 22 #[.val (.int p1), .val (.int p2), .val (.int (p1 &&& (7 : Int32))), .unset] [(.int (-2012129793 : Int32))])) _
        refine XS.istoreN X0.here hx rfl (hb hby at_22) rfl (l' := #[.val (.int p1), .val (.int p2), .val (.int (p1 &&& (7 : Int32))), .val (.int (-2012129793 : Int32))]) rfl ?_
        show Steps p.tables e below (s₁.setTop (mkF m 23 #[.val (.int p1), .val (.int p2), .val (.int (p1 &&& (7 : Int32))), .val (.int (-2012129793 : Int32))] [])) _
        refine XS.goto X0.here hx rfl (pc0 := 23) (pc' := 90) rfl (hb hby at_23) (by decide) (by decide) ?_
        show Steps p.tables e below (s₁.setTop (mkF m 90 #[.val (.int p1), .val (.int p2), .val (.int (p1 &&& (7 : Int32))), .val (.int (-2012129793 : Int32))] [])) _
        refine XS.iloadN X0.here hx rfl (hb hby at_90) rfl ?_
        show Steps p.tables e below (s₁.setTop (mkF m 91 #[.val (.int p1), .val (.int p2), .val (.int (p1 &&& (7 : Int32))), .val (.int (-2012129793 : Int32))] [(.int (-2012129793 : Int32))])) _
        refine st107 _ ?_
        show Steps p.tables e below (T107.setTop (mkF m 94 #[.val (.int p1), .val (.int p2), .val (.int (p1 &&& (7 : Int32))), .val (.int (-2012129793 : Int32))] [(own_of (-2012129793 : Int32) oj or_)])) _
        refine XS.iloadN X107.here hx rfl (hb hby at_94) rfl ?_
        show Steps p.tables e below (T107.setTop (mkF m 95 #[.val (.int p1), .val (.int p2), .val (.int (p1 &&& (7 : Int32))), .val (.int (-2012129793 : Int32))] [(.int (-2012129793 : Int32)), (own_of (-2012129793 : Int32) oj or_)])) _
        refine st108 _ ?_
        show Steps p.tables e below (T108.setTop (mkF m 98 #[.val (.int p1), .val (.int p2), .val (.int (p1 &&& (7 : Int32))), .val (.int (-2012129793 : Int32))] [(own_exp (-2012129793 : Int32) oj or_), (own_of (-2012129793 : Int32) oj or_)])) _
        refine Jvm.RoadKit.acmp (g := (mkF m 98 #[.val (.int p1), .val (.int p2), .val (.int (p1 &&& (7 : Int32))), .val (.int (-2012129793 : Int32))] [(own_exp (-2012129793 : Int32) oj or_), (own_of (-2012129793 : Int32) oj or_)])) X108 hx rfl (own_ref1 _ _ _) (own_ref2 _ _ _) (pc0 := 98) (pc' := 101) (same := true) rfl (hb hby at_98) rfl (decide_eq_true (own_eq _ _ _ : ((own_of (-2012129793 : Int32) oj or_) : Value) = (own_exp (-2012129793 : Int32) oj or_))) (by decide) (by decide) ?_
        show Steps p.tables e below (T108.setTop (mkF m 101 #[.val (.int p1), .val (.int p2), .val (.int (p1 &&& (7 : Int32))), .val (.int (-2012129793 : Int32))] [])) _
        refine XS.iconst X108.here hx rfl (hb hby at_101) ?_
        show Steps p.tables e below (T108.setTop (mkF m 102 #[.val (.int p1), .val (.int p2), .val (.int (p1 &&& (7 : Int32))), .val (.int (-2012129793 : Int32))] [(.int (1 : Int32))])) _
        refine XS.goto X108.here hx rfl (pc0 := 102) (pc' := 106) rfl (hb hby at_102) (by decide) (by decide) ?_
        show Steps p.tables e below (T108.setTop (mkF m 106 #[.val (.int p1), .val (.int p2), .val (.int (p1 &&& (7 : Int32))), .val (.int (-2012129793 : Int32))] [(.int (1 : Int32))])) _
        exact retN X108 hx (t := .boolean) Bd.returns (by simp) (hb hby at_106) hr
      · show Q0 Z p1 p2 pa pk oj or_ h0 n0 _ T108.heap _
        rw [Heq108]
        exact ⟨rfl, N108⟩
    · skip
      have pre109 : ∀ t, Steps p.tables e below (s₁.setTop (mkF m 28 #[.val (.int p1), .val (.int p2), .val (.int (p1 &&& (7 : Int32))), .unset] [(.int (2 : Int32)), (.int (p1 &&& (7 : Int32)))])) t → Steps p.tables e below (s₁.setTop (entryFrame m #[(.int p1), (.int p2)] maxLocals)) t := fun t kt => by
        refine pre105 t ?_
        show Steps p.tables e below (s₁.setTop (mkF m 17 #[.val (.int p1), .val (.int p2), .val (.int (p1 &&& (7 : Int32))), .unset] [(.int (1 : Int32)), (.int (p1 &&& (7 : Int32)))])) _
        refine XS.icmpYes X0.here hx rfl (pc0 := 17) (pc' := 26) rfl (hb hby at_17) rfl (feq (hc17_106 : ¬ ((p1 &&& (7 : Int32)) = (1 : Int32)))).2 (by decide) (by decide) ?_
        show Steps p.tables e below (s₁.setTop (mkF m 26 #[.val (.int p1), .val (.int p2), .val (.int (p1 &&& (7 : Int32))), .unset] [])) _
        refine XS.iloadN X0.here hx rfl (hb hby at_26) rfl ?_
        show Steps p.tables e below (s₁.setTop (mkF m 27 #[.val (.int p1), .val (.int p2), .val (.int (p1 &&& (7 : Int32))), .unset] [(.int (p1 &&& (7 : Int32)))])) _
        refine XS.iconst X0.here hx rfl (hb hby at_27) ?_
        show Steps p.tables e below (s₁.setTop (mkF m 28 #[.val (.int p1), .val (.int p2), .val (.int (p1 &&& (7 : Int32))), .unset] [(.int (2 : Int32)), (.int (p1 &&& (7 : Int32)))])) _
        exact kt
      by_cases hc28_110 : (p1 &&& (7 : Int32)) = (2 : Int32)
      · skip
        obtain ⟨_, _, ⟨T111, L111, k111, n111⟩, -, X111, ⟨Lc111, hQ111, l111, y111, z111⟩, st111⟩ := Jvm.LawKit.callS X0 hx (y := (⟨"com/example/inkblock/inkblock/reader/ChannelLayout", "of", "(I)Lcom/example/inkblock/inkblock/reader/ChannelLayout;"⟩ : MethodName)) hown (mvT hZ (hw _ (List.mem_of_getElem? (i := 1) rfl))) (mvT hZ (hw _ (List.mem_of_getElem? (i := 2) rfl))) (mvT hZ (hw _ (List.mem_of_getElem? (i := 3) rfl))) (mvT hZ (hw _ (List.mem_of_getElem? (i := 4) rfl))) (by decide) (backOf (W := 0) (rm1 l Z a0 hw [] ((1903654775 : Int32) ^^^ ((1 : Int32) <<< ((p2 &&& (31 : Int32)) &&& 31))) pa pk oj or_ h0 n0 Z0 H0 H1 H2 H3 H4 H5) hZ (hw _ (List.mem_of_getElem? (i := 4) rfl)) (hw _ (List.mem_of_getElem? (i := 3) rfl)) (by decide) (by decide)) (g := (mkF m 91 #[.val (.int p1), .val (.int p2), .val (.int (p1 &&& (7 : Int32))), .val (.int ((1903654775 : Int32) ^^^ ((1 : Int32) <<< ((p2 &&& (31 : Int32)) &&& 31))))] [(.int ((1903654775 : Int32) ^^^ ((1 : Int32) <<< ((p2 &&& (31 : Int32)) &&& 31))))])) rfl (by rw [hml]; rfl) (argsL := [(.int ((1903654775 : Int32) ^^^ ((1 : Int32) <<< ((p2 &&& (31 : Int32)) &&& 31))))]) (rest := []) (lenOf pd_0 rfl) rfl (by show 2 * 0 + _ ≤ _; exact Nat.le_of_eq rfl) (hb hby at_91) (fun _ _ => ⟨rfl, e0, (by decide : 0 + 0 ≤ _), (by decide : 0 + 0 ≤ _)⟩)
        dsimp only [Pt.U, Pt.locs, Pt.cells, Pt.slots] at X111 l111 y111 z111 st111 hQ111
        subst l111 y111 z111
        obtain ⟨rfl, Nq111, Heq111⟩ := hQ111
        have N111 := Fr.app N0 Nq111
        obtain ⟨_, _, ⟨T112, L112, k112, n112⟩, -, X112, ⟨Lc112, hQ112, l112, y112, z112⟩, st112⟩ := Jvm.LawKit.callS X111 hx (y := (⟨"com/example/inkblock/inkblock/reader/ChannelLayoutOfPinLaw", "expected", "(I)Lcom/example/inkblock/inkblock/reader/ChannelLayout;"⟩ : MethodName)) hown (mvT hZ (hw _ (List.mem_of_getElem? (i := 10) rfl))) (mvT hZ (hw _ (List.mem_of_getElem? (i := 11) rfl))) (mvT hZ (hw _ (List.mem_of_getElem? (i := 12) rfl))) (mvT hZ (hw _ (List.mem_of_getElem? (i := 13) rfl))) (by decide) (backOf (W := 1) (rm2 l Z a0 hw [] ((1903654775 : Int32) ^^^ ((1 : Int32) <<< ((p2 &&& (31 : Int32)) &&& 31))) oj or_ h0 n0 Z0 H1 H2) hZ (hw _ (List.mem_of_getElem? (i := 13) rfl)) (hw _ (List.mem_of_getElem? (i := 12) rfl)) (by decide) (by decide)) (g := (mkF m 95 #[.val (.int p1), .val (.int p2), .val (.int (p1 &&& (7 : Int32))), .val (.int ((1903654775 : Int32) ^^^ ((1 : Int32) <<< ((p2 &&& (31 : Int32)) &&& 31))))] [(.int ((1903654775 : Int32) ^^^ ((1 : Int32) <<< ((p2 &&& (31 : Int32)) &&& 31)))), (own_of ((1903654775 : Int32) ^^^ ((1 : Int32) <<< ((p2 &&& (31 : Int32)) &&& 31))) oj or_)])) rfl (by rw [hml]; rfl) (argsL := [(.int ((1903654775 : Int32) ^^^ ((1 : Int32) <<< ((p2 &&& (31 : Int32)) &&& 31))))]) (rest := [(own_of ((1903654775 : Int32) ^^^ ((1 : Int32) <<< ((p2 &&& (31 : Int32)) &&& 31))) oj or_)]) (lenOf pd_0 rfl) rfl (by show 2 * 0 + _ ≤ _; unfold own_of; split; (exact Nat.le_refl _); split <;> exact Nat.le_refl _) (hb hby at_95) (fun _ _ => ⟨rfl, Heq111, (by decide : 0 + 0 ≤ _), (by decide : 0 + 0 ≤ _)⟩)
        dsimp only [Pt.U, Pt.locs, Pt.cells, Pt.slots] at X112 l112 y112 z112 st112 hQ112
        subst l112 y112 z112
        obtain ⟨rfl, Nq112, Heq112⟩ := hQ112
        have N112 := Fr.app N111 Nq112
        obtain ⟨fs, hr, hrun, hended, hW, hsame⟩ := X112.leave (v := some (.int (1 : Int32))) (fun h => by rw [Bd.returns] at h; cases h)
        refine ⟨_, _, pre109 _ ?_, hrun, hended, _, _, rfl, ?_, ⟨_, rfl⟩, hW, hsame.mono (by decide) (by decide)⟩
        · skip
          show Steps p.tables e below (s₁.setTop (mkF m 28 #[.val (.int p1), .val (.int p2), .val (.int (p1 &&& (7 : Int32))), .unset] [(.int (2 : Int32)), (.int (p1 &&& (7 : Int32)))])) _
          refine XS.icmpNo X0.here hx rfl (hb hby at_28) rfl (teq (hc28_110 : (p1 &&& (7 : Int32)) = (2 : Int32))).2 ?_
          show Steps p.tables e below (s₁.setTop (mkF m 31 #[.val (.int p1), .val (.int p2), .val (.int (p1 &&& (7 : Int32))), .unset] [])) _
          refine X0.ldcInt hx hown (mvT hZ (hw _ (List.mem_of_getElem? (i := 0) rfl))) (g := (mkF m 31 #[.val (.int p1), .val (.int p2), .val (.int (p1 &&& (7 : Int32))), .unset] [])) rfl (hb hby at_31) _ ?_
          show Steps p.tables e below (s₁.setTop (mkF m 33 #[.val (.int p1), .val (.int p2), .val (.int (p1 &&& (7 : Int32))), .unset] [(.int (1903654775 : Int32))])) _
          refine XS.iconst X0.here hx rfl (hb hby at_33) ?_
          show Steps p.tables e below (s₁.setTop (mkF m 34 #[.val (.int p1), .val (.int p2), .val (.int (p1 &&& (7 : Int32))), .unset] [(.int (1 : Int32)), (.int (1903654775 : Int32))])) _
          refine XS.iloadN X0.here hx rfl (hb hby at_34) rfl ?_
          show Steps p.tables e below (s₁.setTop (mkF m 35 #[.val (.int p1), .val (.int p2), .val (.int (p1 &&& (7 : Int32))), .unset] [(.int p2), (.int (1 : Int32)), (.int (1903654775 : Int32))])) _
          refine XS.bipush X0.here hx rfl (hb hby at_35) ?_
          show Steps p.tables e below (s₁.setTop (mkF m 37 #[.val (.int p1), .val (.int p2), .val (.int (p1 &&& (7 : Int32))), .unset] [(.int (31 : Int32)), (.int p2), (.int (1 : Int32)), (.int (1903654775 : Int32))])) _
          refine XS.iand X0.here hx rfl (hb hby at_37) rfl ?_
          show Steps p.tables e below (s₁.setTop (mkF m 38 #[.val (.int p1), .val (.int p2), .val (.int (p1 &&& (7 : Int32))), .unset] [(.int (p2 &&& (31 : Int32))), (.int (1 : Int32)), (.int (1903654775 : Int32))])) _
          refine XS.ishl X0.here hx rfl (hb hby at_38) rfl ?_
          show Steps p.tables e below (s₁.setTop (mkF m 39 #[.val (.int p1), .val (.int p2), .val (.int (p1 &&& (7 : Int32))), .unset] [(.int ((1 : Int32) <<< ((p2 &&& (31 : Int32)) &&& 31))), (.int (1903654775 : Int32))])) _
          refine XS.ixor X0.here hx rfl (hb hby at_39) rfl ?_
          show Steps p.tables e below (s₁.setTop (mkF m 40 #[.val (.int p1), .val (.int p2), .val (.int (p1 &&& (7 : Int32))), .unset] [(.int ((1903654775 : Int32) ^^^ ((1 : Int32) <<< ((p2 &&& (31 : Int32)) &&& 31))))])) _
          refine XS.istoreN X0.here hx rfl (hb hby at_40) rfl (l' := #[.val (.int p1), .val (.int p2), .val (.int (p1 &&& (7 : Int32))), .val (.int ((1903654775 : Int32) ^^^ ((1 : Int32) <<< ((p2 &&& (31 : Int32)) &&& 31))))]) rfl ?_
          show Steps p.tables e below (s₁.setTop (mkF m 41 #[.val (.int p1), .val (.int p2), .val (.int (p1 &&& (7 : Int32))), .val (.int ((1903654775 : Int32) ^^^ ((1 : Int32) <<< ((p2 &&& (31 : Int32)) &&& 31))))] [])) _
          refine XS.goto X0.here hx rfl (pc0 := 41) (pc' := 90) rfl (hb hby at_41) (by decide) (by decide) ?_
          show Steps p.tables e below (s₁.setTop (mkF m 90 #[.val (.int p1), .val (.int p2), .val (.int (p1 &&& (7 : Int32))), .val (.int ((1903654775 : Int32) ^^^ ((1 : Int32) <<< ((p2 &&& (31 : Int32)) &&& 31))))] [])) _
          refine XS.iloadN X0.here hx rfl (hb hby at_90) rfl ?_
          show Steps p.tables e below (s₁.setTop (mkF m 91 #[.val (.int p1), .val (.int p2), .val (.int (p1 &&& (7 : Int32))), .val (.int ((1903654775 : Int32) ^^^ ((1 : Int32) <<< ((p2 &&& (31 : Int32)) &&& 31))))] [(.int ((1903654775 : Int32) ^^^ ((1 : Int32) <<< ((p2 &&& (31 : Int32)) &&& 31))))])) _
          refine st111 _ ?_
          show Steps p.tables e below (T111.setTop (mkF m 94 #[.val (.int p1), .val (.int p2), .val (.int (p1 &&& (7 : Int32))), .val (.int ((1903654775 : Int32) ^^^ ((1 : Int32) <<< ((p2 &&& (31 : Int32)) &&& 31))))] [(own_of ((1903654775 : Int32) ^^^ ((1 : Int32) <<< ((p2 &&& (31 : Int32)) &&& 31))) oj or_)])) _
          refine XS.iloadN X111.here hx rfl (hb hby at_94) rfl ?_
          show Steps p.tables e below (T111.setTop (mkF m 95 #[.val (.int p1), .val (.int p2), .val (.int (p1 &&& (7 : Int32))), .val (.int ((1903654775 : Int32) ^^^ ((1 : Int32) <<< ((p2 &&& (31 : Int32)) &&& 31))))] [(.int ((1903654775 : Int32) ^^^ ((1 : Int32) <<< ((p2 &&& (31 : Int32)) &&& 31)))), (own_of ((1903654775 : Int32) ^^^ ((1 : Int32) <<< ((p2 &&& (31 : Int32)) &&& 31))) oj or_)])) _
          refine st112 _ ?_
          show Steps p.tables e below (T112.setTop (mkF m 98 #[.val (.int p1), .val (.int p2), .val (.int (p1 &&& (7 : Int32))), .val (.int ((1903654775 : Int32) ^^^ ((1 : Int32) <<< ((p2 &&& (31 : Int32)) &&& 31))))] [(own_exp ((1903654775 : Int32) ^^^ ((1 : Int32) <<< ((p2 &&& (31 : Int32)) &&& 31))) oj or_), (own_of ((1903654775 : Int32) ^^^ ((1 : Int32) <<< ((p2 &&& (31 : Int32)) &&& 31))) oj or_)])) _
          refine Jvm.RoadKit.acmp (g := (mkF m 98 #[.val (.int p1), .val (.int p2), .val (.int (p1 &&& (7 : Int32))), .val (.int ((1903654775 : Int32) ^^^ ((1 : Int32) <<< ((p2 &&& (31 : Int32)) &&& 31))))] [(own_exp ((1903654775 : Int32) ^^^ ((1 : Int32) <<< ((p2 &&& (31 : Int32)) &&& 31))) oj or_), (own_of ((1903654775 : Int32) ^^^ ((1 : Int32) <<< ((p2 &&& (31 : Int32)) &&& 31))) oj or_)])) X112 hx rfl (own_ref1 _ _ _) (own_ref2 _ _ _) (pc0 := 98) (pc' := 101) (same := true) rfl (hb hby at_98) rfl (decide_eq_true (own_eq _ _ _ : ((own_of ((1903654775 : Int32) ^^^ ((1 : Int32) <<< ((p2 &&& (31 : Int32)) &&& 31))) oj or_) : Value) = (own_exp ((1903654775 : Int32) ^^^ ((1 : Int32) <<< ((p2 &&& (31 : Int32)) &&& 31))) oj or_))) (by decide) (by decide) ?_
          show Steps p.tables e below (T112.setTop (mkF m 101 #[.val (.int p1), .val (.int p2), .val (.int (p1 &&& (7 : Int32))), .val (.int ((1903654775 : Int32) ^^^ ((1 : Int32) <<< ((p2 &&& (31 : Int32)) &&& 31))))] [])) _
          refine XS.iconst X112.here hx rfl (hb hby at_101) ?_
          show Steps p.tables e below (T112.setTop (mkF m 102 #[.val (.int p1), .val (.int p2), .val (.int (p1 &&& (7 : Int32))), .val (.int ((1903654775 : Int32) ^^^ ((1 : Int32) <<< ((p2 &&& (31 : Int32)) &&& 31))))] [(.int (1 : Int32))])) _
          refine XS.goto X112.here hx rfl (pc0 := 102) (pc' := 106) rfl (hb hby at_102) (by decide) (by decide) ?_
          show Steps p.tables e below (T112.setTop (mkF m 106 #[.val (.int p1), .val (.int p2), .val (.int (p1 &&& (7 : Int32))), .val (.int ((1903654775 : Int32) ^^^ ((1 : Int32) <<< ((p2 &&& (31 : Int32)) &&& 31))))] [(.int (1 : Int32))])) _
          exact retN X112 hx (t := .boolean) Bd.returns (by simp) (hb hby at_106) hr
        · show Q0 Z p1 p2 pa pk oj or_ h0 n0 _ T112.heap _
          rw [Heq112]
          exact ⟨rfl, N112⟩
      · skip
        have pre113 : ∀ t, Steps p.tables e below (s₁.setTop (mkF m 46 #[.val (.int p1), .val (.int p2), .val (.int (p1 &&& (7 : Int32))), .unset] [(.int (3 : Int32)), (.int (p1 &&& (7 : Int32)))])) t → Steps p.tables e below (s₁.setTop (entryFrame m #[(.int p1), (.int p2)] maxLocals)) t := fun t kt => by
          refine pre109 t ?_
          show Steps p.tables e below (s₁.setTop (mkF m 28 #[.val (.int p1), .val (.int p2), .val (.int (p1 &&& (7 : Int32))), .unset] [(.int (2 : Int32)), (.int (p1 &&& (7 : Int32)))])) _
          refine XS.icmpYes X0.here hx rfl (pc0 := 28) (pc' := 44) rfl (hb hby at_28) rfl (feq (hc28_110 : ¬ ((p1 &&& (7 : Int32)) = (2 : Int32)))).2 (by decide) (by decide) ?_
          show Steps p.tables e below (s₁.setTop (mkF m 44 #[.val (.int p1), .val (.int p2), .val (.int (p1 &&& (7 : Int32))), .unset] [])) _
          refine XS.iloadN X0.here hx rfl (hb hby at_44) rfl ?_
          show Steps p.tables e below (s₁.setTop (mkF m 45 #[.val (.int p1), .val (.int p2), .val (.int (p1 &&& (7 : Int32))), .unset] [(.int (p1 &&& (7 : Int32)))])) _
          refine XS.iconst X0.here hx rfl (hb hby at_45) ?_
          show Steps p.tables e below (s₁.setTop (mkF m 46 #[.val (.int p1), .val (.int p2), .val (.int (p1 &&& (7 : Int32))), .unset] [(.int (3 : Int32)), (.int (p1 &&& (7 : Int32)))])) _
          exact kt
        by_cases hc46_114 : (p1 &&& (7 : Int32)) = (3 : Int32)
        · skip
          obtain ⟨_, _, ⟨T115, L115, k115, n115⟩, -, X115, ⟨Lc115, hQ115, l115, y115, z115⟩, st115⟩ := Jvm.LawKit.callS X0 hx (y := (⟨"com/example/inkblock/inkblock/reader/ChannelLayout", "of", "(I)Lcom/example/inkblock/inkblock/reader/ChannelLayout;"⟩ : MethodName)) hown (mvT hZ (hw _ (List.mem_of_getElem? (i := 1) rfl))) (mvT hZ (hw _ (List.mem_of_getElem? (i := 2) rfl))) (mvT hZ (hw _ (List.mem_of_getElem? (i := 3) rfl))) (mvT hZ (hw _ (List.mem_of_getElem? (i := 4) rfl))) (by decide) (backOf (W := 0) (rm1 l Z a0 hw [] ((-2012129793 : Int32) ^^^ ((1 : Int32) <<< ((p2 &&& (31 : Int32)) &&& 31))) pa pk oj or_ h0 n0 Z0 H0 H1 H2 H3 H4 H5) hZ (hw _ (List.mem_of_getElem? (i := 4) rfl)) (hw _ (List.mem_of_getElem? (i := 3) rfl)) (by decide) (by decide)) (g := (mkF m 91 #[.val (.int p1), .val (.int p2), .val (.int (p1 &&& (7 : Int32))), .val (.int ((-2012129793 : Int32) ^^^ ((1 : Int32) <<< ((p2 &&& (31 : Int32)) &&& 31))))] [(.int ((-2012129793 : Int32) ^^^ ((1 : Int32) <<< ((p2 &&& (31 : Int32)) &&& 31))))])) rfl (by rw [hml]; rfl) (argsL := [(.int ((-2012129793 : Int32) ^^^ ((1 : Int32) <<< ((p2 &&& (31 : Int32)) &&& 31))))]) (rest := []) (lenOf pd_0 rfl) rfl (by show 2 * 0 + _ ≤ _; exact Nat.le_of_eq rfl) (hb hby at_91) (fun _ _ => ⟨rfl, e0, (by decide : 0 + 0 ≤ _), (by decide : 0 + 0 ≤ _)⟩)
          dsimp only [Pt.U, Pt.locs, Pt.cells, Pt.slots] at X115 l115 y115 z115 st115 hQ115
          subst l115 y115 z115
          obtain ⟨rfl, Nq115, Heq115⟩ := hQ115
          have N115 := Fr.app N0 Nq115
          obtain ⟨_, _, ⟨T116, L116, k116, n116⟩, -, X116, ⟨Lc116, hQ116, l116, y116, z116⟩, st116⟩ := Jvm.LawKit.callS X115 hx (y := (⟨"com/example/inkblock/inkblock/reader/ChannelLayoutOfPinLaw", "expected", "(I)Lcom/example/inkblock/inkblock/reader/ChannelLayout;"⟩ : MethodName)) hown (mvT hZ (hw _ (List.mem_of_getElem? (i := 10) rfl))) (mvT hZ (hw _ (List.mem_of_getElem? (i := 11) rfl))) (mvT hZ (hw _ (List.mem_of_getElem? (i := 12) rfl))) (mvT hZ (hw _ (List.mem_of_getElem? (i := 13) rfl))) (by decide) (backOf (W := 1) (rm2 l Z a0 hw [] ((-2012129793 : Int32) ^^^ ((1 : Int32) <<< ((p2 &&& (31 : Int32)) &&& 31))) oj or_ h0 n0 Z0 H1 H2) hZ (hw _ (List.mem_of_getElem? (i := 13) rfl)) (hw _ (List.mem_of_getElem? (i := 12) rfl)) (by decide) (by decide)) (g := (mkF m 95 #[.val (.int p1), .val (.int p2), .val (.int (p1 &&& (7 : Int32))), .val (.int ((-2012129793 : Int32) ^^^ ((1 : Int32) <<< ((p2 &&& (31 : Int32)) &&& 31))))] [(.int ((-2012129793 : Int32) ^^^ ((1 : Int32) <<< ((p2 &&& (31 : Int32)) &&& 31)))), (own_of ((-2012129793 : Int32) ^^^ ((1 : Int32) <<< ((p2 &&& (31 : Int32)) &&& 31))) oj or_)])) rfl (by rw [hml]; rfl) (argsL := [(.int ((-2012129793 : Int32) ^^^ ((1 : Int32) <<< ((p2 &&& (31 : Int32)) &&& 31))))]) (rest := [(own_of ((-2012129793 : Int32) ^^^ ((1 : Int32) <<< ((p2 &&& (31 : Int32)) &&& 31))) oj or_)]) (lenOf pd_0 rfl) rfl (by show 2 * 0 + _ ≤ _; unfold own_of; split; (exact Nat.le_refl _); split <;> exact Nat.le_refl _) (hb hby at_95) (fun _ _ => ⟨rfl, Heq115, (by decide : 0 + 0 ≤ _), (by decide : 0 + 0 ≤ _)⟩)
          dsimp only [Pt.U, Pt.locs, Pt.cells, Pt.slots] at X116 l116 y116 z116 st116 hQ116
          subst l116 y116 z116
          obtain ⟨rfl, Nq116, Heq116⟩ := hQ116
          have N116 := Fr.app N115 Nq116
          obtain ⟨fs, hr, hrun, hended, hW, hsame⟩ := X116.leave (v := some (.int (1 : Int32))) (fun h => by rw [Bd.returns] at h; cases h)
          refine ⟨_, _, pre113 _ ?_, hrun, hended, _, _, rfl, ?_, ⟨_, rfl⟩, hW, hsame.mono (by decide) (by decide)⟩
          · skip
            show Steps p.tables e below (s₁.setTop (mkF m 46 #[.val (.int p1), .val (.int p2), .val (.int (p1 &&& (7 : Int32))), .unset] [(.int (3 : Int32)), (.int (p1 &&& (7 : Int32)))])) _
            refine XS.icmpNo X0.here hx rfl (hb hby at_46) rfl (teq (hc46_114 : (p1 &&& (7 : Int32)) = (3 : Int32))).2 ?_
            show Steps p.tables e below (s₁.setTop (mkF m 49 #[.val (.int p1), .val (.int p2), .val (.int (p1 &&& (7 : Int32))), .unset] [])) _
            refine X0.ldcInt hx hown (mvT hZ (hw _ (List.mem_of_getElem? (i := 16) rfl))) (g := (mkF m 49 #[.val (.int p1), .val (.int p2), .val (.int (p1 &&& (7 : Int32))), .unset] [])) rfl (hb hby at_49) _ ?_
            show Steps p.tables e below (s₁.setTop (mkF m 51 #[.val (.int p1), .val (.int p2), .val (.int (p1 &&& (7 : Int32))), .unset] [(.int (-2012129793 : Int32))])) _
            refine XS.iconst X0.here hx rfl (hb hby at_51) ?_
            show Steps p.tables e below (s₁.setTop (mkF m 52 #[.val (.int p1), .val (.int p2), .val (.int (p1 &&& (7 : Int32))), .unset] [(.int (1 : Int32)), (.int (-2012129793 : Int32))])) _
            refine XS.iloadN X0.here hx rfl (hb hby at_52) rfl ?_
            show Steps p.tables e below (s₁.setTop (mkF m 53 #[.val (.int p1), .val (.int p2), .val (.int (p1 &&& (7 : Int32))), .unset] [(.int p2), (.int (1 : Int32)), (.int (-2012129793 : Int32))])) _
            refine XS.bipush X0.here hx rfl (hb hby at_53) ?_
            show Steps p.tables e below (s₁.setTop (mkF m 55 #[.val (.int p1), .val (.int p2), .val (.int (p1 &&& (7 : Int32))), .unset] [(.int (31 : Int32)), (.int p2), (.int (1 : Int32)), (.int (-2012129793 : Int32))])) _
            refine XS.iand X0.here hx rfl (hb hby at_55) rfl ?_
            show Steps p.tables e below (s₁.setTop (mkF m 56 #[.val (.int p1), .val (.int p2), .val (.int (p1 &&& (7 : Int32))), .unset] [(.int (p2 &&& (31 : Int32))), (.int (1 : Int32)), (.int (-2012129793 : Int32))])) _
            refine XS.ishl X0.here hx rfl (hb hby at_56) rfl ?_
            show Steps p.tables e below (s₁.setTop (mkF m 57 #[.val (.int p1), .val (.int p2), .val (.int (p1 &&& (7 : Int32))), .unset] [(.int ((1 : Int32) <<< ((p2 &&& (31 : Int32)) &&& 31))), (.int (-2012129793 : Int32))])) _
            refine XS.ixor X0.here hx rfl (hb hby at_57) rfl ?_
            show Steps p.tables e below (s₁.setTop (mkF m 58 #[.val (.int p1), .val (.int p2), .val (.int (p1 &&& (7 : Int32))), .unset] [(.int ((-2012129793 : Int32) ^^^ ((1 : Int32) <<< ((p2 &&& (31 : Int32)) &&& 31))))])) _
            refine XS.istoreN X0.here hx rfl (hb hby at_58) rfl (l' := #[.val (.int p1), .val (.int p2), .val (.int (p1 &&& (7 : Int32))), .val (.int ((-2012129793 : Int32) ^^^ ((1 : Int32) <<< ((p2 &&& (31 : Int32)) &&& 31))))]) rfl ?_
            show Steps p.tables e below (s₁.setTop (mkF m 59 #[.val (.int p1), .val (.int p2), .val (.int (p1 &&& (7 : Int32))), .val (.int ((-2012129793 : Int32) ^^^ ((1 : Int32) <<< ((p2 &&& (31 : Int32)) &&& 31))))] [])) _
            refine XS.goto X0.here hx rfl (pc0 := 59) (pc' := 90) rfl (hb hby at_59) (by decide) (by decide) ?_
            show Steps p.tables e below (s₁.setTop (mkF m 90 #[.val (.int p1), .val (.int p2), .val (.int (p1 &&& (7 : Int32))), .val (.int ((-2012129793 : Int32) ^^^ ((1 : Int32) <<< ((p2 &&& (31 : Int32)) &&& 31))))] [])) _
            refine XS.iloadN X0.here hx rfl (hb hby at_90) rfl ?_
            show Steps p.tables e below (s₁.setTop (mkF m 91 #[.val (.int p1), .val (.int p2), .val (.int (p1 &&& (7 : Int32))), .val (.int ((-2012129793 : Int32) ^^^ ((1 : Int32) <<< ((p2 &&& (31 : Int32)) &&& 31))))] [(.int ((-2012129793 : Int32) ^^^ ((1 : Int32) <<< ((p2 &&& (31 : Int32)) &&& 31))))])) _
            refine st115 _ ?_
            show Steps p.tables e below (T115.setTop (mkF m 94 #[.val (.int p1), .val (.int p2), .val (.int (p1 &&& (7 : Int32))), .val (.int ((-2012129793 : Int32) ^^^ ((1 : Int32) <<< ((p2 &&& (31 : Int32)) &&& 31))))] [(own_of ((-2012129793 : Int32) ^^^ ((1 : Int32) <<< ((p2 &&& (31 : Int32)) &&& 31))) oj or_)])) _
            refine XS.iloadN X115.here hx rfl (hb hby at_94) rfl ?_
            show Steps p.tables e below (T115.setTop (mkF m 95 #[.val (.int p1), .val (.int p2), .val (.int (p1 &&& (7 : Int32))), .val (.int ((-2012129793 : Int32) ^^^ ((1 : Int32) <<< ((p2 &&& (31 : Int32)) &&& 31))))] [(.int ((-2012129793 : Int32) ^^^ ((1 : Int32) <<< ((p2 &&& (31 : Int32)) &&& 31)))), (own_of ((-2012129793 : Int32) ^^^ ((1 : Int32) <<< ((p2 &&& (31 : Int32)) &&& 31))) oj or_)])) _
            refine st116 _ ?_
            show Steps p.tables e below (T116.setTop (mkF m 98 #[.val (.int p1), .val (.int p2), .val (.int (p1 &&& (7 : Int32))), .val (.int ((-2012129793 : Int32) ^^^ ((1 : Int32) <<< ((p2 &&& (31 : Int32)) &&& 31))))] [(own_exp ((-2012129793 : Int32) ^^^ ((1 : Int32) <<< ((p2 &&& (31 : Int32)) &&& 31))) oj or_), (own_of ((-2012129793 : Int32) ^^^ ((1 : Int32) <<< ((p2 &&& (31 : Int32)) &&& 31))) oj or_)])) _
            refine Jvm.RoadKit.acmp (g := (mkF m 98 #[.val (.int p1), .val (.int p2), .val (.int (p1 &&& (7 : Int32))), .val (.int ((-2012129793 : Int32) ^^^ ((1 : Int32) <<< ((p2 &&& (31 : Int32)) &&& 31))))] [(own_exp ((-2012129793 : Int32) ^^^ ((1 : Int32) <<< ((p2 &&& (31 : Int32)) &&& 31))) oj or_), (own_of ((-2012129793 : Int32) ^^^ ((1 : Int32) <<< ((p2 &&& (31 : Int32)) &&& 31))) oj or_)])) X116 hx rfl (own_ref1 _ _ _) (own_ref2 _ _ _) (pc0 := 98) (pc' := 101) (same := true) rfl (hb hby at_98) rfl (decide_eq_true (own_eq _ _ _ : ((own_of ((-2012129793 : Int32) ^^^ ((1 : Int32) <<< ((p2 &&& (31 : Int32)) &&& 31))) oj or_) : Value) = (own_exp ((-2012129793 : Int32) ^^^ ((1 : Int32) <<< ((p2 &&& (31 : Int32)) &&& 31))) oj or_))) (by decide) (by decide) ?_
            show Steps p.tables e below (T116.setTop (mkF m 101 #[.val (.int p1), .val (.int p2), .val (.int (p1 &&& (7 : Int32))), .val (.int ((-2012129793 : Int32) ^^^ ((1 : Int32) <<< ((p2 &&& (31 : Int32)) &&& 31))))] [])) _
            refine XS.iconst X116.here hx rfl (hb hby at_101) ?_
            show Steps p.tables e below (T116.setTop (mkF m 102 #[.val (.int p1), .val (.int p2), .val (.int (p1 &&& (7 : Int32))), .val (.int ((-2012129793 : Int32) ^^^ ((1 : Int32) <<< ((p2 &&& (31 : Int32)) &&& 31))))] [(.int (1 : Int32))])) _
            refine XS.goto X116.here hx rfl (pc0 := 102) (pc' := 106) rfl (hb hby at_102) (by decide) (by decide) ?_
            show Steps p.tables e below (T116.setTop (mkF m 106 #[.val (.int p1), .val (.int p2), .val (.int (p1 &&& (7 : Int32))), .val (.int ((-2012129793 : Int32) ^^^ ((1 : Int32) <<< ((p2 &&& (31 : Int32)) &&& 31))))] [(.int (1 : Int32))])) _
            exact retN X116 hx (t := .boolean) Bd.returns (by simp) (hb hby at_106) hr
          · show Q0 Z p1 p2 pa pk oj or_ h0 n0 _ T116.heap _
            rw [Heq116]
            exact ⟨rfl, N116⟩
        · skip
          have pre117 : ∀ t, Steps p.tables e below (s₁.setTop (mkF m 64 #[.val (.int p1), .val (.int p2), .val (.int (p1 &&& (7 : Int32))), .unset] [(.int (4 : Int32)), (.int (p1 &&& (7 : Int32)))])) t → Steps p.tables e below (s₁.setTop (entryFrame m #[(.int p1), (.int p2)] maxLocals)) t := fun t kt => by
            refine pre113 t ?_
            show Steps p.tables e below (s₁.setTop (mkF m 46 #[.val (.int p1), .val (.int p2), .val (.int (p1 &&& (7 : Int32))), .unset] [(.int (3 : Int32)), (.int (p1 &&& (7 : Int32)))])) _
            refine XS.icmpYes X0.here hx rfl (pc0 := 46) (pc' := 62) rfl (hb hby at_46) rfl (feq (hc46_114 : ¬ ((p1 &&& (7 : Int32)) = (3 : Int32)))).2 (by decide) (by decide) ?_
            show Steps p.tables e below (s₁.setTop (mkF m 62 #[.val (.int p1), .val (.int p2), .val (.int (p1 &&& (7 : Int32))), .unset] [])) _
            refine XS.iloadN X0.here hx rfl (hb hby at_62) rfl ?_
            show Steps p.tables e below (s₁.setTop (mkF m 63 #[.val (.int p1), .val (.int p2), .val (.int (p1 &&& (7 : Int32))), .unset] [(.int (p1 &&& (7 : Int32)))])) _
            refine XS.iconst X0.here hx rfl (hb hby at_63) ?_
            show Steps p.tables e below (s₁.setTop (mkF m 64 #[.val (.int p1), .val (.int p2), .val (.int (p1 &&& (7 : Int32))), .unset] [(.int (4 : Int32)), (.int (p1 &&& (7 : Int32)))])) _
            exact kt
          by_cases hc64_118 : (p1 &&& (7 : Int32)) = (4 : Int32)
          · skip
            obtain ⟨_, _, ⟨T119, L119, k119, n119⟩, -, X119, ⟨Lc119, hQ119, l119, y119, z119⟩, st119⟩ := Jvm.LawKit.callS X0 hx (y := (⟨"com/example/inkblock/inkblock/reader/ChannelLayout", "of", "(I)Lcom/example/inkblock/inkblock/reader/ChannelLayout;"⟩ : MethodName)) hown (mvT hZ (hw _ (List.mem_of_getElem? (i := 1) rfl))) (mvT hZ (hw _ (List.mem_of_getElem? (i := 2) rfl))) (mvT hZ (hw _ (List.mem_of_getElem? (i := 3) rfl))) (mvT hZ (hw _ (List.mem_of_getElem? (i := 4) rfl))) (by decide) (backOf (W := 0) (rm1 l Z a0 hw [] ((1903654775 : Int32) + p2) pa pk oj or_ h0 n0 Z0 H0 H1 H2 H3 H4 H5) hZ (hw _ (List.mem_of_getElem? (i := 4) rfl)) (hw _ (List.mem_of_getElem? (i := 3) rfl)) (by decide) (by decide)) (g := (mkF m 91 #[.val (.int p1), .val (.int p2), .val (.int (p1 &&& (7 : Int32))), .val (.int ((1903654775 : Int32) + p2))] [(.int ((1903654775 : Int32) + p2))])) rfl (by rw [hml]; rfl) (argsL := [(.int ((1903654775 : Int32) + p2))]) (rest := []) (lenOf pd_0 rfl) rfl (by show 2 * 0 + _ ≤ _; exact Nat.le_of_eq rfl) (hb hby at_91) (fun _ _ => ⟨rfl, e0, (by decide : 0 + 0 ≤ _), (by decide : 0 + 0 ≤ _)⟩)
            dsimp only [Pt.U, Pt.locs, Pt.cells, Pt.slots] at X119 l119 y119 z119 st119 hQ119
            subst l119 y119 z119
            obtain ⟨rfl, Nq119, Heq119⟩ := hQ119
            have N119 := Fr.app N0 Nq119
            obtain ⟨_, _, ⟨T120, L120, k120, n120⟩, -, X120, ⟨Lc120, hQ120, l120, y120, z120⟩, st120⟩ := Jvm.LawKit.callS X119 hx (y := (⟨"com/example/inkblock/inkblock/reader/ChannelLayoutOfPinLaw", "expected", "(I)Lcom/example/inkblock/inkblock/reader/ChannelLayout;"⟩ : MethodName)) hown (mvT hZ (hw _ (List.mem_of_getElem? (i := 10) rfl))) (mvT hZ (hw _ (List.mem_of_getElem? (i := 11) rfl))) (mvT hZ (hw _ (List.mem_of_getElem? (i := 12) rfl))) (mvT hZ (hw _ (List.mem_of_getElem? (i := 13) rfl))) (by decide) (backOf (W := 1) (rm2 l Z a0 hw [] ((1903654775 : Int32) + p2) oj or_ h0 n0 Z0 H1 H2) hZ (hw _ (List.mem_of_getElem? (i := 13) rfl)) (hw _ (List.mem_of_getElem? (i := 12) rfl)) (by decide) (by decide)) (g := (mkF m 95 #[.val (.int p1), .val (.int p2), .val (.int (p1 &&& (7 : Int32))), .val (.int ((1903654775 : Int32) + p2))] [(.int ((1903654775 : Int32) + p2)), (own_of ((1903654775 : Int32) + p2) oj or_)])) rfl (by rw [hml]; rfl) (argsL := [(.int ((1903654775 : Int32) + p2))]) (rest := [(own_of ((1903654775 : Int32) + p2) oj or_)]) (lenOf pd_0 rfl) rfl (by show 2 * 0 + _ ≤ _; unfold own_of; split; (exact Nat.le_refl _); split <;> exact Nat.le_refl _) (hb hby at_95) (fun _ _ => ⟨rfl, Heq119, (by decide : 0 + 0 ≤ _), (by decide : 0 + 0 ≤ _)⟩)
            dsimp only [Pt.U, Pt.locs, Pt.cells, Pt.slots] at X120 l120 y120 z120 st120 hQ120
            subst l120 y120 z120
            obtain ⟨rfl, Nq120, Heq120⟩ := hQ120
            have N120 := Fr.app N119 Nq120
            obtain ⟨fs, hr, hrun, hended, hW, hsame⟩ := X120.leave (v := some (.int (1 : Int32))) (fun h => by rw [Bd.returns] at h; cases h)
            refine ⟨_, _, pre117 _ ?_, hrun, hended, _, _, rfl, ?_, ⟨_, rfl⟩, hW, hsame.mono (by decide) (by decide)⟩
            · skip
              show Steps p.tables e below (s₁.setTop (mkF m 64 #[.val (.int p1), .val (.int p2), .val (.int (p1 &&& (7 : Int32))), .unset] [(.int (4 : Int32)), (.int (p1 &&& (7 : Int32)))])) _
              refine XS.icmpNo X0.here hx rfl (hb hby at_64) rfl (teq (hc64_118 : (p1 &&& (7 : Int32)) = (4 : Int32))).2 ?_
              show Steps p.tables e below (s₁.setTop (mkF m 67 #[.val (.int p1), .val (.int p2), .val (.int (p1 &&& (7 : Int32))), .unset] [])) _
              refine X0.ldcInt hx hown (mvT hZ (hw _ (List.mem_of_getElem? (i := 0) rfl))) (g := (mkF m 67 #[.val (.int p1), .val (.int p2), .val (.int (p1 &&& (7 : Int32))), .unset] [])) rfl (hb hby at_67) _ ?_
              show Steps p.tables e below (s₁.setTop (mkF m 69 #[.val (.int p1), .val (.int p2), .val (.int (p1 &&& (7 : Int32))), .unset] [(.int (1903654775 : Int32))])) _
              refine XS.iloadN X0.here hx rfl (hb hby at_69) rfl ?_
              show Steps p.tables e below (s₁.setTop (mkF m 70 #[.val (.int p1), .val (.int p2), .val (.int (p1 &&& (7 : Int32))), .unset] [(.int p2), (.int (1903654775 : Int32))])) _
              refine XS.iadd X0.here hx rfl (hb hby at_70) rfl ?_
              show Steps p.tables e below (s₁.setTop (mkF m 71 #[.val (.int p1), .val (.int p2), .val (.int (p1 &&& (7 : Int32))), .unset] [(.int ((1903654775 : Int32) + p2))])) _
              refine XS.istoreN X0.here hx rfl (hb hby at_71) rfl (l' := #[.val (.int p1), .val (.int p2), .val (.int (p1 &&& (7 : Int32))), .val (.int ((1903654775 : Int32) + p2))]) rfl ?_
              show Steps p.tables e below (s₁.setTop (mkF m 72 #[.val (.int p1), .val (.int p2), .val (.int (p1 &&& (7 : Int32))), .val (.int ((1903654775 : Int32) + p2))] [])) _
              refine XS.goto X0.here hx rfl (pc0 := 72) (pc' := 90) rfl (hb hby at_72) (by decide) (by decide) ?_
              show Steps p.tables e below (s₁.setTop (mkF m 90 #[.val (.int p1), .val (.int p2), .val (.int (p1 &&& (7 : Int32))), .val (.int ((1903654775 : Int32) + p2))] [])) _
              refine XS.iloadN X0.here hx rfl (hb hby at_90) rfl ?_
              show Steps p.tables e below (s₁.setTop (mkF m 91 #[.val (.int p1), .val (.int p2), .val (.int (p1 &&& (7 : Int32))), .val (.int ((1903654775 : Int32) + p2))] [(.int ((1903654775 : Int32) + p2))])) _
              refine st119 _ ?_
              show Steps p.tables e below (T119.setTop (mkF m 94 #[.val (.int p1), .val (.int p2), .val (.int (p1 &&& (7 : Int32))), .val (.int ((1903654775 : Int32) + p2))] [(own_of ((1903654775 : Int32) + p2) oj or_)])) _
              refine XS.iloadN X119.here hx rfl (hb hby at_94) rfl ?_
              show Steps p.tables e below (T119.setTop (mkF m 95 #[.val (.int p1), .val (.int p2), .val (.int (p1 &&& (7 : Int32))), .val (.int ((1903654775 : Int32) + p2))] [(.int ((1903654775 : Int32) + p2)), (own_of ((1903654775 : Int32) + p2) oj or_)])) _
              refine st120 _ ?_
              show Steps p.tables e below (T120.setTop (mkF m 98 #[.val (.int p1), .val (.int p2), .val (.int (p1 &&& (7 : Int32))), .val (.int ((1903654775 : Int32) + p2))] [(own_exp ((1903654775 : Int32) + p2) oj or_), (own_of ((1903654775 : Int32) + p2) oj or_)])) _
              refine Jvm.RoadKit.acmp (g := (mkF m 98 #[.val (.int p1), .val (.int p2), .val (.int (p1 &&& (7 : Int32))), .val (.int ((1903654775 : Int32) + p2))] [(own_exp ((1903654775 : Int32) + p2) oj or_), (own_of ((1903654775 : Int32) + p2) oj or_)])) X120 hx rfl (own_ref1 _ _ _) (own_ref2 _ _ _) (pc0 := 98) (pc' := 101) (same := true) rfl (hb hby at_98) rfl (decide_eq_true (own_eq _ _ _ : ((own_of ((1903654775 : Int32) + p2) oj or_) : Value) = (own_exp ((1903654775 : Int32) + p2) oj or_))) (by decide) (by decide) ?_
              show Steps p.tables e below (T120.setTop (mkF m 101 #[.val (.int p1), .val (.int p2), .val (.int (p1 &&& (7 : Int32))), .val (.int ((1903654775 : Int32) + p2))] [])) _
              refine XS.iconst X120.here hx rfl (hb hby at_101) ?_
              show Steps p.tables e below (T120.setTop (mkF m 102 #[.val (.int p1), .val (.int p2), .val (.int (p1 &&& (7 : Int32))), .val (.int ((1903654775 : Int32) + p2))] [(.int (1 : Int32))])) _
              refine XS.goto X120.here hx rfl (pc0 := 102) (pc' := 106) rfl (hb hby at_102) (by decide) (by decide) ?_
              show Steps p.tables e below (T120.setTop (mkF m 106 #[.val (.int p1), .val (.int p2), .val (.int (p1 &&& (7 : Int32))), .val (.int ((1903654775 : Int32) + p2))] [(.int (1 : Int32))])) _
              exact retN X120 hx (t := .boolean) Bd.returns (by simp) (hb hby at_106) hr
            · show Q0 Z p1 p2 pa pk oj or_ h0 n0 _ T120.heap _
              rw [Heq120]
              exact ⟨rfl, N120⟩
          · skip
            have pre121 : ∀ t, Steps p.tables e below (s₁.setTop (mkF m 77 #[.val (.int p1), .val (.int p2), .val (.int (p1 &&& (7 : Int32))), .unset] [(.int (5 : Int32)), (.int (p1 &&& (7 : Int32)))])) t → Steps p.tables e below (s₁.setTop (entryFrame m #[(.int p1), (.int p2)] maxLocals)) t := fun t kt => by
              refine pre117 t ?_
              show Steps p.tables e below (s₁.setTop (mkF m 64 #[.val (.int p1), .val (.int p2), .val (.int (p1 &&& (7 : Int32))), .unset] [(.int (4 : Int32)), (.int (p1 &&& (7 : Int32)))])) _
              refine XS.icmpYes X0.here hx rfl (pc0 := 64) (pc' := 75) rfl (hb hby at_64) rfl (feq (hc64_118 : ¬ ((p1 &&& (7 : Int32)) = (4 : Int32)))).2 (by decide) (by decide) ?_
              show Steps p.tables e below (s₁.setTop (mkF m 75 #[.val (.int p1), .val (.int p2), .val (.int (p1 &&& (7 : Int32))), .unset] [])) _
              refine XS.iloadN X0.here hx rfl (hb hby at_75) rfl ?_
              show Steps p.tables e below (s₁.setTop (mkF m 76 #[.val (.int p1), .val (.int p2), .val (.int (p1 &&& (7 : Int32))), .unset] [(.int (p1 &&& (7 : Int32)))])) _
              refine XS.iconst X0.here hx rfl (hb hby at_76) ?_
              show Steps p.tables e below (s₁.setTop (mkF m 77 #[.val (.int p1), .val (.int p2), .val (.int (p1 &&& (7 : Int32))), .unset] [(.int (5 : Int32)), (.int (p1 &&& (7 : Int32)))])) _
              exact kt
            by_cases hc77_122 : (p1 &&& (7 : Int32)) = (5 : Int32)
            · skip
              obtain ⟨_, _, ⟨T123, L123, k123, n123⟩, -, X123, ⟨Lc123, hQ123, l123, y123, z123⟩, st123⟩ := Jvm.LawKit.callS X0 hx (y := (⟨"com/example/inkblock/inkblock/reader/ChannelLayout", "of", "(I)Lcom/example/inkblock/inkblock/reader/ChannelLayout;"⟩ : MethodName)) hown (mvT hZ (hw _ (List.mem_of_getElem? (i := 1) rfl))) (mvT hZ (hw _ (List.mem_of_getElem? (i := 2) rfl))) (mvT hZ (hw _ (List.mem_of_getElem? (i := 3) rfl))) (mvT hZ (hw _ (List.mem_of_getElem? (i := 4) rfl))) (by decide) (backOf (W := 0) (rm1 l Z a0 hw [] ((-2012129793 : Int32) + p2) pa pk oj or_ h0 n0 Z0 H0 H1 H2 H3 H4 H5) hZ (hw _ (List.mem_of_getElem? (i := 4) rfl)) (hw _ (List.mem_of_getElem? (i := 3) rfl)) (by decide) (by decide)) (g := (mkF m 91 #[.val (.int p1), .val (.int p2), .val (.int (p1 &&& (7 : Int32))), .val (.int ((-2012129793 : Int32) + p2))] [(.int ((-2012129793 : Int32) + p2))])) rfl (by rw [hml]; rfl) (argsL := [(.int ((-2012129793 : Int32) + p2))]) (rest := []) (lenOf pd_0 rfl) rfl (by show 2 * 0 + _ ≤ _; exact Nat.le_of_eq rfl) (hb hby at_91) (fun _ _ => ⟨rfl, e0, (by decide : 0 + 0 ≤ _), (by decide : 0 + 0 ≤ _)⟩)
              dsimp only [Pt.U, Pt.locs, Pt.cells, Pt.slots] at X123 l123 y123 z123 st123 hQ123
              subst l123 y123 z123
              obtain ⟨rfl, Nq123, Heq123⟩ := hQ123
              have N123 := Fr.app N0 Nq123
              obtain ⟨_, _, ⟨T124, L124, k124, n124⟩, -, X124, ⟨Lc124, hQ124, l124, y124, z124⟩, st124⟩ := Jvm.LawKit.callS X123 hx (y := (⟨"com/example/inkblock/inkblock/reader/ChannelLayoutOfPinLaw", "expected", "(I)Lcom/example/inkblock/inkblock/reader/ChannelLayout;"⟩ : MethodName)) hown (mvT hZ (hw _ (List.mem_of_getElem? (i := 10) rfl))) (mvT hZ (hw _ (List.mem_of_getElem? (i := 11) rfl))) (mvT hZ (hw _ (List.mem_of_getElem? (i := 12) rfl))) (mvT hZ (hw _ (List.mem_of_getElem? (i := 13) rfl))) (by decide) (backOf (W := 1) (rm2 l Z a0 hw [] ((-2012129793 : Int32) + p2) oj or_ h0 n0 Z0 H1 H2) hZ (hw _ (List.mem_of_getElem? (i := 13) rfl)) (hw _ (List.mem_of_getElem? (i := 12) rfl)) (by decide) (by decide)) (g := (mkF m 95 #[.val (.int p1), .val (.int p2), .val (.int (p1 &&& (7 : Int32))), .val (.int ((-2012129793 : Int32) + p2))] [(.int ((-2012129793 : Int32) + p2)), (own_of ((-2012129793 : Int32) + p2) oj or_)])) rfl (by rw [hml]; rfl) (argsL := [(.int ((-2012129793 : Int32) + p2))]) (rest := [(own_of ((-2012129793 : Int32) + p2) oj or_)]) (lenOf pd_0 rfl) rfl (by show 2 * 0 + _ ≤ _; unfold own_of; split; (exact Nat.le_refl _); split <;> exact Nat.le_refl _) (hb hby at_95) (fun _ _ => ⟨rfl, Heq123, (by decide : 0 + 0 ≤ _), (by decide : 0 + 0 ≤ _)⟩)
              dsimp only [Pt.U, Pt.locs, Pt.cells, Pt.slots] at X124 l124 y124 z124 st124 hQ124
              subst l124 y124 z124
              obtain ⟨rfl, Nq124, Heq124⟩ := hQ124
              have N124 := Fr.app N123 Nq124
              obtain ⟨fs, hr, hrun, hended, hW, hsame⟩ := X124.leave (v := some (.int (1 : Int32))) (fun h => by rw [Bd.returns] at h; cases h)
              refine ⟨_, _, pre121 _ ?_, hrun, hended, _, _, rfl, ?_, ⟨_, rfl⟩, hW, hsame.mono (by decide) (by decide)⟩
              · skip
                show Steps p.tables e below (s₁.setTop (mkF m 77 #[.val (.int p1), .val (.int p2), .val (.int (p1 &&& (7 : Int32))), .unset] [(.int (5 : Int32)), (.int (p1 &&& (7 : Int32)))])) _
                refine XS.icmpNo X0.here hx rfl (hb hby at_77) rfl (teq (hc77_122 : (p1 &&& (7 : Int32)) = (5 : Int32))).2 ?_
                show Steps p.tables e below (s₁.setTop (mkF m 80 #[.val (.int p1), .val (.int p2), .val (.int (p1 &&& (7 : Int32))), .unset] [])) _
                refine X0.ldcInt hx hown (mvT hZ (hw _ (List.mem_of_getElem? (i := 16) rfl))) (g := (mkF m 80 #[.val (.int p1), .val (.int p2), .val (.int (p1 &&& (7 : Int32))), .unset] [])) rfl (hb hby at_80) _ ?_
                show Steps p.tables e below (s₁.setTop (mkF m 82 #[.val (.int p1), .val (.int p2), .val (.int (p1 &&& (7 : Int32))), .unset] [(.int (-2012129793 : Int32))])) _
                refine XS.iloadN X0.here hx rfl (hb hby at_82) rfl ?_
                show Steps p.tables e below (s₁.setTop (mkF m 83 #[.val (.int p1), .val (.int p2), .val (.int (p1 &&& (7 : Int32))), .unset] [(.int p2), (.int (-2012129793 : Int32))])) _
                refine XS.iadd X0.here hx rfl (hb hby at_83) rfl ?_
                show Steps p.tables e below (s₁.setTop (mkF m 84 #[.val (.int p1), .val (.int p2), .val (.int (p1 &&& (7 : Int32))), .unset] [(.int ((-2012129793 : Int32) + p2))])) _
                refine XS.istoreN X0.here hx rfl (hb hby at_84) rfl (l' := #[.val (.int p1), .val (.int p2), .val (.int (p1 &&& (7 : Int32))), .val (.int ((-2012129793 : Int32) + p2))]) rfl ?_
                show Steps p.tables e below (s₁.setTop (mkF m 85 #[.val (.int p1), .val (.int p2), .val (.int (p1 &&& (7 : Int32))), .val (.int ((-2012129793 : Int32) + p2))] [])) _
                refine XS.goto X0.here hx rfl (pc0 := 85) (pc' := 90) rfl (hb hby at_85) (by decide) (by decide) ?_
                show Steps p.tables e below (s₁.setTop (mkF m 90 #[.val (.int p1), .val (.int p2), .val (.int (p1 &&& (7 : Int32))), .val (.int ((-2012129793 : Int32) + p2))] [])) _
                refine XS.iloadN X0.here hx rfl (hb hby at_90) rfl ?_
                show Steps p.tables e below (s₁.setTop (mkF m 91 #[.val (.int p1), .val (.int p2), .val (.int (p1 &&& (7 : Int32))), .val (.int ((-2012129793 : Int32) + p2))] [(.int ((-2012129793 : Int32) + p2))])) _
                refine st123 _ ?_
                show Steps p.tables e below (T123.setTop (mkF m 94 #[.val (.int p1), .val (.int p2), .val (.int (p1 &&& (7 : Int32))), .val (.int ((-2012129793 : Int32) + p2))] [(own_of ((-2012129793 : Int32) + p2) oj or_)])) _
                refine XS.iloadN X123.here hx rfl (hb hby at_94) rfl ?_
                show Steps p.tables e below (T123.setTop (mkF m 95 #[.val (.int p1), .val (.int p2), .val (.int (p1 &&& (7 : Int32))), .val (.int ((-2012129793 : Int32) + p2))] [(.int ((-2012129793 : Int32) + p2)), (own_of ((-2012129793 : Int32) + p2) oj or_)])) _
                refine st124 _ ?_
                show Steps p.tables e below (T124.setTop (mkF m 98 #[.val (.int p1), .val (.int p2), .val (.int (p1 &&& (7 : Int32))), .val (.int ((-2012129793 : Int32) + p2))] [(own_exp ((-2012129793 : Int32) + p2) oj or_), (own_of ((-2012129793 : Int32) + p2) oj or_)])) _
                refine Jvm.RoadKit.acmp (g := (mkF m 98 #[.val (.int p1), .val (.int p2), .val (.int (p1 &&& (7 : Int32))), .val (.int ((-2012129793 : Int32) + p2))] [(own_exp ((-2012129793 : Int32) + p2) oj or_), (own_of ((-2012129793 : Int32) + p2) oj or_)])) X124 hx rfl (own_ref1 _ _ _) (own_ref2 _ _ _) (pc0 := 98) (pc' := 101) (same := true) rfl (hb hby at_98) rfl (decide_eq_true (own_eq _ _ _ : ((own_of ((-2012129793 : Int32) + p2) oj or_) : Value) = (own_exp ((-2012129793 : Int32) + p2) oj or_))) (by decide) (by decide) ?_
                show Steps p.tables e below (T124.setTop (mkF m 101 #[.val (.int p1), .val (.int p2), .val (.int (p1 &&& (7 : Int32))), .val (.int ((-2012129793 : Int32) + p2))] [])) _
                refine XS.iconst X124.here hx rfl (hb hby at_101) ?_
                show Steps p.tables e below (T124.setTop (mkF m 102 #[.val (.int p1), .val (.int p2), .val (.int (p1 &&& (7 : Int32))), .val (.int ((-2012129793 : Int32) + p2))] [(.int (1 : Int32))])) _
                refine XS.goto X124.here hx rfl (pc0 := 102) (pc' := 106) rfl (hb hby at_102) (by decide) (by decide) ?_
                show Steps p.tables e below (T124.setTop (mkF m 106 #[.val (.int p1), .val (.int p2), .val (.int (p1 &&& (7 : Int32))), .val (.int ((-2012129793 : Int32) + p2))] [(.int (1 : Int32))])) _
                exact retN X124 hx (t := .boolean) Bd.returns (by simp) (hb hby at_106) hr
              · show Q0 Z p1 p2 pa pk oj or_ h0 n0 _ T124.heap _
                rw [Heq124]
                exact ⟨rfl, N124⟩
            · skip
              obtain ⟨_, _, ⟨T125, L125, k125, n125⟩, -, X125, ⟨Lc125, hQ125, l125, y125, z125⟩, st125⟩ := Jvm.LawKit.callS X0 hx (y := (⟨"com/example/inkblock/inkblock/reader/ChannelLayout", "of", "(I)Lcom/example/inkblock/inkblock/reader/ChannelLayout;"⟩ : MethodName)) hown (mvT hZ (hw _ (List.mem_of_getElem? (i := 1) rfl))) (mvT hZ (hw _ (List.mem_of_getElem? (i := 2) rfl))) (mvT hZ (hw _ (List.mem_of_getElem? (i := 3) rfl))) (mvT hZ (hw _ (List.mem_of_getElem? (i := 4) rfl))) (by decide) (backOf (W := 0) (rm1 l Z a0 hw [] p2 pa pk oj or_ h0 n0 Z0 H0 H1 H2 H3 H4 H5) hZ (hw _ (List.mem_of_getElem? (i := 4) rfl)) (hw _ (List.mem_of_getElem? (i := 3) rfl)) (by decide) (by decide)) (g := (mkF m 91 #[.val (.int p1), .val (.int p2), .val (.int (p1 &&& (7 : Int32))), .val (.int p2)] [(.int p2)])) rfl (by rw [hml]; rfl) (argsL := [(.int p2)]) (rest := []) (lenOf pd_0 rfl) rfl (by show 2 * 0 + _ ≤ _; exact Nat.le_of_eq rfl) (hb hby at_91) (fun _ _ => ⟨rfl, e0, (by decide : 0 + 0 ≤ _), (by decide : 0 + 0 ≤ _)⟩)
              dsimp only [Pt.U, Pt.locs, Pt.cells, Pt.slots] at X125 l125 y125 z125 st125 hQ125
              subst l125 y125 z125
              obtain ⟨rfl, Nq125, Heq125⟩ := hQ125
              have N125 := Fr.app N0 Nq125
              obtain ⟨_, _, ⟨T126, L126, k126, n126⟩, -, X126, ⟨Lc126, hQ126, l126, y126, z126⟩, st126⟩ := Jvm.LawKit.callS X125 hx (y := (⟨"com/example/inkblock/inkblock/reader/ChannelLayoutOfPinLaw", "expected", "(I)Lcom/example/inkblock/inkblock/reader/ChannelLayout;"⟩ : MethodName)) hown (mvT hZ (hw _ (List.mem_of_getElem? (i := 10) rfl))) (mvT hZ (hw _ (List.mem_of_getElem? (i := 11) rfl))) (mvT hZ (hw _ (List.mem_of_getElem? (i := 12) rfl))) (mvT hZ (hw _ (List.mem_of_getElem? (i := 13) rfl))) (by decide) (backOf (W := 1) (rm2 l Z a0 hw [] p2 oj or_ h0 n0 Z0 H1 H2) hZ (hw _ (List.mem_of_getElem? (i := 13) rfl)) (hw _ (List.mem_of_getElem? (i := 12) rfl)) (by decide) (by decide)) (g := (mkF m 95 #[.val (.int p1), .val (.int p2), .val (.int (p1 &&& (7 : Int32))), .val (.int p2)] [(.int p2), (own_of p2 oj or_)])) rfl (by rw [hml]; rfl) (argsL := [(.int p2)]) (rest := [(own_of p2 oj or_)]) (lenOf pd_0 rfl) rfl (by show 2 * 0 + _ ≤ _; unfold own_of; split; (exact Nat.le_refl _); split <;> exact Nat.le_refl _) (hb hby at_95) (fun _ _ => ⟨rfl, Heq125, (by decide : 0 + 0 ≤ _), (by decide : 0 + 0 ≤ _)⟩)
              dsimp only [Pt.U, Pt.locs, Pt.cells, Pt.slots] at X126 l126 y126 z126 st126 hQ126
              subst l126 y126 z126
              obtain ⟨rfl, Nq126, Heq126⟩ := hQ126
              have N126 := Fr.app N125 Nq126
              obtain ⟨fs, hr, hrun, hended, hW, hsame⟩ := X126.leave (v := some (.int (1 : Int32))) (fun h => by rw [Bd.returns] at h; cases h)
              refine ⟨_, _, pre121 _ ?_, hrun, hended, _, _, rfl, ?_, ⟨_, rfl⟩, hW, hsame.mono (by decide) (by decide)⟩
              · skip
                show Steps p.tables e below (s₁.setTop (mkF m 77 #[.val (.int p1), .val (.int p2), .val (.int (p1 &&& (7 : Int32))), .unset] [(.int (5 : Int32)), (.int (p1 &&& (7 : Int32)))])) _
                refine XS.icmpYes X0.here hx rfl (pc0 := 77) (pc' := 88) rfl (hb hby at_77) rfl (feq (hc77_122 : ¬ ((p1 &&& (7 : Int32)) = (5 : Int32)))).2 (by decide) (by decide) ?_
                show Steps p.tables e below (s₁.setTop (mkF m 88 #[.val (.int p1), .val (.int p2), .val (.int (p1 &&& (7 : Int32))), .unset] [])) _
                refine XS.iloadN X0.here hx rfl (hb hby at_88) rfl ?_
                show Steps p.tables e below (s₁.setTop (mkF m 89 #[.val (.int p1), .val (.int p2), .val (.int (p1 &&& (7 : Int32))), .unset] [(.int p2)])) _
                refine XS.istoreN X0.here hx rfl (hb hby at_89) rfl (l' := #[.val (.int p1), .val (.int p2), .val (.int (p1 &&& (7 : Int32))), .val (.int p2)]) rfl ?_
                show Steps p.tables e below (s₁.setTop (mkF m 90 #[.val (.int p1), .val (.int p2), .val (.int (p1 &&& (7 : Int32))), .val (.int p2)] [])) _
                refine XS.iloadN X0.here hx rfl (hb hby at_90) rfl ?_
                show Steps p.tables e below (s₁.setTop (mkF m 91 #[.val (.int p1), .val (.int p2), .val (.int (p1 &&& (7 : Int32))), .val (.int p2)] [(.int p2)])) _
                refine st125 _ ?_
                show Steps p.tables e below (T125.setTop (mkF m 94 #[.val (.int p1), .val (.int p2), .val (.int (p1 &&& (7 : Int32))), .val (.int p2)] [(own_of p2 oj or_)])) _
                refine XS.iloadN X125.here hx rfl (hb hby at_94) rfl ?_
                show Steps p.tables e below (T125.setTop (mkF m 95 #[.val (.int p1), .val (.int p2), .val (.int (p1 &&& (7 : Int32))), .val (.int p2)] [(.int p2), (own_of p2 oj or_)])) _
                refine st126 _ ?_
                show Steps p.tables e below (T126.setTop (mkF m 98 #[.val (.int p1), .val (.int p2), .val (.int (p1 &&& (7 : Int32))), .val (.int p2)] [(own_exp p2 oj or_), (own_of p2 oj or_)])) _
                refine Jvm.RoadKit.acmp (g := (mkF m 98 #[.val (.int p1), .val (.int p2), .val (.int (p1 &&& (7 : Int32))), .val (.int p2)] [(own_exp p2 oj or_), (own_of p2 oj or_)])) X126 hx rfl (own_ref1 _ _ _) (own_ref2 _ _ _) (pc0 := 98) (pc' := 101) (same := true) rfl (hb hby at_98) rfl (decide_eq_true (own_eq _ _ _ : ((own_of p2 oj or_) : Value) = (own_exp p2 oj or_))) (by decide) (by decide) ?_
                show Steps p.tables e below (T126.setTop (mkF m 101 #[.val (.int p1), .val (.int p2), .val (.int (p1 &&& (7 : Int32))), .val (.int p2)] [])) _
                refine XS.iconst X126.here hx rfl (hb hby at_101) ?_
                show Steps p.tables e below (T126.setTop (mkF m 102 #[.val (.int p1), .val (.int p2), .val (.int (p1 &&& (7 : Int32))), .val (.int p2)] [(.int (1 : Int32))])) _
                refine XS.goto X126.here hx rfl (pc0 := 102) (pc' := 106) rfl (hb hby at_102) (by decide) (by decide) ?_
                show Steps p.tables e below (T126.setTop (mkF m 106 #[.val (.int p1), .val (.int p2), .val (.int (p1 &&& (7 : Int32))), .val (.int p2)] [(.int (1 : Int32))])) _
                exact retN X126 hx (t := .boolean) Bd.returns (by simp) (hb hby at_106) hr
              · show Q0 Z p1 p2 pa pk oj or_ h0 n0 _ T126.heap _
                rw [Heq126]
                exact ⟨rfl, N126⟩
set_option maxRecDepth 65536 in
set_option maxHeartbeats 40000000 in
theorem comes_1 {Post : Tables → Env → Array Value → State → Outcome → State → Prop} (hpost : ∀ tb e args s v u, (limb_1_1.after args s (.returned v) u = true ∧ limb_1_2.after args s (.returned v) u = true ∧ True) → FrameEnd s (.returned v) u (Jvm.fieldLocs frame_1_writes args s ++ Jvm.arrayLocs frame_1_arrays args s ++ Jvm.staticLocs frame_1_statics s) 0 0 → Post tb e args s (.returned v) u) :
    ArmFor flags0 classFile x code maxLocals ret World_1 tables_1 room_1 Calls_1 rest_1 Pre_1 Post := by
  intro l hfl _ _ p e ha hc hk s m args below hf hA hF happ hP
  obtain ⟨hcalls, hrest, hpre⟩ := hP
  obtain ⟨-, -, -, hnamed, -, -, -, hat⟩ := (Spec.applies_iff hf).mp happ
  obtain ⟨hg, hn⟩ := and_e (Cond.before_iff.mp (show (Jvm.Cond.and given_1 narrow_1).before args s = true from hpre))
  obtain ⟨gc, ga0⟩ := and_e hg
  obtain ⟨gv0, ga1⟩ := and_e ga0
  obtain ⟨w0, w1, rfl⟩ : ∃ w0 w1 : Value, args = #[w0, w1] := by
    have hs : args.size = 2 := by simpa [Cond.value, given_1] using gc
    obtain ⟨L⟩ := args
    match L, hs with
    | [w0, w1], _ => exact ⟨w0, w1, rfl⟩
  have hw := fun d (hd : d ∈ tables_1) => atoms_spec (ws := Jvm.Cond.code x code maxLocals ret :: tables_1) hat d (List.mem_cons_of_mem _ hd)
  have hfit : Fit s := fun {y c} hc i hi => by
    obtain ⟨ha, rfl⟩ := Array.getElem?_eq_some_iff.mp hc
    have q := List.all_eq_true.mp ((Array.all_eq_true_iff_forall_mem.mp hF) _ (Array.getElem_mem ha)) i (List.mem_range.mpr hi)
    simpa [Array.getElem?_eq_getElem hi] using q
  obtain ⟨i0, ei0⟩ := is_v gv0
  obtain rfl : w0 = (.int i0) := Option.some.inj ei0
  obtain ⟨i1, ei1⟩ := is_v ga1
  obtain rfl : w1 = (.int i1) := Option.some.inj ei1
  obtain ⟨n1, m1⟩ := and_e hn
  obtain ⟨n2, m2⟩ := and_e m1
  obtain ⟨n3, m3⟩ := and_e m2
  obtain ⟨n4, m4⟩ := and_e m3
  obtain ⟨n5, m5⟩ := and_e m4
  obtain ⟨n6, m6⟩ := and_e m5
  obtain ⟨n7, m7⟩ := and_e m6
  obtain ⟨pa, ep⟩ := arr_v n1
  obtain ⟨cl, A⟩ := Arr.start ep n1
  obtain ⟨h31, hz⟩ := own_len ep A n2
  obtain ⟨oj, ej, Sj, Ej⟩ := own_sta (hw _ (List.mem_of_getElem? (i := 3) rfl)) (hw _ (List.mem_of_getElem? (i := 7) rfl)) n3
  obtain ⟨or_, er, Sr, Er⟩ := own_sta (hw _ (List.mem_of_getElem? (i := 3) rfl)) (hw _ (List.mem_of_getElem? (i := 15) rfl)) n6
  have x0 := own_elem ep A n4 ej rfl
  have x1 := own_elem ep A n7 er rfl
  have Fj := own_fld ej n5
  have Fr_ := own_fld er m7
  have Sp := Sta.start ep (Or.inr ⟨(hw _ (List.mem_of_getElem? (i := 3) rfl)), (hw _ (List.mem_of_getElem? (i := 6) rfl))⟩)
  have Vp : Arv s s.heap pa cl.cls (.object "com/example/inkblock/inkblock/reader/ChannelLayout") (2 : Int32) [(.ref oj), (.ref or_)] .null := Arv.start hfit A h31 hz (by decide) rfl ⟨x0, x1, trivial⟩
  obtain ⟨n, o, h1, h2, h3, _, L, rfl, ⟨rfl, N⟩, hq⟩ := rm0 l s _ hw tables_1 i0 i1 pa cl.cls oj or_ s.heap s.heap.size (Nat.le_refl _) Sp Sj Sr Vp Fj Fr_ p e ha hc hk s m _ below hf ((Spec.applies_iff_loose hf).mp happ).1 ⟨rfl, State.Warmed39.refl s, rfl⟩ trivial
  refine ⟨n, _, h1, h2, h3, hpost _ _ _ _ _ _ ⟨Cond.after_iff.mpr rfl, Cond.after_iff.mpr (eq_i res_at (Term.int_eval (1)) rfl), trivial⟩ ⟨hq.1, hq.2.1, (hq.2.2.sift fun y hy => Or.inr (N y hy)).mono (by decide) (by decide)⟩⟩
theorem main_1_1 : Claimed_1_1 := comes_1 fun _ _ _ _ _ _ h hF => ⟨h.1, hF⟩
theorem main_1_2 : Claimed_1_2 := comes_1 fun _ _ _ _ _ _ h hF => ⟨h.2.1, hF⟩
end Jvm.Pilot.@@N@@
namespace Jvm.Pilot.@@N@@
open Jvm Jvm.ClassFile Sem Op Lib Jvm.Free Jvm.Stand Jvm.Pilot.@@N@@.Jvm.D
/-! MADE BY PROGRAM (witnessworld.py) out of the Statement's table words and the real class files: 13 classes; the members and pool entries that the words name. The judged class is class 1, her method 2. -/
namespace start1
open Jvm.ClassFile
def u (s : String) : CpInfo := .utf8 (stringToUtf16 s)
/-- a pool by its gaps: so many unusable entries, then the entry; so many at the end -/
def gap : Nat → List CpInfo → List CpInfo
  | 0, r => r
  | n + 1, r => .unusable :: gap n r
def poolList (es : List (Nat × CpInfo)) (last : Nat) : List CpInfo := es.foldr (fun e r => gap e.1 (e.2 :: r)) (gap last [])
def pool (es : List (Nat × CpInfo)) (last : Nat) : Array CpInfo := ⟨poolList es last⟩
def fileOf (pool : Array CpInfo) (this : Nat) (attrs : Array Attribute := #[]) (ms : Array MethodInfo := #[]) (fl : Nat := 33) (sup : Nat := 0) (ifs : Array Nat := #[]) (fds : Array FieldInfo := #[]) : ClassFile where
  minorVersion := 0
  majorVersion := 65
  constantPool := pool
  accessFlags := fl
  thisClass := this
  superClass := sup
  interfaces := ifs
  fields := fds
  methods := ms
  attributes := attrs
def plain (name : String) (sup : Option ClassId) : Class where
  name := name
  kind := .ordinary
  loader := none
  accessFlags := 33
  super := sup
  interfaces := #[]
  cf := none
  fields := #[]
  methods := #[]
  instanceTypes := #[]
  staticTypes := #[]
  resolved := #[]
  callSites := []
  init := .initialized
  statics := none
  mirror := none

def pool0 : Array CpInfo := pool [(5, u "<init>"), (0, u "()V"), (1, .class_ 10), (1, u "java/lang/Object")] 113

def k0m0 : Method := { name := "<init>", desc := "()V", sig := { parameters := [], returnType := none }, accessFlags := 1, code := none }
/-- java/lang/Object -/
def k0 : Class := { plain "java/lang/Object" none with
  accessFlags := 33
  interfaces := #[]
  cf := some (fileOf pool0 8 #[] #[{ accessFlags := 1, nameIndex := 5, descriptorIndex := 6, attributes := #[] }] 33 0 #[] #[])
  fields := #[]
  methods := #[k0m0]
  instanceTypes := #[]
  staticTypes := #[]
  resolved := Array.replicate 124 none
  statics := none }

def pool1 : Array CpInfo := pool [(2, .class_ 4), (1, u "java/lang/Object"), (0, u "<init>"), (0, u "()V"), (0, .integer 1903654775), (0, .fieldref 9 10), (0, .class_ 11), (0, .nameAndType 12 13), (0, u "com/example/inkblock/inkblock/reader/ChannelLayout"), (0, u "JSON"), (0, u "Lcom/example/inkblock/inkblock/reader/ChannelLayout;"), (0, .integer 2282837503), (0, .fieldref 9 16), (0, .nameAndType 17 13), (0, u "RAW"), (2, .methodref 9 21), (0, .nameAndType 22 23), (0, u "of"), (0, u "(I)Lcom/example/inkblock/inkblock/reader/ChannelLayout;"), (0, .methodref 25 26), (0, .class_ 27), (0, .nameAndType 28 23), (0, u "com/example/inkblock/inkblock/reader/ChannelLayoutOfPinLaw"), (0, u "expected"), (3, u "law"), (0, u "(II)Z")] 2

def k1m0 : Method := { name := "<init>", desc := "()V", sig := { parameters := [], returnType := none }, accessFlags := 2, code := none }
def k1c1 : Code := { maxStack := 2, maxLocals := 1, code := method_2_code, exceptionTable := #[], attributes := #[] }
def k1m1 : Method := { name := "expected", desc := "(I)Lcom/example/inkblock/inkblock/reader/ChannelLayout;", sig := { parameters := [.int], returnType := some (.object "com/example/inkblock/inkblock/reader/ChannelLayout") }, accessFlags := 10, code := some k1c1 }
def k1c2 : Code := { maxStack := 4, maxLocals := 4, code := code, exceptionTable := #[], attributes := #[] }
def k1m2 : Method := { name := "law", desc := "(II)Z", sig := { parameters := [.int, .int], returnType := some .boolean }, accessFlags := 9, code := some k1c2 }
/-- com/example/inkblock/inkblock/reader/ChannelLayoutOfPinLaw -/
def k1 : Class := { plain "com/example/inkblock/inkblock/reader/ChannelLayoutOfPinLaw" (some 0) with
  accessFlags := 49
  interfaces := #[]
  cf := some (fileOf pool1 25 #[] #[{ accessFlags := 2, nameIndex := 5, descriptorIndex := 6, attributes := #[] }, { accessFlags := 10, nameIndex := 28, descriptorIndex := 23, attributes := #[] }, { accessFlags := 9, nameIndex := 32, descriptorIndex := 33, attributes := #[] }] 49 2 #[] #[])
  fields := #[]
  methods := #[k1m0, k1m1, k1m2]
  instanceTypes := #[]
  staticTypes := #[]
  resolved := Array.replicate 36 none
  statics := none }

def pool2 : Array CpInfo := pool [(1, .class_ 2), (0, u "java/lang/constant/Constable"), (0, .class_ 4), (0, u "java/lang/Object")] 6

/-- java/lang/constant/Constable -/
def k2 : Class := { plain "java/lang/constant/Constable" (some 0) with
  accessFlags := 1537
  interfaces := #[]
  cf := some (fileOf pool2 1 #[] #[] 1537 3 #[] #[])
  fields := #[]
  methods := #[]
  instanceTypes := #[]
  staticTypes := #[]
  resolved := Array.replicate 11 none
  statics := none }

def pool3 : Array CpInfo := pool [(1, .class_ 2), (0, u "java/lang/Comparable"), (0, .class_ 4), (0, u "java/lang/Object")] 7

/-- java/lang/Comparable -/
def k3 : Class := { plain "java/lang/Comparable" (some 0) with
  accessFlags := 1537
  interfaces := #[]
  cf := some (fileOf pool3 1 #[] #[] 1537 3 #[] #[])
  fields := #[]
  methods := #[]
  instanceTypes := #[]
  staticTypes := #[]
  resolved := Array.replicate 12 none
  statics := none }

def pool4 : Array CpInfo := pool [(1, .class_ 2), (0, u "java/io/Serializable"), (0, .class_ 4), (0, u "java/lang/Object")] 2

/-- java/io/Serializable -/
def k4 : Class := { plain "java/io/Serializable" (some 0) with
  accessFlags := 1537
  interfaces := #[]
  cf := some (fileOf pool4 1 #[] #[] 1537 3 #[] #[])
  fields := #[]
  methods := #[]
  instanceTypes := #[]
  staticTypes := #[]
  resolved := Array.replicate 7 none
  statics := none }

def pool5 : Array CpInfo := pool [(2, .class_ 4), (1, u "java/lang/Enum"), (0, u "name"), (0, u "Ljava/lang/String;"), (2, u "ordinal"), (0, u "I"), (1, .class_ 14), (1, u "java/lang/Object"), (4, u "hash"), (86, .class_ 108), (1, u "java/lang/Enum$EnumDesc"), (2, .class_ 112), (0, u "java/lang/constant/Constable"), (0, .class_ 114), (0, u "java/lang/Comparable"), (0, .class_ 116), (0, u "java/io/Serializable")] 87

/-- java/lang/Enum -/
def k5 : Class := { plain "java/lang/Enum" (some 0) with
  accessFlags := 1057
  interfaces := #[2, 3, 4]
  cf := some (fileOf pool5 2 #[.nestMembers #[106]] #[] 1057 12 #[111, 113, 115] #[{ accessFlags := 18, nameIndex := 5, descriptorIndex := 6, attributes := #[] }, { accessFlags := 18, nameIndex := 9, descriptorIndex := 10, attributes := #[] }, { accessFlags := 2, nameIndex := 19, descriptorIndex := 10, attributes := #[] }])
  fields := #[{ name := "name", type := (.object "java/lang/String"), accessFlags := 18, slot := 0, constantValue := 0 }, { name := "ordinal", type := .int, accessFlags := 18, slot := 1, constantValue := 0 }, { name := "hash", type := .int, accessFlags := 2, slot := 2, constantValue := 0 }]
  methods := #[]
  instanceTypes := #[(.object "java/lang/String"), .int, .int]
  staticTypes := #[]
  resolved := Array.replicate 204 none
  statics := none }

def pool6 : Array CpInfo := pool [(1, .class_ 2), (0, u "com/example/inkblock/inkblock/reader/ChannelLayout"), (2, u "JSON"), (0, u "Lcom/example/inkblock/inkblock/reader/ChannelLayout;"), (2, u "RAW"), (2, u "$VALUES"), (0, u "[Lcom/example/inkblock/inkblock/reader/ChannelLayout;"), (6, .class_ 22), (1, u "java/lang/Enum"), (6, .fieldref 1 30), (0, .nameAndType 31 32), (0, u "pairId"), (0, u "I"), (0, .fieldref 1 34), (0, .nameAndType 35 13), (0, u "PREFERRED"), (22, u "of"), (0, u "(I)Lcom/example/inkblock/inkblock/reader/ChannelLayout;")] 6

def k6c0 : Code := { maxStack := 2, maxLocals := 5, code := prog_58_method_4_code, exceptionTable := #[], attributes := #[] }
def k6m0 : Method := { name := "of", desc := "(I)Lcom/example/inkblock/inkblock/reader/ChannelLayout;", sig := { parameters := [.int], returnType := some (.object "com/example/inkblock/inkblock/reader/ChannelLayout") }, accessFlags := 9, code := some k6c0 }
/-- com/example/inkblock/inkblock/reader/ChannelLayout -/
def k6 : Class := { plain "com/example/inkblock/inkblock/reader/ChannelLayout" (some 5) with
  accessFlags := 16433
  interfaces := #[]
  cf := some (fileOf pool6 1 #[] #[{ accessFlags := 9, nameIndex := 58, descriptorIndex := 59, attributes := #[] }] 16433 20 #[] #[{ accessFlags := 16409, nameIndex := 5, descriptorIndex := 6, attributes := #[] }, { accessFlags := 16409, nameIndex := 9, descriptorIndex := 6, attributes := #[] }, { accessFlags := 26, nameIndex := 35, descriptorIndex := 13, attributes := #[] }, { accessFlags := 18, nameIndex := 31, descriptorIndex := 32, attributes := #[] }, { accessFlags := 4122, nameIndex := 12, descriptorIndex := 13, attributes := #[] }])
  fields := #[{ name := "JSON", type := (.object "com/example/inkblock/inkblock/reader/ChannelLayout"), accessFlags := 16409, slot := 0, constantValue := 0 }, { name := "RAW", type := (.object "com/example/inkblock/inkblock/reader/ChannelLayout"), accessFlags := 16409, slot := 1, constantValue := 0 }, { name := "PREFERRED", type := (.array (.object "com/example/inkblock/inkblock/reader/ChannelLayout")), accessFlags := 26, slot := 2, constantValue := 0 }, { name := "pairId", type := .int, accessFlags := 18, slot := 3, constantValue := 0 }, { name := "$VALUES", type := (.array (.object "com/example/inkblock/inkblock/reader/ChannelLayout")), accessFlags := 4122, slot := 3, constantValue := 0 }]
  methods := #[k6m0]
  instanceTypes := #[(.object "java/lang/String"), .int, .int, .int]
  staticTypes := #[(.object "com/example/inkblock/inkblock/reader/ChannelLayout"), (.object "com/example/inkblock/inkblock/reader/ChannelLayout"), (.array (.object "com/example/inkblock/inkblock/reader/ChannelLayout")), (.array (.object "com/example/inkblock/inkblock/reader/ChannelLayout"))]
  resolved := Array.replicate 66 none
  statics := some 0 }

def pool7 : Array CpInfo := pool [(1, u "java/lang/Cloneable"), (0, .class_ 1), (0, u "java/lang/Object"), (0, .class_ 3)] 3

/-- java/lang/Cloneable -/
def k7 : Class := { plain "java/lang/Cloneable" (some 0) with
  accessFlags := 1537
  interfaces := #[]
  cf := some (fileOf pool7 2 #[] #[] 1537 4 #[] #[])
  fields := #[]
  methods := #[]
  instanceTypes := #[]
  staticTypes := #[]
  resolved := Array.replicate 8 none
  statics := none }

/-- the primitive byte -/
def k8 : Class := { plain "byte" none with kind := .primitive 'B', accessFlags := 0x411 }
/-- [B -/
def k9 : Class := { plain "[B" (some 0) with kind := .array 8 .byte, interfaces := #[7, 4], accessFlags := 1041 }

/-- the primitive int -/
def k10 : Class := { plain "int" none with kind := .primitive 'I', accessFlags := 0x411 }
/-- [I -/
def k11 : Class := { plain "[I" (some 0) with kind := .array 10 .int, interfaces := #[7, 4], accessFlags := 1041 }

/-- [Lcom/example/inkblock/inkblock/reader/ChannelLayout; -/
def k12 : Class := { plain "[Lcom/example/inkblock/inkblock/reader/ChannelLayout;" (some 0) with kind := .array 6 (.object "com/example/inkblock/inkblock/reader/ChannelLayout"), interfaces := #[7, 4], accessFlags := 1041 }

def heap : Heap := #[{ cls := 6, slots := #[.ref 2, .ref 3, .ref 1, .null], vm := .statics 6 },
  { cls := 12, slots := #[.ref 2, .ref 3], vm := .none },
  { cls := 6, slots := #[.null, .int 0, .int 0, .int 1903654775], vm := .none },
  { cls := 6, slots := #[.null, .int 1, .int 0, .int (-2012129793)], vm := .none }]
def classes : Array Class := #[k0, k1, k2, k3, k4, k5, k6, k7, k8, k9, k10, k11, k12]
def interned : List (Array UInt16 × Addr) := []
def slotsUsed : Nat := 14
def theMethod : MethodId := ⟨1, 2⟩
def args0 : Array Value := #[.int 5, .int 6]
def aboutOver (below : List Frame) : State where
  vm := { classes := classes, interned := interned.toArray }
  heap := heap
  slotsUsed := slotsUsed
  threads := #[{ frames := .invoking theMethod args0 :: below }]
def below0 : List Frame := [.native { method := ⟨0, 0⟩, args := #[] }]
def about1 : State := aboutOver below0
def p0 : Program := .bare "" "" ""
def e0 : Env := launch0.env 0 0 0
theorem w_frames : about1.frames = Frame.invoking theMethod args0 :: below0 := rfl
set_option maxRecDepth 65536 in
theorem w_args : argsFit about1.vm theMethod args0 = true := by decide +kernel
set_option maxRecDepth 65536 in
theorem w_heap : heapFits about1 = true := by decide +kernel
set_option maxRecDepth 65536 in
theorem w_runnable : about1.curStatus? = some .runnable := by decide +kernel
set_option maxRecDepth 65536 in
theorem w_alone : about1.alone = true := by decide +kernel
set_option maxRecDepth 65536 in
theorem w_named : about1.methodNamed? x = some theMethod := by decide +kernel
set_option maxRecDepth 65536 in
theorem w_hears : about1.hears theMethod below0 = true := by decide +kernel
set_option maxRecDepth 65536 in
theorem w_ripe : about1.ripe theMethod args0 below0 = true := by decide +kernel
theorem w_running : about1.status = .running := rfl
set_option maxRecDepth 65536 in
theorem w_room : about1.hasRoom e0.platform room_1 = true :=
  launch0.hasRoom_least _ room_1 (by decide +kernel) (by decide +kernel) (by decide +kernel) (by decide +kernel) (by decide +kernel) (by decide +kernel)
theorem allAtoms_all (ts : List Jvm.Cond) (a : Array Jvm.Value) (st : Jvm.State) : (allAtoms ts).before a st = ts.all (fun c => c.before a st) := by
  induction ts with
  | nil => rfl
  | cons c t ih =>
    show (Jvm.Cond.and c (allAtoms t)).before a st = _
    rw [Jvm.Cond.before_and, ih, List.all_cons]
def words1 : List Jvm.Cond := Jvm.Cond.code x code maxLocals ret :: tables_1
/-- a 'code' word, met by the world's own term for the bytes: nothing is compared byte by byte -/
theorem code_word {y : MethodName} {bytes : ByteArray} {mx : Nat} {rt : Option FieldType} {a : Array Value} {s : State} {m : MethodId} {meth : Method} {c : Code} (h1 : s.methodNamed? y = some m) (h2 : s.vm.method? m = some meth) (h3 : meth.code = some c) (h4 : c.code = bytes)
    (h5 : (c.maxLocals == mx && c.exceptionTable.isEmpty && decide (c.maxStack ≤ mostOperands) && decide (meth.sig.returnType = rt) && !meth.locks && decide (parseMethodDescriptor y.desc = some meth.sig)) = true) : (Jvm.Cond.code y bytes mx rt).before a s = true := by
  simp only [Bool.and_eq_true, beq_iff_eq, Bool.not_eq_true', decide_eq_true_eq] at h5
  obtain ⟨⟨⟨⟨⟨g1, g2⟩, g3⟩, g4⟩, g5⟩, g6⟩ := h5
  simp [Cond.before, Cond.holds, Cond.value, h1, h2, h3, h4, g1, g2, g3, g4, g5, g6]
def isCode : Jvm.Cond → Bool
  | .code _ _ _ _ => true
  | _ => false
theorem all_split {L : List Jvm.Cond} {P : Jvm.Cond → Bool} (h1 : L.all (fun c => isCode c || P c) = true) (h2 : ∀ c ∈ L.filter isCode, P c = true) : L.all P = true := by
  refine List.all_eq_true.mpr fun c hc => ?_
  have h := List.all_eq_true.mp h1 c hc
  rcases Bool.eq_false_or_eq_true (isCode c) with hi | hi
  · exact h2 c (List.mem_filter.mpr ⟨hc, hi⟩)
  · simpa [hi] using h
set_option maxRecDepth 65536 in
theorem w_c0 : (Jvm.Cond.code x code maxLocals ret).before args0 about1 = true := code_word (m := ⟨1, 2⟩) (meth := k1m2) (c := k1c2) (by decide +kernel) rfl rfl rfl (by decide +kernel)
set_option maxRecDepth 65536 in
theorem w_c1 : (Jvm.Cond.code ({ cls := "com/example/inkblock/inkblock/reader/ChannelLayout", name := "of", desc := "(I)Lcom/example/inkblock/inkblock/reader/ChannelLayout;" } : Jvm.MethodName) prog_58_method_4_code (5 : Nat) (Option.some (Jvm.ClassFile.FieldType.object "com/example/inkblock/inkblock/reader/ChannelLayout"))).before args0 about1 = true := code_word (m := ⟨6, 0⟩) (meth := k6m0) (c := k6c0) (by decide +kernel) rfl rfl rfl (by decide +kernel)
set_option maxRecDepth 65536 in
theorem w_c2 : (Jvm.Cond.code ({ cls := "com/example/inkblock/inkblock/reader/ChannelLayoutOfPinLaw", name := "expected", desc := "(I)Lcom/example/inkblock/inkblock/reader/ChannelLayout;" } : Jvm.MethodName) method_2_code (1 : Nat) (Option.some (Jvm.ClassFile.FieldType.object "com/example/inkblock/inkblock/reader/ChannelLayout"))).before args0 about1 = true := code_word (m := ⟨1, 1⟩) (meth := k1m1) (c := k1c1) (by decide +kernel) rfl rfl rfl (by decide +kernel)
def codes1 : List Jvm.Cond := [Jvm.Cond.code x code maxLocals ret, Jvm.Cond.code ({ cls := "com/example/inkblock/inkblock/reader/ChannelLayout", name := "of", desc := "(I)Lcom/example/inkblock/inkblock/reader/ChannelLayout;" } : Jvm.MethodName) prog_58_method_4_code (5 : Nat) (Option.some (Jvm.ClassFile.FieldType.object "com/example/inkblock/inkblock/reader/ChannelLayout")), Jvm.Cond.code ({ cls := "com/example/inkblock/inkblock/reader/ChannelLayoutOfPinLaw", name := "expected", desc := "(I)Lcom/example/inkblock/inkblock/reader/ChannelLayout;" } : Jvm.MethodName) method_2_code (1 : Nat) (Option.some (Jvm.ClassFile.FieldType.object "com/example/inkblock/inkblock/reader/ChannelLayout"))]
set_option maxRecDepth 65536 in
theorem codes_eq : words1.filter isCode = codes1 := rfl
theorem w_codes : ∀ c ∈ words1.filter isCode, c.before args0 about1 = true := by
  rw [codes_eq]
  intro c hc
  simp only [codes1, List.mem_cons, List.not_mem_nil, or_false] at hc
  rcases hc with rfl | rfl | rfl
  · exact w_c0
  · exact w_c1
  · exact w_c2
set_option maxRecDepth 65536 in
theorem w_t1 : words1.all (fun c => isCode c || c.before args0 about1) = true := by decide +kernel
theorem w_tables : (allAtoms (Jvm.Cond.code x code maxLocals ret :: tables_1)).before args0 about1 = true := by
  rw [allAtoms_all]
  show words1.all (fun c => c.before args0 about1) = true
  refine all_split ?_ w_codes
  rw [w_t1]
set_option maxRecDepth 65536 in
theorem w_case : (Jvm.Cond.and given_1 narrow_1).before args0 about1 = true := by decide +kernel
theorem w_applies : (headSpec (Jvm.Cond.code x code maxLocals ret :: tables_1) room_1).applies x e0.platform about1 = true :=
  (Spec.applies_iff w_frames).mpr ⟨w_running, w_runnable, w_alone, w_named, w_hears, w_ripe, w_room, w_tables⟩
theorem atStart : AtStart classFile x code maxLocals ret World_1 tables_1 room_1 Calls_1 rest_1 Pre_1 launch0 p0 e0 about1 theMethod args0 below0 :=
  ⟨lists_1, trivial, launch0.admits_env _ _ _, launch0.least_env, fairChoices_fair.cas, fairChoices_fair.clock, w_frames, w_args, w_heap, w_applies, trivial, trivial, w_case⟩
end start1
theorem witness_1 : WitnessClaimed_1 := ⟨start1.p0, start1.e0, start1.about1, start1.theMethod, start1.args0, start1.below0, start1.atStart⟩
end Jvm.Pilot.@@N@@
