import JvmDerived
import JvmDerived.Pilot.@@N@@Statement
import JvmDerived.Pilot.@@N@@Code
set_option linter.unusedVariables false
set_option linter.unusedSimpArgs false
namespace Jvm.RoadKit
open Sem ClassFile Op Lib Jvm.Stand Jvm.Free Jvm.LawKit
section New
variable {p : Program} {l : Launch} {e : Env} {R : Room} {s : State} {m : MethodId} {args : Array Value} {below : List Frame} {meth : Method} {c : Code} {T : State} {locs : List Loc} {cells slots : Nat}
theorem retI (X : Stand p l e R s m args below meth c T locs cells slots) (hx : p.tables.exec = Jvm.exec) {pc : Nat} {Ls : Array Slot} {z : Int32} {rest : List Value} (hret : meth.sig.returnType = some .int) (hd : decode c.code pc = .ok (.ireturn, 1)) {fs : List Frame}
    (hl : ∀ (f : JFrame) (acts : List Action), f.method = m → f.locked = none → f.entered = [] → (doReturn e (T.setTop f) acts (some (.int z))).1 = T.setFrames fs) : Steps p.tables e below (T.setTop (mkF m pc Ls (.int z :: rest))) (T.setFrames fs) := by
  have hm' : T.vm.method? m = some meth := X.method'
  have hn : narrow .int (.int z) = .int z := rfl
  show Steps p.tables e below (T.setTop { method := m, pc := pc, locals := Ls, stack := _ :: rest, locked := none }) _
  jvm_step X.here [X.here.top, hx, hd, hm', hret, hn]
  first | (intro acts; rw [hl _ acts rfl rfl rfl]) | rw [hl _ _ rfl rfl rfl]
  exact Steps.refl _
end New
end Jvm.RoadKit
namespace Jvm.Pilot.@@N@@
open Jvm Jvm.ClassFile Sem Op Lib Jvm.Free Jvm.Stand Jvm.LawKit Jvm.RoadKit Bundle Jvm.Pilot.@@N@@.Jvm.D
theorem own_retJ {p : Program} {l : Launch} {e : Env} {R : Room} {s : State} {m : MethodId} {args : Array Value} {below : List Frame} {meth : Method} {c : Code} {T : State} {locs : List Loc} {cells slots : Nat} (X : Stand p l e R s m args below meth c T locs cells slots) (hx : p.tables.exec = Jvm.exec) {pc : Nat} {Ls : Array Slot} {z : Int64} {rest : List Value} (hret : meth.sig.returnType = some .long) (hd : decode c.code pc = .ok (.lreturn, 1)) {fs : List Frame}
    (hl : ∀ (f : JFrame) (acts : List Action), f.method = m → f.locked = none → f.entered = [] → (doReturn e (T.setTop f) acts (some (.long z))).1 = T.setFrames fs) : Steps p.tables e below (T.setTop (mkF m pc Ls (.long z :: rest))) (T.setFrames fs) := by
  have hm' : T.vm.method? m = some meth := X.method'
  have hn : narrow .long (.long z) = .long z := rfl
  show Steps p.tables e below (T.setTop { method := m, pc := pc, locals := Ls, stack := _ :: rest, locked := none }) _
  jvm_step X.here [X.here.top, hx, hd, hm', hret, hn]
  first | (intro acts; rw [hl _ acts rfl rfl rfl]) | rw [hl _ _ rfl rfl rfl]
  exact Steps.refl _
theorem own_retD {p : Program} {l : Launch} {e : Env} {R : Room} {s : State} {m : MethodId} {args : Array Value} {below : List Frame} {meth : Method} {c : Code} {T : State} {locs : List Loc} {cells slots : Nat} (X : Stand p l e R s m args below meth c T locs cells slots) (hx : p.tables.exec = Jvm.exec) {pc : Nat} {Ls : Array Slot} {z : UInt64} {rest : List Value} (hret : meth.sig.returnType = some .double) (hd : decode c.code pc = .ok (.dreturn, 1)) {fs : List Frame}
    (hl : ∀ (f : JFrame) (acts : List Action), f.method = m → f.locked = none → f.entered = [] → (doReturn e (T.setTop f) acts (some (.double z))).1 = T.setFrames fs) : Steps p.tables e below (T.setTop (mkF m pc Ls (.double z :: rest))) (T.setFrames fs) := by
  have hm' : T.vm.method? m = some meth := X.method'
  have hn : narrow .double (.double z) = .double z := rfl
  show Steps p.tables e below (T.setTop { method := m, pc := pc, locals := Ls, stack := _ :: rest, locked := none }) _
  jvm_step X.here [X.here.top, hx, hd, hm', hret, hn]
  first | (intro acts; rw [hl _ acts rfl rfl rfl]) | rw [hl _ _ rfl rfl rfl]
  exact Steps.refl _
theorem own_sta_keep {Z : State} {h h' : Heap} {C n d : String} {v : Value} {ws : List Addr} (F : Sta Z h C n d v) (K : Keep h h' ws) (q : ∀ x ∈ ws, ∀ c : Cell, h[x]? = some c → c.vm.isStatics = false) : Sta Z h' C n d v := by
  obtain ⟨cf, i, k, f, st, cell, h1, h2, h3, h4, h5, h6, h7⟩ := F
  exact ⟨cf, i, k, f, st, cell, h1, h2, h3, h4, K.2.1 st cell h5 (fun z => by have := q st z cell h5; rw [h6] at this; cases this), h6, h7⟩
theorem own_ins_keep {Z : State} {h h' : Heap} {a : Addr} {C : String} {b : Bool} {ws : List Addr} (F : Ins Z h a C b) (K : Keep h h' ws) : Ins Z h' a C b := by
  obtain ⟨cell, cT, h1, h2, h3⟩ := F
  obtain ⟨c', e1, e2, e3, -⟩ := K.2.2 a cell h1
  exact ⟨c', cT, e1, h2, by rw [e2, e3]; exact h3⟩
theorem own_pl0 {h : Heap} : ∀ x ∈ ([] : List Addr), ∀ c : Cell, h[x]? = some c → c.vm.isStatics = false := fun _ q => nomatch q
theorem own_plS {h : Heap} {y : Addr} {L : List Addr} (q : ∀ c : Cell, h[y]? = some c → c.vm.isStatics = false) (r : ∀ x ∈ L, ∀ c : Cell, h[x]? = some c → c.vm.isStatics = false) : ∀ x ∈ y :: L, ∀ c : Cell, h[x]? = some c → c.vm.isStatics = false := fun x z => (List.mem_cons.mp z).elim (fun u => u ▸ q) (r x)
theorem own_pl_exa {Z : State} {h : Heap} {a : Addr} {C : String} (F : Exa Z h a C) : ∀ c : Cell, h[a]? = some c → c.vm.isStatics = false := fun c hc => by
  obtain ⟨cell, k, h1, -, -, h4, -⟩ := F; cases h1.symm.trans hc; exact h4
theorem own_pl_fld {Z : State} {h : Heap} {a : Addr} {C n d : String} {v : Value} (F : Fld Z h a C n d v) : ∀ c : Cell, h[a]? = some c → c.vm.isStatics = false := fun c hc => by
  obtain ⟨cell, cf, k, i, f, h1, -, -, -, h5, -⟩ := F; cases h1.symm.trans hc; exact h5
theorem own_pl_arv {Z : State} {h : Heap} {a : Addr} {k : ClassId} {ty : FieldType} {z : Int32} {vs : List Value} {d : Value} (F : Arv Z h a k ty z vs d) : ∀ c : Cell, h[a]? = some c → c.vm.isStatics = false := fun c hc => by
  obtain ⟨cl, A, -⟩ := F; cases A.1.symm.trans hc; exact A.plain
theorem d1_0 : decode prog_15_method_1_code 0 = .ok (.aload_n 0, 1) := by decide +kernel
theorem d1_1 : decode prog_15_method_1_code 1 = .ok (.invokespecial 1, 3) := by decide +kernel
theorem d1_4 : decode prog_15_method_1_code 4 = .ok (.aload_n 0, 1) := by decide +kernel
theorem d1_5 : decode prog_15_method_1_code 5 = .ok (.iload_n 1, 1) := by decide +kernel
theorem d1_6 : decode prog_15_method_1_code 6 = .ok (.putfield 7, 3) := by decide +kernel
theorem d1_9 : decode prog_15_method_1_code 9 = .ok (.aload_n 0, 1) := by decide +kernel
theorem d1_10 : decode prog_15_method_1_code 10 = .ok (.iload_n 2, 1) := by decide +kernel
theorem d1_11 : decode prog_15_method_1_code 11 = .ok (.putfield 13, 3) := by decide +kernel
theorem d1_14 : decode prog_15_method_1_code 14 = .ok (.aload_n 0, 1) := by decide +kernel
theorem d1_15 : decode prog_15_method_1_code 15 = .ok (.iload_n 3, 1) := by decide +kernel
theorem d1_16 : decode prog_15_method_1_code 16 = .ok (.putfield 16, 3) := by decide +kernel
theorem d1_19 : decode prog_15_method_1_code 19 = .ok (.return_, 1) := by decide +kernel
theorem pn_com_example_enclav_enclav_device_TaChanges : plainName "com/example/enclav/enclav/device/TaChanges" = true := by first | (simp [plainName, overriddenIn]; done) | decide +kernel
theorem ef_1 (m : MethodId) (a1 : Addr) (p1 : Int32) (p2 : Int32) (p3 : Int32) : entryFrame m #[(.ref a1), (.int p1), (.int p2), (.int p3)] 4 = mkF m 0 #[.val (.ref a1), .val (.int p1), .val (.int p2), .val (.int p3)] [] := by first | (simp [entryFrame, mkF, argsToLocals, Value.category]; done) | rfl
def Q1 (Z : State) (a1 : Addr) (p1 : Int32) (p2 : Int32) (p3 : Int32) (u1 : Value) (u2 : Value) (u3 : Value) (h0 : Heap) (n0 : Nat) (v : Option Value) (h : Heap) (L : List Loc) : Prop := v = none ∧ Fr n0 L ∧ Keep h0 h [a1] ∧ Fld Z h a1 "com/example/enclav/enclav/device/TaChanges" "installed" "I" (.int p1) ∧ Fld Z h a1 "com/example/enclav/enclav/device/TaChanges" "updated" "I" (.int p2) ∧ Fld Z h a1 "com/example/enclav/enclav/device/TaChanges" "deleted" "I" (.int p3)
set_option maxRecDepth 65536 in
set_option maxHeartbeats 40000000 in
theorem rm1 (l : Launch) (Z : State) (a0 : Array Value) (hw : ∀ d ∈ tables_1, d.before a0 Z = true) (ws : List Jvm.Cond) (a1 : Addr) (p1 : Int32) (p2 : Int32) (p3 : Int32) (u1 : Value) (u2 : Value) (u3 : Value) (h0 : Heap) (n0 : Nat) (Z0 : n0 ≤ h0.size) (H0 : Exa Z h0 a1 "com/example/enclav/enclav/device/TaChanges") (H1 : Fld Z h0 a1 "com/example/enclav/enclav/device/TaChanges" "installed" "I" u1) (H2 : Fld Z h0 a1 "com/example/enclav/enclav/device/TaChanges" "updated" "I" u2) (H3 : Fld Z h0 a1 "com/example/enclav/enclav/device/TaChanges" "deleted" "I" u3) (H4 : n0 ≤ a1) :
    MetFree l (⟨"com/example/enclav/enclav/device/TaChanges", "<init>", "(III)V"⟩ : MethodName) (head1 (Jvm.Cond.code (⟨"com/example/enclav/enclav/device/TaChanges", "<init>", "(III)V"⟩ : MethodName) prog_15_method_1_code 4 none :: ws) ({ frames := 1, cells := 0, slots := 0, locals := 12 } : Room)) (fun a U => a = #[(.ref a1), (.int p1), (.int p2), (.int p3)] ∧ Z.Warmed39 U.vm ∧ U.heap = h0) (fun _ _ _ _ _ => True) (fun _ U o U' => ∃ v L, o = .returned v ∧ Q1 Z a1 p1 p2 p3 u1 u2 u3 h0 n0 v U'.heap L ∧ FrameEnd U o U' L ({ frames := 1, cells := 0, slots := 0, locals := 12 } : Room).cells ({ frames := 1, cells := 0, slots := 0, locals := 12 } : Room).slots) := by
  refine MetFree.of_bodySF (plainFor_of_name pn_com_example_enclav_enclav_device_TaChanges) hisR ?_
  intro p e s m args below meth c s₁ Bd hml0 hP hK
  obtain ⟨rfl, hZ, hh⟩ := hP
  have hx := Bd.exec
  have hby := Bd.bytes
  have hml : c.maxLocals = 4 := hml0
  have hown : s.vm.findClass "com/example/enclav/enclav/device/TaChanges" = some m.cls := findClass_of_methodNamed Bd.named
  have hnm := (name_of_methodNamed Bd.named Bd.method).1
  have X0 : Stand p l e ({ frames := 1, cells := 0, slots := 0, locals := 12 } : Room) s m #[(.ref a1), (.int p1), (.int p2), (.int p3)] below meth c s₁ [] 0 0 := Stand.of_body Bd
  have e0 : s₁.heap = h0 := by rw [← hh, Bd.state]; rfl
  have N0 := Fr.nil n0
  have pre0 : ∀ t, Steps p.tables e below (s₁.setTop (mkF m 0 #[.val (.ref a1), .val (.int p1), .val (.int p2), .val (.int p3)] [])) t → Steps p.tables e below (s₁.setTop (entryFrame m #[(.ref a1), (.int p1), (.int p2), (.int p3)] 4)) t := fun t k => castTop (ef_1 m a1 p1 p2 p3) k
  obtain ⟨T101, X101, e101, st101⟩ := initO X0 hx hZ hown (hw _ (List.mem_of_getElem? (i := 7) rfl)) (hw _ (List.mem_of_getElem? (i := 8) rfl)) (hw _ (List.mem_of_getElem? (i := 9) rfl)) e0 (g := (mkF m 1 #[.val (.ref a1), .val (.int p1), .val (.int p2), .val (.int p3)] [(.ref a1)])) rfl (by rw [hml]; rfl) rfl (hb hby d1_1) (by decide) (W := 0) (by show 2 * 0 + _ ≤ _; exact Nat.le_of_eq rfl) (by decide)
  obtain ⟨T102, h102, X102, e102, W102, st102⟩ := putF X101 hx hZ hown (host := "") (Or.inl (hw _ (List.mem_of_getElem? (i := 10) rfl))) Via.refl e101 H1 H0 (Or.inr ⟨(hw _ (List.mem_of_getElem? (i := 11) rfl)), rfl, hnm⟩) (hw _ (List.mem_of_getElem? (i := 2) rfl)) (ty := .int) (by decide) rfl rfl (g := (mkF m 6 #[.val (.ref a1), .val (.int p1), .val (.int p2), .val (.int p3)] [(.int p1), (.ref a1)])) rfl rfl (hb hby d1_6)
  have Fw102 := H1.same W102
  have N102 := Fr.snoc X102 N0 H4
  have f103 : Fld Z h102 a1 "com/example/enclav/enclav/device/TaChanges" "updated" "I" u2 := (H2.other W102 (Or.inr (slot_ne (Or.inr (hw _ (List.mem_of_getElem? (i := 13) rfl))) (Or.inr (hw _ (List.mem_of_getElem? (i := 11) rfl))) (by decide) (t := .int) (t' := .int) (by decide) (by decide))))
  have f104 : Exa Z h102 a1 "com/example/enclav/enclav/device/TaChanges" := (H0.wr W102)
  obtain ⟨T105, h105, X105, e105, W105, st105⟩ := putF X102 hx hZ hown (host := "") (Or.inl (hw _ (List.mem_of_getElem? (i := 12) rfl))) Via.refl e102 f103 f104 (Or.inr ⟨(hw _ (List.mem_of_getElem? (i := 13) rfl)), rfl, hnm⟩) (hw _ (List.mem_of_getElem? (i := 2) rfl)) (ty := .int) (by decide) rfl rfl (g := (mkF m 11 #[.val (.ref a1), .val (.int p1), .val (.int p2), .val (.int p3)] [(.int p2), (.ref a1)])) rfl rfl (hb hby d1_11)
  have Fw105 := f103.same W105
  have N105 := Fr.snoc X105 N102 H4
  have f106 : Fld Z h105 a1 "com/example/enclav/enclav/device/TaChanges" "deleted" "I" u3 := ((H3.other W102 (Or.inr (slot_ne (Or.inr (hw _ (List.mem_of_getElem? (i := 15) rfl))) (Or.inr (hw _ (List.mem_of_getElem? (i := 11) rfl))) (by decide) (t := .int) (t' := .int) (by decide) (by decide)))).other W105 (Or.inr (slot_ne (Or.inr (hw _ (List.mem_of_getElem? (i := 15) rfl))) (Or.inr (hw _ (List.mem_of_getElem? (i := 13) rfl))) (by decide) (t := .int) (t' := .int) (by decide) (by decide))))
  have f107 : Exa Z h105 a1 "com/example/enclav/enclav/device/TaChanges" := (f104.wr W105)
  obtain ⟨T108, h108, X108, e108, W108, st108⟩ := putF X105 hx hZ hown (host := "") (Or.inl (hw _ (List.mem_of_getElem? (i := 14) rfl))) Via.refl e105 f106 f107 (Or.inr ⟨(hw _ (List.mem_of_getElem? (i := 15) rfl)), rfl, hnm⟩) (hw _ (List.mem_of_getElem? (i := 2) rfl)) (ty := .int) (by decide) rfl rfl (g := (mkF m 16 #[.val (.ref a1), .val (.int p1), .val (.int p2), .val (.int p3)] [(.int p3), (.ref a1)])) rfl rfl (hb hby d1_16)
  have Fw108 := f106.same W108
  have N108 := Fr.snoc X108 N105 H4
  have f109 : Fld Z h108 a1 "com/example/enclav/enclav/device/TaChanges" "installed" "I" (.int p1) := ((Fw102.other W105 (Or.inr (slot_ne (Or.inr (hw _ (List.mem_of_getElem? (i := 11) rfl))) (Or.inr (hw _ (List.mem_of_getElem? (i := 13) rfl))) (by decide) (t := .int) (t' := .int) (by decide) (by decide)))).other W108 (Or.inr (slot_ne (Or.inr (hw _ (List.mem_of_getElem? (i := 11) rfl))) (Or.inr (hw _ (List.mem_of_getElem? (i := 15) rfl))) (by decide) (t := .int) (t' := .int) (by decide) (by decide))))
  have f110 : Fld Z h108 a1 "com/example/enclav/enclav/device/TaChanges" "updated" "I" (.int p2) := (Fw105.other W108 (Or.inr (slot_ne (Or.inr (hw _ (List.mem_of_getElem? (i := 13) rfl))) (Or.inr (hw _ (List.mem_of_getElem? (i := 15) rfl))) (by decide) (t := .int) (t' := .int) (by decide) (by decide))))
  obtain ⟨fs, hr, hrun, hended, hW, hsame⟩ := X108.leave (v := none) (fun _ => rfl)
  refine ⟨_, _, pre0 _ ?_, hrun, hended, _, _, rfl, ?_, ⟨_, rfl⟩, hW, hsame.mono (by decide) (by decide)⟩
  · skip
    show Steps p.tables e below (s₁.setTop (mkF m 0 #[.val (.ref a1), .val (.int p1), .val (.int p2), .val (.int p3)] [])) _
    refine XS.aloadN X0.here hx rfl (hb hby d1_0) rfl rfl ?_
    show Steps p.tables e below (s₁.setTop (mkF m 1 #[.val (.ref a1), .val (.int p1), .val (.int p2), .val (.int p3)] [(.ref a1)])) _
    refine st101 _ ?_
    show Steps p.tables e below (T101.setTop (mkF m 4 #[.val (.ref a1), .val (.int p1), .val (.int p2), .val (.int p3)] [])) _
    refine XS.aloadN X101.here hx rfl (hb hby d1_4) rfl rfl ?_
    show Steps p.tables e below (T101.setTop (mkF m 5 #[.val (.ref a1), .val (.int p1), .val (.int p2), .val (.int p3)] [(.ref a1)])) _
    refine XS.iloadN X101.here hx rfl (hb hby d1_5) rfl ?_
    show Steps p.tables e below (T101.setTop (mkF m 6 #[.val (.ref a1), .val (.int p1), .val (.int p2), .val (.int p3)] [(.int p1), (.ref a1)])) _
    refine st102 _ ?_
    show Steps p.tables e below (T102.setTop (mkF m 9 #[.val (.ref a1), .val (.int p1), .val (.int p2), .val (.int p3)] [])) _
    refine XS.aloadN X102.here hx rfl (hb hby d1_9) rfl rfl ?_
    show Steps p.tables e below (T102.setTop (mkF m 10 #[.val (.ref a1), .val (.int p1), .val (.int p2), .val (.int p3)] [(.ref a1)])) _
    refine XS.iloadN X102.here hx rfl (hb hby d1_10) rfl ?_
    show Steps p.tables e below (T102.setTop (mkF m 11 #[.val (.ref a1), .val (.int p1), .val (.int p2), .val (.int p3)] [(.int p2), (.ref a1)])) _
    refine st105 _ ?_
    show Steps p.tables e below (T105.setTop (mkF m 14 #[.val (.ref a1), .val (.int p1), .val (.int p2), .val (.int p3)] [])) _
    refine XS.aloadN X105.here hx rfl (hb hby d1_14) rfl rfl ?_
    show Steps p.tables e below (T105.setTop (mkF m 15 #[.val (.ref a1), .val (.int p1), .val (.int p2), .val (.int p3)] [(.ref a1)])) _
    refine XS.iloadN X105.here hx rfl (hb hby d1_15) rfl ?_
    show Steps p.tables e below (T105.setTop (mkF m 16 #[.val (.ref a1), .val (.int p1), .val (.int p2), .val (.int p3)] [(.int p3), (.ref a1)])) _
    refine st108 _ ?_
    show Steps p.tables e below (T108.setTop (mkF m 19 #[.val (.ref a1), .val (.int p1), .val (.int p2), .val (.int p3)] [])) _
    exact X108.returnOut hx Bd.returns (hb hby d1_19) hr
  · show Q1 Z a1 p1 p2 p3 u1 u2 u3 h0 n0 _ T108.heap _
    rw [e108]
    exact ⟨rfl, N108, ((((Keep.refl h0 [a1]).wr W102 (Or.inl (List.mem_of_getElem? (i := 0) rfl))).wr W105 (Or.inl (List.mem_of_getElem? (i := 0) rfl))).wr W108 (Or.inl (List.mem_of_getElem? (i := 0) rfl))), f109, f110, Fw108⟩
theorem d3_0 : decode prog_15_method_5_code 0 = .ok (.new 8, 3) := by decide +kernel
theorem d3_3 : decode prog_15_method_5_code 3 = .ok (.dup, 1) := by decide +kernel
theorem d3_4 : decode prog_15_method_5_code 4 = .ok (.aload_n 0, 1) := by decide +kernel
theorem d3_5 : decode prog_15_method_5_code 5 = .ok (.getfield 7, 3) := by decide +kernel
theorem d3_8 : decode prog_15_method_5_code 8 = .ok (.aload_n 1, 1) := by decide +kernel
theorem d3_9 : decode prog_15_method_5_code 9 = .ok (.getfield 7, 3) := by decide +kernel
theorem d3_12 : decode prog_15_method_5_code 12 = .ok (.iadd, 1) := by decide +kernel
theorem d3_13 : decode prog_15_method_5_code 13 = .ok (.aload_n 0, 1) := by decide +kernel
theorem d3_14 : decode prog_15_method_5_code 14 = .ok (.getfield 13, 3) := by decide +kernel
theorem d3_17 : decode prog_15_method_5_code 17 = .ok (.aload_n 1, 1) := by decide +kernel
theorem d3_18 : decode prog_15_method_5_code 18 = .ok (.getfield 13, 3) := by decide +kernel
theorem d3_21 : decode prog_15_method_5_code 21 = .ok (.iadd, 1) := by decide +kernel
theorem d3_22 : decode prog_15_method_5_code 22 = .ok (.aload_n 0, 1) := by decide +kernel
theorem d3_23 : decode prog_15_method_5_code 23 = .ok (.getfield 16, 3) := by decide +kernel
theorem d3_26 : decode prog_15_method_5_code 26 = .ok (.aload_n 1, 1) := by decide +kernel
theorem d3_27 : decode prog_15_method_5_code 27 = .ok (.getfield 16, 3) := by decide +kernel
theorem d3_30 : decode prog_15_method_5_code 30 = .ok (.iadd, 1) := by decide +kernel
theorem d3_31 : decode prog_15_method_5_code 31 = .ok (.invokespecial 19, 3) := by decide +kernel
theorem pd_0 : parseMethodDescriptor "(III)V" = some ⟨[.int, .int, .int], none⟩ := by decide +kernel
theorem d3_34 : decode prog_15_method_5_code 34 = .ok (.areturn, 1) := by decide +kernel
theorem ef_3 (m : MethodId) (a1 : Addr) (a2 : Addr) : entryFrame m #[(.ref a1), (.ref a2)] 2 = mkF m 0 #[.val (.ref a1), .val (.ref a2)] [] := by first | (simp [entryFrame, mkF, argsToLocals, Value.category]; done) | rfl
def Q3 (Z : State) (a1 : Addr) (a2 : Addr) (w1 : Int32) (w2 : Int32) (w3 : Int32) (w4 : Int32) (w5 : Int32) (w6 : Int32) (h0 : Heap) (n0 : Nat) (v : Option Value) (h : Heap) (L : List Loc) : Prop := ∃ (b : Addr), v = some (.ref b) ∧ Fr n0 L ∧ Keep h0 h [] ∧ h0.size ≤ b ∧ Exa Z h b "com/example/enclav/enclav/device/TaChanges" ∧ Fld Z h b "com/example/enclav/enclav/device/TaChanges" "installed" "I" (.int (w1 + w4)) ∧ Fld Z h b "com/example/enclav/enclav/device/TaChanges" "updated" "I" (.int (w2 + w5)) ∧ Fld Z h b "com/example/enclav/enclav/device/TaChanges" "deleted" "I" (.int (w3 + w6))
set_option maxRecDepth 65536 in
set_option maxHeartbeats 40000000 in
theorem rm3 (l : Launch) (Z : State) (a0 : Array Value) (hw : ∀ d ∈ tables_1, d.before a0 Z = true) (ws : List Jvm.Cond) (a1 : Addr) (a2 : Addr) (w1 : Int32) (w2 : Int32) (w3 : Int32) (w4 : Int32) (w5 : Int32) (w6 : Int32) (h0 : Heap) (n0 : Nat) (Z0 : n0 ≤ h0.size) (H0 : Fld Z h0 a1 "com/example/enclav/enclav/device/TaChanges" "installed" "I" (.int w1)) (H1 : Fld Z h0 a1 "com/example/enclav/enclav/device/TaChanges" "updated" "I" (.int w2)) (H2 : Fld Z h0 a1 "com/example/enclav/enclav/device/TaChanges" "deleted" "I" (.int w3)) (H3 : Fld Z h0 a2 "com/example/enclav/enclav/device/TaChanges" "installed" "I" (.int w4)) (H4 : Fld Z h0 a2 "com/example/enclav/enclav/device/TaChanges" "updated" "I" (.int w5)) (H5 : Fld Z h0 a2 "com/example/enclav/enclav/device/TaChanges" "deleted" "I" (.int w6)) :
    MetFree l (⟨"com/example/enclav/enclav/device/TaChanges", "plus", "(Lcom/example/enclav/enclav/device/TaChanges;)Lcom/example/enclav/enclav/device/TaChanges;"⟩ : MethodName) (head1 (Jvm.Cond.code (⟨"com/example/enclav/enclav/device/TaChanges", "plus", "(Lcom/example/enclav/enclav/device/TaChanges;)Lcom/example/enclav/enclav/device/TaChanges;"⟩ : MethodName) prog_15_method_5_code 2 (some (.object "com/example/enclav/enclav/device/TaChanges")) :: ws) ({ frames := 2, cells := 1, slots := 3, locals := 28 } : Room)) (fun a U => a = #[(.ref a1), (.ref a2)] ∧ Z.Warmed39 U.vm ∧ U.heap = h0) (fun _ _ _ _ _ => True) (fun _ U o U' => ∃ v L, o = .returned v ∧ Q3 Z a1 a2 w1 w2 w3 w4 w5 w6 h0 n0 v U'.heap L ∧ FrameEnd U o U' L ({ frames := 2, cells := 1, slots := 3, locals := 28 } : Room).cells ({ frames := 2, cells := 1, slots := 3, locals := 28 } : Room).slots) := by
  refine MetFree.of_bodySF (plainFor_of_name pn_com_example_enclav_enclav_device_TaChanges) hisR ?_
  intro p e s m args below meth c s₁ Bd hml0 hP hK
  obtain ⟨rfl, hZ, hh⟩ := hP
  have hx := Bd.exec
  have hby := Bd.bytes
  have hml : c.maxLocals = 2 := hml0
  have hown : s.vm.findClass "com/example/enclav/enclav/device/TaChanges" = some m.cls := findClass_of_methodNamed Bd.named
  have hnm := (name_of_methodNamed Bd.named Bd.method).1
  have X0 : Stand p l e ({ frames := 2, cells := 1, slots := 3, locals := 28 } : Room) s m #[(.ref a1), (.ref a2)] below meth c s₁ [] 0 0 := Stand.of_body Bd
  have e0 : s₁.heap = h0 := by rw [← hh, Bd.state]; rfl
  have N0 := Fr.nil n0
  have pre0 : ∀ t, Steps p.tables e below (s₁.setTop (mkF m 0 #[.val (.ref a1), .val (.ref a2)] [])) t → Steps p.tables e below (s₁.setTop (entryFrame m #[(.ref a1), (.ref a2)] 2)) t := fun t k => castTop (ef_3 m a1 a2) k
  obtain ⟨T101, h101, X101, e101, E101, A101, D101, -, st101⟩ := newO X0 hx hZ hown (hw _ (List.mem_of_getElem? (i := 21) rfl)) (hw _ (List.mem_of_getElem? (i := 2) rfl)) (hw _ (List.mem_of_getElem? (i := 3) rfl)) e0 (g := (mkF m 0 #[.val (.ref a1), .val (.ref a2)] [])) rfl (hb hby d3_0) (by decide) (by decide)
  obtain ⟨b101, g101⟩ : ∃ z, z = h0.size := ⟨_, rfl⟩
  rw [← g101] at A101 D101 st101
  have F102 : Fld Z h101 b101 "com/example/enclav/enclav/device/TaChanges" "installed" "I" (.int (0 : Int32)) := D101 (Or.inr (hw _ (List.mem_of_getElem? (i := 11) rfl))) (ty := .int) (by decide)
  have F103 : Fld Z h101 b101 "com/example/enclav/enclav/device/TaChanges" "updated" "I" (.int (0 : Int32)) := D101 (Or.inr (hw _ (List.mem_of_getElem? (i := 13) rfl))) (ty := .int) (by decide)
  have F104 : Fld Z h101 b101 "com/example/enclav/enclav/device/TaChanges" "deleted" "I" (.int (0 : Int32)) := D101 (Or.inr (hw _ (List.mem_of_getElem? (i := 15) rfl))) (ty := .int) (by decide)
  have f105 : Fld Z h101 a1 "com/example/enclav/enclav/device/TaChanges" "installed" "I" (.int w1) := (H0.ext E101)
  obtain ⟨T106, X106, e106, st106⟩ := getF X101 hx hZ hown (host := "") (Or.inl (hw _ (List.mem_of_getElem? (i := 10) rfl))) Via.refl e101 f105 (g := (mkF m 5 #[.val (.ref a1), .val (.ref a2)] [(.ref a1), (.ref b101), (.ref b101)])) rfl rfl (hb hby d3_5)
  have f107 : Fld Z h101 a2 "com/example/enclav/enclav/device/TaChanges" "installed" "I" (.int w4) := (H3.ext E101)
  obtain ⟨T108, X108, e108, st108⟩ := getF X106 hx hZ hown (host := "") (Or.inl (hw _ (List.mem_of_getElem? (i := 10) rfl))) Via.refl e106 f107 (g := (mkF m 9 #[.val (.ref a1), .val (.ref a2)] [(.ref a2), (.int w1), (.ref b101), (.ref b101)])) rfl rfl (hb hby d3_9)
  have f109 : Fld Z h101 a1 "com/example/enclav/enclav/device/TaChanges" "updated" "I" (.int w2) := (H1.ext E101)
  obtain ⟨T110, X110, e110, st110⟩ := getF X108 hx hZ hown (host := "") (Or.inl (hw _ (List.mem_of_getElem? (i := 12) rfl))) Via.refl e108 f109 (g := (mkF m 14 #[.val (.ref a1), .val (.ref a2)] [(.ref a1), (.int (w1 + w4)), (.ref b101), (.ref b101)])) rfl rfl (hb hby d3_14)
  have f111 : Fld Z h101 a2 "com/example/enclav/enclav/device/TaChanges" "updated" "I" (.int w5) := (H4.ext E101)
  obtain ⟨T112, X112, e112, st112⟩ := getF X110 hx hZ hown (host := "") (Or.inl (hw _ (List.mem_of_getElem? (i := 12) rfl))) Via.refl e110 f111 (g := (mkF m 18 #[.val (.ref a1), .val (.ref a2)] [(.ref a2), (.int w2), (.int (w1 + w4)), (.ref b101), (.ref b101)])) rfl rfl (hb hby d3_18)
  have f113 : Fld Z h101 a1 "com/example/enclav/enclav/device/TaChanges" "deleted" "I" (.int w3) := (H2.ext E101)
  obtain ⟨T114, X114, e114, st114⟩ := getF X112 hx hZ hown (host := "") (Or.inl (hw _ (List.mem_of_getElem? (i := 14) rfl))) Via.refl e112 f113 (g := (mkF m 23 #[.val (.ref a1), .val (.ref a2)] [(.ref a1), (.int (w2 + w5)), (.int (w1 + w4)), (.ref b101), (.ref b101)])) rfl rfl (hb hby d3_23)
  have f115 : Fld Z h101 a2 "com/example/enclav/enclav/device/TaChanges" "deleted" "I" (.int w6) := (H5.ext E101)
  obtain ⟨T116, X116, e116, st116⟩ := getF X114 hx hZ hown (host := "") (Or.inl (hw _ (List.mem_of_getElem? (i := 14) rfl))) Via.refl e114 f115 (g := (mkF m 27 #[.val (.ref a1), .val (.ref a2)] [(.ref a2), (.int w3), (.int (w2 + w5)), (.int (w1 + w4)), (.ref b101), (.ref b101)])) rfl rfl (hb hby d3_27)
  have g117 : n0 ≤ b101 := Nat.le_trans Z0 (Nat.le_of_eq g101.symm)
  have z119 : n0 ≤ h101.size := (Nat.le_trans Z0 E101.1)
  obtain ⟨_, _, ⟨T118, L118, k118, n118⟩, -, X118, ⟨Lc118, hQ118, l118, y118, z118⟩, st118⟩ := X116.specialBack hx (y := (⟨"com/example/enclav/enclav/device/TaChanges", "<init>", "(III)V"⟩ : MethodName)) rfl hown (mvT hZ (hw _ (List.mem_of_getElem? (i := 22) rfl))) (mvT hZ (hw _ (List.mem_of_getElem? (i := 5) rfl))) (mvT hZ (hw _ (List.mem_of_getElem? (i := 6) rfl))) (by decide) (backOf (W := 1) (rm1 l Z a0 hw [] b101 (w1 + w4) (w2 + w5) (w3 + w6) (.int (0 : Int32)) (.int (0 : Int32)) (.int (0 : Int32)) h101 n0 z119 A101 F102 F103 F104 g117) hZ (hw _ (List.mem_of_getElem? (i := 6) rfl)) (hw _ (List.mem_of_getElem? (i := 3) rfl)) (by decide) (by decide)) (g := (mkF m 31 #[.val (.ref a1), .val (.ref a2)] [(.int (w3 + w6)), (.int (w2 + w5)), (.int (w1 + w4)), (.ref b101), (.ref b101)])) rfl (by rw [hml]; rfl) (Steps.refl _) (a := b101) (argsL := [(.int (w1 + w4)), (.int (w2 + w5)), (.int (w3 + w6))]) (rest := [(.ref b101)]) (lenOf pd_0 rfl) rfl (by show 2 * 0 + _ ≤ _; exact Nat.le_of_eq rfl) (hb hby d3_31) (fun _ _ => ⟨rfl, e116, (by decide : 1 + 0 ≤ _), (by decide : 3 + 0 ≤ _)⟩)
  dsimp only [Pt.U, Pt.locs, Pt.cells, Pt.slots] at X118 l118 y118 z118 st118 hQ118
  subst l118 y118 z118
  obtain ⟨rfl, Nq118, K118, R118_1, R118_2, R118_3⟩ := hQ118
  have N118 := Fr.app N0 Nq118
  have f120 : Exa Z T118.heap b101 "com/example/enclav/enclav/device/TaChanges" := (A101.keep K118)
  obtain ⟨fs, hr, hrun, hended, hW, hsame⟩ := X118.leave (v := some (.ref b101)) (fun h => by rw [Bd.returns] at h; cases h)
  refine ⟨_, _, pre0 _ ?_, hrun, hended, _, _, rfl, ?_, ⟨_, rfl⟩, hW, hsame.mono (by decide) (by decide)⟩
  · skip
    show Steps p.tables e below (s₁.setTop (mkF m 0 #[.val (.ref a1), .val (.ref a2)] [])) _
    refine st101 _ ?_
    show Steps p.tables e below (T101.setTop (mkF m 3 #[.val (.ref a1), .val (.ref a2)] [(.ref b101)])) _
    refine XS.dup X101.here hx rfl (hb hby d3_3) rfl rfl ?_
    show Steps p.tables e below (T101.setTop (mkF m 4 #[.val (.ref a1), .val (.ref a2)] [(.ref b101), (.ref b101)])) _
    refine XS.aloadN X101.here hx rfl (hb hby d3_4) rfl rfl ?_
    show Steps p.tables e below (T101.setTop (mkF m 5 #[.val (.ref a1), .val (.ref a2)] [(.ref a1), (.ref b101), (.ref b101)])) _
    refine st106 _ ?_
    show Steps p.tables e below (T106.setTop (mkF m 8 #[.val (.ref a1), .val (.ref a2)] [(.int w1), (.ref b101), (.ref b101)])) _
    refine XS.aloadN X106.here hx rfl (hb hby d3_8) rfl rfl ?_
    show Steps p.tables e below (T106.setTop (mkF m 9 #[.val (.ref a1), .val (.ref a2)] [(.ref a2), (.int w1), (.ref b101), (.ref b101)])) _
    refine st108 _ ?_
    show Steps p.tables e below (T108.setTop (mkF m 12 #[.val (.ref a1), .val (.ref a2)] [(.int w4), (.int w1), (.ref b101), (.ref b101)])) _
    refine XS.iadd X108.here hx rfl (hb hby d3_12) rfl ?_
    show Steps p.tables e below (T108.setTop (mkF m 13 #[.val (.ref a1), .val (.ref a2)] [(.int (w1 + w4)), (.ref b101), (.ref b101)])) _
    refine XS.aloadN X108.here hx rfl (hb hby d3_13) rfl rfl ?_
    show Steps p.tables e below (T108.setTop (mkF m 14 #[.val (.ref a1), .val (.ref a2)] [(.ref a1), (.int (w1 + w4)), (.ref b101), (.ref b101)])) _
    refine st110 _ ?_
    show Steps p.tables e below (T110.setTop (mkF m 17 #[.val (.ref a1), .val (.ref a2)] [(.int w2), (.int (w1 + w4)), (.ref b101), (.ref b101)])) _
    refine XS.aloadN X110.here hx rfl (hb hby d3_17) rfl rfl ?_
    show Steps p.tables e below (T110.setTop (mkF m 18 #[.val (.ref a1), .val (.ref a2)] [(.ref a2), (.int w2), (.int (w1 + w4)), (.ref b101), (.ref b101)])) _
    refine st112 _ ?_
    show Steps p.tables e below (T112.setTop (mkF m 21 #[.val (.ref a1), .val (.ref a2)] [(.int w5), (.int w2), (.int (w1 + w4)), (.ref b101), (.ref b101)])) _
    refine XS.iadd X112.here hx rfl (hb hby d3_21) rfl ?_
    show Steps p.tables e below (T112.setTop (mkF m 22 #[.val (.ref a1), .val (.ref a2)] [(.int (w2 + w5)), (.int (w1 + w4)), (.ref b101), (.ref b101)])) _
    refine XS.aloadN X112.here hx rfl (hb hby d3_22) rfl rfl ?_
    show Steps p.tables e below (T112.setTop (mkF m 23 #[.val (.ref a1), .val (.ref a2)] [(.ref a1), (.int (w2 + w5)), (.int (w1 + w4)), (.ref b101), (.ref b101)])) _
    refine st114 _ ?_
    show Steps p.tables e below (T114.setTop (mkF m 26 #[.val (.ref a1), .val (.ref a2)] [(.int w3), (.int (w2 + w5)), (.int (w1 + w4)), (.ref b101), (.ref b101)])) _
    refine XS.aloadN X114.here hx rfl (hb hby d3_26) rfl rfl ?_
    show Steps p.tables e below (T114.setTop (mkF m 27 #[.val (.ref a1), .val (.ref a2)] [(.ref a2), (.int w3), (.int (w2 + w5)), (.int (w1 + w4)), (.ref b101), (.ref b101)])) _
    refine st116 _ ?_
    show Steps p.tables e below (T116.setTop (mkF m 30 #[.val (.ref a1), .val (.ref a2)] [(.int w6), (.int w3), (.int (w2 + w5)), (.int (w1 + w4)), (.ref b101), (.ref b101)])) _
    refine XS.iadd X116.here hx rfl (hb hby d3_30) rfl ?_
    show Steps p.tables e below (T116.setTop (mkF m 31 #[.val (.ref a1), .val (.ref a2)] [(.int (w3 + w6)), (.int (w2 + w5)), (.int (w1 + w4)), (.ref b101), (.ref b101)])) _
    refine st118.trans ?_
    show Steps p.tables e below (T118.setTop (mkF m 34 #[.val (.ref a1), .val (.ref a2)] [(.ref b101)])) _
    jvm_step X118.here [X118.here.top, hx, (hb hby d3_34), X118.method', Bd.returns, Value.isRef, FieldType.isReference]
    first | (intro acts; rw [hr _ acts rfl rfl rfl]) | rw [hr _ _ rfl rfl rfl]
    exact Steps.refl _
  · show Q3 Z a1 a2 w1 w2 w3 w4 w5 w6 h0 n0 _ T118.heap _
    exact ⟨b101, rfl, N118, (((Keep.refl h0 []).ext E101).trans K118 (allS (P := (fun x => x ∈ [] ∨ h0.size ≤ x)) (Or.inr (Nat.le_trans (Nat.le_refl _) (Nat.le_of_eq g101.symm))) all0)), (Nat.le_trans (Nat.le_refl _) (Nat.le_of_eq g101.symm)), f120, R118_1, R118_2, R118_3⟩
theorem d4_0 : decode prog_15_method_2_code 0 = .ok (.aload_n 0, 1) := by decide +kernel
theorem d4_1 : decode prog_15_method_2_code 1 = .ok (.getfield 7, 3) := by decide +kernel
theorem d4_4 : decode prog_15_method_2_code 4 = .ok (.ireturn, 1) := by decide +kernel
theorem ef_4 (m : MethodId) (a1 : Addr) : entryFrame m #[(.ref a1)] 1 = mkF m 0 #[.val (.ref a1)] [] := by first | (simp [entryFrame, mkF, argsToLocals, Value.category]; done) | rfl
def Q4 (Z : State) (a1 : Addr) (w1 : Int32) (h0 : Heap) (n0 : Nat) (v : Option Value) (h : Heap) (L : List Loc) : Prop := v = some (.int w1) ∧ Fr n0 L ∧ h = h0
set_option maxRecDepth 65536 in
set_option maxHeartbeats 40000000 in
theorem rm4 (l : Launch) (Z : State) (a0 : Array Value) (hw : ∀ d ∈ tables_1, d.before a0 Z = true) (ws : List Jvm.Cond) (a1 : Addr) (w1 : Int32) (h0 : Heap) (n0 : Nat) (Z0 : n0 ≤ h0.size) (H0 : Fld Z h0 a1 "com/example/enclav/enclav/device/TaChanges" "installed" "I" (.int w1)) :
    MetFree l (⟨"com/example/enclav/enclav/device/TaChanges", "installed", "()I"⟩ : MethodName) (head1 (Jvm.Cond.code (⟨"com/example/enclav/enclav/device/TaChanges", "installed", "()I"⟩ : MethodName) prog_15_method_2_code 1 (some .int) :: ws) ({ frames := 0, cells := 0, slots := 0, locals := 0 } : Room)) (fun a U => a = #[(.ref a1)] ∧ Z.Warmed39 U.vm ∧ U.heap = h0) (fun _ _ _ _ _ => True) (fun _ U o U' => ∃ v L, o = .returned v ∧ Q4 Z a1 w1 h0 n0 v U'.heap L ∧ FrameEnd U o U' L ({ frames := 0, cells := 0, slots := 0, locals := 0 } : Room).cells ({ frames := 0, cells := 0, slots := 0, locals := 0 } : Room).slots) := by
  refine MetFree.of_bodySF (plainFor_of_name pn_com_example_enclav_enclav_device_TaChanges) hisR ?_
  intro p e s m args below meth c s₁ Bd hml0 hP hK
  obtain ⟨rfl, hZ, hh⟩ := hP
  have hx := Bd.exec
  have hby := Bd.bytes
  have hml : c.maxLocals = 1 := hml0
  have hown : s.vm.findClass "com/example/enclav/enclav/device/TaChanges" = some m.cls := findClass_of_methodNamed Bd.named
  have hnm := (name_of_methodNamed Bd.named Bd.method).1
  have X0 : Stand p l e ({ frames := 0, cells := 0, slots := 0, locals := 0 } : Room) s m #[(.ref a1)] below meth c s₁ [] 0 0 := Stand.of_body Bd
  have e0 : s₁.heap = h0 := by rw [← hh, Bd.state]; rfl
  have N0 := Fr.nil n0
  have pre0 : ∀ t, Steps p.tables e below (s₁.setTop (mkF m 0 #[.val (.ref a1)] [])) t → Steps p.tables e below (s₁.setTop (entryFrame m #[(.ref a1)] 1)) t := fun t k => castTop (ef_4 m a1) k
  obtain ⟨T101, X101, e101, st101⟩ := getF X0 hx hZ hown (host := "") (Or.inl (hw _ (List.mem_of_getElem? (i := 10) rfl))) Via.refl e0 H0 (g := (mkF m 1 #[.val (.ref a1)] [(.ref a1)])) rfl rfl (hb hby d4_1)
  obtain ⟨fs, hr, hrun, hended, hW, hsame⟩ := X101.leave (v := some (.int w1)) (fun h => by rw [Bd.returns] at h; cases h)
  refine ⟨_, _, pre0 _ ?_, hrun, hended, _, _, rfl, ?_, ⟨_, rfl⟩, hW, hsame.mono (by decide) (by decide)⟩
  · skip
    show Steps p.tables e below (s₁.setTop (mkF m 0 #[.val (.ref a1)] [])) _
    refine XS.aloadN X0.here hx rfl (hb hby d4_0) rfl rfl ?_
    show Steps p.tables e below (s₁.setTop (mkF m 1 #[.val (.ref a1)] [(.ref a1)])) _
    refine st101 _ ?_
    show Steps p.tables e below (T101.setTop (mkF m 4 #[.val (.ref a1)] [(.int w1)])) _
    exact retI X101 hx Bd.returns (hb hby d4_4) hr
  · show Q4 Z a1 w1 h0 n0 _ T101.heap _
    rw [e101]
    exact ⟨rfl, N0, rfl⟩
theorem d5_0 : decode prog_15_method_3_code 0 = .ok (.aload_n 0, 1) := by decide +kernel
theorem d5_1 : decode prog_15_method_3_code 1 = .ok (.getfield 13, 3) := by decide +kernel
theorem d5_4 : decode prog_15_method_3_code 4 = .ok (.ireturn, 1) := by decide +kernel
theorem ef_5 (m : MethodId) (a1 : Addr) : entryFrame m #[(.ref a1)] 1 = mkF m 0 #[.val (.ref a1)] [] := by first | (simp [entryFrame, mkF, argsToLocals, Value.category]; done) | rfl
def Q5 (Z : State) (a1 : Addr) (w1 : Int32) (h0 : Heap) (n0 : Nat) (v : Option Value) (h : Heap) (L : List Loc) : Prop := v = some (.int w1) ∧ Fr n0 L ∧ h = h0
set_option maxRecDepth 65536 in
set_option maxHeartbeats 40000000 in
theorem rm5 (l : Launch) (Z : State) (a0 : Array Value) (hw : ∀ d ∈ tables_1, d.before a0 Z = true) (ws : List Jvm.Cond) (a1 : Addr) (w1 : Int32) (h0 : Heap) (n0 : Nat) (Z0 : n0 ≤ h0.size) (H0 : Fld Z h0 a1 "com/example/enclav/enclav/device/TaChanges" "updated" "I" (.int w1)) :
    MetFree l (⟨"com/example/enclav/enclav/device/TaChanges", "updated", "()I"⟩ : MethodName) (head1 (Jvm.Cond.code (⟨"com/example/enclav/enclav/device/TaChanges", "updated", "()I"⟩ : MethodName) prog_15_method_3_code 1 (some .int) :: ws) ({ frames := 0, cells := 0, slots := 0, locals := 0 } : Room)) (fun a U => a = #[(.ref a1)] ∧ Z.Warmed39 U.vm ∧ U.heap = h0) (fun _ _ _ _ _ => True) (fun _ U o U' => ∃ v L, o = .returned v ∧ Q5 Z a1 w1 h0 n0 v U'.heap L ∧ FrameEnd U o U' L ({ frames := 0, cells := 0, slots := 0, locals := 0 } : Room).cells ({ frames := 0, cells := 0, slots := 0, locals := 0 } : Room).slots) := by
  refine MetFree.of_bodySF (plainFor_of_name pn_com_example_enclav_enclav_device_TaChanges) hisR ?_
  intro p e s m args below meth c s₁ Bd hml0 hP hK
  obtain ⟨rfl, hZ, hh⟩ := hP
  have hx := Bd.exec
  have hby := Bd.bytes
  have hml : c.maxLocals = 1 := hml0
  have hown : s.vm.findClass "com/example/enclav/enclav/device/TaChanges" = some m.cls := findClass_of_methodNamed Bd.named
  have hnm := (name_of_methodNamed Bd.named Bd.method).1
  have X0 : Stand p l e ({ frames := 0, cells := 0, slots := 0, locals := 0 } : Room) s m #[(.ref a1)] below meth c s₁ [] 0 0 := Stand.of_body Bd
  have e0 : s₁.heap = h0 := by rw [← hh, Bd.state]; rfl
  have N0 := Fr.nil n0
  have pre0 : ∀ t, Steps p.tables e below (s₁.setTop (mkF m 0 #[.val (.ref a1)] [])) t → Steps p.tables e below (s₁.setTop (entryFrame m #[(.ref a1)] 1)) t := fun t k => castTop (ef_5 m a1) k
  obtain ⟨T101, X101, e101, st101⟩ := getF X0 hx hZ hown (host := "") (Or.inl (hw _ (List.mem_of_getElem? (i := 12) rfl))) Via.refl e0 H0 (g := (mkF m 1 #[.val (.ref a1)] [(.ref a1)])) rfl rfl (hb hby d5_1)
  obtain ⟨fs, hr, hrun, hended, hW, hsame⟩ := X101.leave (v := some (.int w1)) (fun h => by rw [Bd.returns] at h; cases h)
  refine ⟨_, _, pre0 _ ?_, hrun, hended, _, _, rfl, ?_, ⟨_, rfl⟩, hW, hsame.mono (by decide) (by decide)⟩
  · skip
    show Steps p.tables e below (s₁.setTop (mkF m 0 #[.val (.ref a1)] [])) _
    refine XS.aloadN X0.here hx rfl (hb hby d5_0) rfl rfl ?_
    show Steps p.tables e below (s₁.setTop (mkF m 1 #[.val (.ref a1)] [(.ref a1)])) _
    refine st101 _ ?_
    show Steps p.tables e below (T101.setTop (mkF m 4 #[.val (.ref a1)] [(.int w1)])) _
    exact retI X101 hx Bd.returns (hb hby d5_4) hr
  · show Q5 Z a1 w1 h0 n0 _ T101.heap _
    rw [e101]
    exact ⟨rfl, N0, rfl⟩
theorem d6_0 : decode prog_15_method_4_code 0 = .ok (.aload_n 0, 1) := by decide +kernel
theorem d6_1 : decode prog_15_method_4_code 1 = .ok (.getfield 16, 3) := by decide +kernel
theorem d6_4 : decode prog_15_method_4_code 4 = .ok (.ireturn, 1) := by decide +kernel
theorem ef_6 (m : MethodId) (a1 : Addr) : entryFrame m #[(.ref a1)] 1 = mkF m 0 #[.val (.ref a1)] [] := by first | (simp [entryFrame, mkF, argsToLocals, Value.category]; done) | rfl
def Q6 (Z : State) (a1 : Addr) (w1 : Int32) (h0 : Heap) (n0 : Nat) (v : Option Value) (h : Heap) (L : List Loc) : Prop := v = some (.int w1) ∧ Fr n0 L ∧ h = h0
set_option maxRecDepth 65536 in
set_option maxHeartbeats 40000000 in
theorem rm6 (l : Launch) (Z : State) (a0 : Array Value) (hw : ∀ d ∈ tables_1, d.before a0 Z = true) (ws : List Jvm.Cond) (a1 : Addr) (w1 : Int32) (h0 : Heap) (n0 : Nat) (Z0 : n0 ≤ h0.size) (H0 : Fld Z h0 a1 "com/example/enclav/enclav/device/TaChanges" "deleted" "I" (.int w1)) :
    MetFree l (⟨"com/example/enclav/enclav/device/TaChanges", "deleted", "()I"⟩ : MethodName) (head1 (Jvm.Cond.code (⟨"com/example/enclav/enclav/device/TaChanges", "deleted", "()I"⟩ : MethodName) prog_15_method_4_code 1 (some .int) :: ws) ({ frames := 0, cells := 0, slots := 0, locals := 0 } : Room)) (fun a U => a = #[(.ref a1)] ∧ Z.Warmed39 U.vm ∧ U.heap = h0) (fun _ _ _ _ _ => True) (fun _ U o U' => ∃ v L, o = .returned v ∧ Q6 Z a1 w1 h0 n0 v U'.heap L ∧ FrameEnd U o U' L ({ frames := 0, cells := 0, slots := 0, locals := 0 } : Room).cells ({ frames := 0, cells := 0, slots := 0, locals := 0 } : Room).slots) := by
  refine MetFree.of_bodySF (plainFor_of_name pn_com_example_enclav_enclav_device_TaChanges) hisR ?_
  intro p e s m args below meth c s₁ Bd hml0 hP hK
  obtain ⟨rfl, hZ, hh⟩ := hP
  have hx := Bd.exec
  have hby := Bd.bytes
  have hml : c.maxLocals = 1 := hml0
  have hown : s.vm.findClass "com/example/enclav/enclav/device/TaChanges" = some m.cls := findClass_of_methodNamed Bd.named
  have hnm := (name_of_methodNamed Bd.named Bd.method).1
  have X0 : Stand p l e ({ frames := 0, cells := 0, slots := 0, locals := 0 } : Room) s m #[(.ref a1)] below meth c s₁ [] 0 0 := Stand.of_body Bd
  have e0 : s₁.heap = h0 := by rw [← hh, Bd.state]; rfl
  have N0 := Fr.nil n0
  have pre0 : ∀ t, Steps p.tables e below (s₁.setTop (mkF m 0 #[.val (.ref a1)] [])) t → Steps p.tables e below (s₁.setTop (entryFrame m #[(.ref a1)] 1)) t := fun t k => castTop (ef_6 m a1) k
  obtain ⟨T101, X101, e101, st101⟩ := getF X0 hx hZ hown (host := "") (Or.inl (hw _ (List.mem_of_getElem? (i := 14) rfl))) Via.refl e0 H0 (g := (mkF m 1 #[.val (.ref a1)] [(.ref a1)])) rfl rfl (hb hby d6_1)
  obtain ⟨fs, hr, hrun, hended, hW, hsame⟩ := X101.leave (v := some (.int w1)) (fun h => by rw [Bd.returns] at h; cases h)
  refine ⟨_, _, pre0 _ ?_, hrun, hended, _, _, rfl, ?_, ⟨_, rfl⟩, hW, hsame.mono (by decide) (by decide)⟩
  · skip
    show Steps p.tables e below (s₁.setTop (mkF m 0 #[.val (.ref a1)] [])) _
    refine XS.aloadN X0.here hx rfl (hb hby d6_0) rfl rfl ?_
    show Steps p.tables e below (s₁.setTop (mkF m 1 #[.val (.ref a1)] [(.ref a1)])) _
    refine st101 _ ?_
    show Steps p.tables e below (T101.setTop (mkF m 4 #[.val (.ref a1)] [(.int w1)])) _
    exact retI X101 hx Bd.returns (hb hby d6_4) hr
  · show Q6 Z a1 w1 h0 n0 _ T101.heap _
    rw [e101]
    exact ⟨rfl, N0, rfl⟩
theorem pd_1 : parseMethodDescriptor "(Lcom/example/enclav/enclav/device/TaChanges;)Lcom/example/enclav/enclav/device/TaChanges;" = some ⟨[(.object "com/example/enclav/enclav/device/TaChanges")], some (.object "com/example/enclav/enclav/device/TaChanges")⟩ := by decide +kernel
theorem pd_2 : parseMethodDescriptor "()I" = some ⟨[], some .int⟩ := by decide +kernel
theorem pn_com_example_enclav_enclav_device_TaChangesPlusPinLaw : plainName "com/example/enclav/enclav/device/TaChangesPlusPinLaw" = true := by first | (simp [plainName, overriddenIn]; done) | decide +kernel
theorem ef_0 (m : MethodId) (p1 : Int32) (p2 : Int32) (p3 : Int32) (p4 : Int32) (p5 : Int32) (p6 : Int32) : entryFrame m #[(.int p1), (.int p2), (.int p3), (.int p4), (.int p5), (.int p6)] maxLocals = mkF m 0 #[.val (.int p1), .val (.int p2), .val (.int p3), .val (.int p4), .val (.int p5), .val (.int p6), .unset, .unset, .unset, .unset, .unset, .unset, .unset, .unset, .unset] [] := by first | (simp [entryFrame, mkF, argsToLocals, Value.category, maxLocals]; done) | rfl
def Q0 (Z : State) (p1 : Int32) (p2 : Int32) (p3 : Int32) (p4 : Int32) (p5 : Int32) (p6 : Int32) (h0 : Heap) (n0 : Nat) (v : Option Value) (h : Heap) (L : List Loc) : Prop := v = some (.int (1 : Int32)) ∧ Fr n0 L
set_option maxRecDepth 65536 in
set_option maxHeartbeats 40000000 in
theorem rm0 (l : Launch) (Z : State) (a0 : Array Value) (hw : ∀ d ∈ tables_1, d.before a0 Z = true) (ws : List Jvm.Cond) (p1 : Int32) (p2 : Int32) (p3 : Int32) (p4 : Int32) (p5 : Int32) (p6 : Int32) (h0 : Heap) (n0 : Nat) (Z0 : n0 ≤ h0.size) :
    MetFree l x (head1 (Jvm.Cond.code x code maxLocals ret :: ws) room_1) (fun a U => a = #[(.int p1), (.int p2), (.int p3), (.int p4), (.int p5), (.int p6)] ∧ Z.Warmed39 U.vm ∧ U.heap = h0) (fun _ _ _ _ _ => True) (fun _ U o U' => ∃ v L, o = .returned v ∧ Q0 Z p1 p2 p3 p4 p5 p6 h0 n0 v U'.heap L ∧ FrameEnd U o U' L room_1.cells room_1.slots) := by
  refine MetFree.of_bodySF (plainFor_of_name pn_com_example_enclav_enclav_device_TaChangesPlusPinLaw) hisR ?_
  intro p e s m args below meth c s₁ Bd hml0 hP hK
  obtain ⟨rfl, hZ, hh⟩ := hP
  have hx := Bd.exec
  have hby := Bd.bytes
  have hml : c.maxLocals = 15 := hml0
  have hown : s.vm.findClass "com/example/enclav/enclav/device/TaChangesPlusPinLaw" = some m.cls := findClass_of_methodNamed Bd.named
  have hnm := (name_of_methodNamed Bd.named Bd.method).1
  have X0 : Stand p l e room_1 s m #[(.int p1), (.int p2), (.int p3), (.int p4), (.int p5), (.int p6)] below meth c s₁ [] 0 0 := Stand.of_body Bd
  have e0 : s₁.heap = h0 := by rw [← hh, Bd.state]; rfl
  have N0 := Fr.nil n0
  have pre0 : ∀ t, Steps p.tables e below (s₁.setTop (mkF m 0 #[.val (.int p1), .val (.int p2), .val (.int p3), .val (.int p4), .val (.int p5), .val (.int p6), .unset, .unset, .unset, .unset, .unset, .unset, .unset, .unset, .unset] [])) t → Steps p.tables e below (s₁.setTop (entryFrame m #[(.int p1), (.int p2), (.int p3), (.int p4), (.int p5), (.int p6)] maxLocals)) t := fun t k => castTop (ef_0 m p1 p2 p3 p4 p5 p6) k
  obtain ⟨T101, h101, X101, e101, E101, A101, D101, -, st101⟩ := newO X0 hx hZ hown (hw _ (List.mem_of_getElem? (i := 1) rfl)) (hw _ (List.mem_of_getElem? (i := 2) rfl)) (hw _ (List.mem_of_getElem? (i := 3) rfl)) e0 (g := (mkF m 38 #[.val (.int p1), .val (.int p2), .val (.int p3), .val (.int p4), .val (.int p5), .val (.int p6), .val (.int (p1 &&& (1073741823 : Int32))), .val (.int (p2 &&& (1073741823 : Int32))), .val (.int (p3 &&& (1073741823 : Int32))), .val (.int (p4 &&& (1073741823 : Int32))), .val (.int (p5 &&& (1073741823 : Int32))), .val (.int (p6 &&& (1073741823 : Int32))), .unset, .unset, .unset] [])) rfl (hb hby at_38) (by decide) (by decide)
  obtain ⟨b101, g101⟩ : ∃ z, z = h0.size := ⟨_, rfl⟩
  rw [← g101] at A101 D101 st101
  have F102 : Fld Z h101 b101 "com/example/enclav/enclav/device/TaChanges" "installed" "I" (.int (0 : Int32)) := D101 (Or.inr (hw _ (List.mem_of_getElem? (i := 11) rfl))) (ty := .int) (by decide)
  have F103 : Fld Z h101 b101 "com/example/enclav/enclav/device/TaChanges" "updated" "I" (.int (0 : Int32)) := D101 (Or.inr (hw _ (List.mem_of_getElem? (i := 13) rfl))) (ty := .int) (by decide)
  have F104 : Fld Z h101 b101 "com/example/enclav/enclav/device/TaChanges" "deleted" "I" (.int (0 : Int32)) := D101 (Or.inr (hw _ (List.mem_of_getElem? (i := 15) rfl))) (ty := .int) (by decide)
  have g105 : n0 ≤ b101 := Nat.le_trans Z0 (Nat.le_of_eq g101.symm)
  have z107 : n0 ≤ h101.size := (Nat.le_trans Z0 E101.1)
  obtain ⟨_, _, ⟨T106, L106, k106, n106⟩, -, X106, ⟨Lc106, hQ106, l106, y106, z106⟩, st106⟩ := X101.specialBack hx (y := (⟨"com/example/enclav/enclav/device/TaChanges", "<init>", "(III)V"⟩ : MethodName)) rfl hown (mvT hZ (hw _ (List.mem_of_getElem? (i := 4) rfl))) (mvT hZ (hw _ (List.mem_of_getElem? (i := 5) rfl))) (mvT hZ (hw _ (List.mem_of_getElem? (i := 6) rfl))) (by decide) (backOf (W := 1) (rm1 l Z a0 hw [] b101 (p1 &&& (1073741823 : Int32)) (p2 &&& (1073741823 : Int32)) (p3 &&& (1073741823 : Int32)) (.int (0 : Int32)) (.int (0 : Int32)) (.int (0 : Int32)) h101 n0 z107 A101 F102 F103 F104 g105) hZ (hw _ (List.mem_of_getElem? (i := 6) rfl)) (hw _ (List.mem_of_getElem? (i := 3) rfl)) (by decide) (by decide)) (g := (mkF m 48 #[.val (.int p1), .val (.int p2), .val (.int p3), .val (.int p4), .val (.int p5), .val (.int p6), .val (.int (p1 &&& (1073741823 : Int32))), .val (.int (p2 &&& (1073741823 : Int32))), .val (.int (p3 &&& (1073741823 : Int32))), .val (.int (p4 &&& (1073741823 : Int32))), .val (.int (p5 &&& (1073741823 : Int32))), .val (.int (p6 &&& (1073741823 : Int32))), .unset, .unset, .unset] [(.int (p3 &&& (1073741823 : Int32))), (.int (p2 &&& (1073741823 : Int32))), (.int (p1 &&& (1073741823 : Int32))), (.ref b101), (.ref b101)])) rfl (by rw [hml]; rfl) (Steps.refl _) (a := b101) (argsL := [(.int (p1 &&& (1073741823 : Int32))), (.int (p2 &&& (1073741823 : Int32))), (.int (p3 &&& (1073741823 : Int32)))]) (rest := [(.ref b101)]) (lenOf pd_0 rfl) rfl (by show 2 * 0 + _ ≤ _; exact Nat.le_of_eq rfl) (hb hby at_48) (fun _ _ => ⟨rfl, e101, (by decide : 1 + 0 ≤ _), (by decide : 3 + 0 ≤ _)⟩)
  dsimp only [Pt.U, Pt.locs, Pt.cells, Pt.slots] at X106 l106 y106 z106 st106 hQ106
  subst l106 y106 z106
  obtain ⟨rfl, Nq106, K106, R106_1, R106_2, R106_3⟩ := hQ106
  have N106 := Fr.app N0 Nq106
  obtain ⟨T108, h108, X108, e108, E108, A108, D108, -, st108⟩ := newO X106 hx hZ hown (hw _ (List.mem_of_getElem? (i := 1) rfl)) (hw _ (List.mem_of_getElem? (i := 2) rfl)) (hw _ (List.mem_of_getElem? (i := 3) rfl)) rfl (g := (mkF m 53 #[.val (.int p1), .val (.int p2), .val (.int p3), .val (.int p4), .val (.int p5), .val (.int p6), .val (.int (p1 &&& (1073741823 : Int32))), .val (.int (p2 &&& (1073741823 : Int32))), .val (.int (p3 &&& (1073741823 : Int32))), .val (.int (p4 &&& (1073741823 : Int32))), .val (.int (p5 &&& (1073741823 : Int32))), .val (.int (p6 &&& (1073741823 : Int32))), .val (.ref b101), .unset, .unset] [])) rfl (hb hby at_53) (by decide) (by decide)
  obtain ⟨b108, g108⟩ : ∃ z, z = T106.heap.size := ⟨_, rfl⟩
  rw [← g108] at A108 D108 st108
  have F109 : Fld Z h108 b108 "com/example/enclav/enclav/device/TaChanges" "installed" "I" (.int (0 : Int32)) := D108 (Or.inr (hw _ (List.mem_of_getElem? (i := 11) rfl))) (ty := .int) (by decide)
  have F110 : Fld Z h108 b108 "com/example/enclav/enclav/device/TaChanges" "updated" "I" (.int (0 : Int32)) := D108 (Or.inr (hw _ (List.mem_of_getElem? (i := 13) rfl))) (ty := .int) (by decide)
  have F111 : Fld Z h108 b108 "com/example/enclav/enclav/device/TaChanges" "deleted" "I" (.int (0 : Int32)) := D108 (Or.inr (hw _ (List.mem_of_getElem? (i := 15) rfl))) (ty := .int) (by decide)
  have g112 : n0 ≤ b108 := Nat.le_trans (Nat.le_trans z107 K106.1) (Nat.le_of_eq g108.symm)
  have z114 : n0 ≤ h108.size := (Nat.le_trans (Nat.le_trans z107 K106.1) E108.1)
  obtain ⟨_, _, ⟨T113, L113, k113, n113⟩, -, X113, ⟨Lc113, hQ113, l113, y113, z113⟩, st113⟩ := X108.specialBack hx (y := (⟨"com/example/enclav/enclav/device/TaChanges", "<init>", "(III)V"⟩ : MethodName)) rfl hown (mvT hZ (hw _ (List.mem_of_getElem? (i := 4) rfl))) (mvT hZ (hw _ (List.mem_of_getElem? (i := 5) rfl))) (mvT hZ (hw _ (List.mem_of_getElem? (i := 6) rfl))) (by decide) (backOf (W := 1) (rm1 l Z a0 hw [] b108 (p4 &&& (1073741823 : Int32)) (p5 &&& (1073741823 : Int32)) (p6 &&& (1073741823 : Int32)) (.int (0 : Int32)) (.int (0 : Int32)) (.int (0 : Int32)) h108 n0 z114 A108 F109 F110 F111 g112) hZ (hw _ (List.mem_of_getElem? (i := 6) rfl)) (hw _ (List.mem_of_getElem? (i := 3) rfl)) (by decide) (by decide)) (g := (mkF m 63 #[.val (.int p1), .val (.int p2), .val (.int p3), .val (.int p4), .val (.int p5), .val (.int p6), .val (.int (p1 &&& (1073741823 : Int32))), .val (.int (p2 &&& (1073741823 : Int32))), .val (.int (p3 &&& (1073741823 : Int32))), .val (.int (p4 &&& (1073741823 : Int32))), .val (.int (p5 &&& (1073741823 : Int32))), .val (.int (p6 &&& (1073741823 : Int32))), .val (.ref b101), .unset, .unset] [(.int (p6 &&& (1073741823 : Int32))), (.int (p5 &&& (1073741823 : Int32))), (.int (p4 &&& (1073741823 : Int32))), (.ref b108), (.ref b108)])) rfl (by rw [hml]; rfl) (Steps.refl _) (a := b108) (argsL := [(.int (p4 &&& (1073741823 : Int32))), (.int (p5 &&& (1073741823 : Int32))), (.int (p6 &&& (1073741823 : Int32)))]) (rest := [(.ref b108)]) (lenOf pd_0 rfl) rfl (by show 2 * 0 + _ ≤ _; exact Nat.le_of_eq rfl) (hb hby at_63) (fun _ _ => ⟨rfl, e108, (by decide : 2 + 0 ≤ _), (by decide : 6 + 0 ≤ _)⟩)
  dsimp only [Pt.U, Pt.locs, Pt.cells, Pt.slots] at X113 l113 y113 z113 st113 hQ113
  subst l113 y113 z113
  obtain ⟨rfl, Nq113, K113, R113_1, R113_2, R113_3⟩ := hQ113
  have N113 := Fr.app N106 Nq113
  have ne115 : b101 ≠ b108 := (Nat.ne_of_lt (Nat.lt_of_lt_of_le (A101.keep K106).lt (Nat.le_of_eq g108.symm)))
  have f116 : Fld Z T113.heap b101 "com/example/enclav/enclav/device/TaChanges" "installed" "I" (.int (p1 &&& (1073741823 : Int32))) := ((R106_1.ext E108).keep K113 (ninS ne115 nin0))
  have f117 : Fld Z T113.heap b101 "com/example/enclav/enclav/device/TaChanges" "updated" "I" (.int (p2 &&& (1073741823 : Int32))) := ((R106_2.ext E108).keep K113 (ninS ne115 nin0))
  have f118 : Fld Z T113.heap b101 "com/example/enclav/enclav/device/TaChanges" "deleted" "I" (.int (p3 &&& (1073741823 : Int32))) := ((R106_3.ext E108).keep K113 (ninS ne115 nin0))
  have z120 : n0 ≤ T113.heap.size := (Nat.le_trans z114 K113.1)
  have f121 : Exa Z T113.heap b101 "com/example/enclav/enclav/device/TaChanges" := (((A101.keep K106).ext E108).keep K113)
  obtain ⟨cq119, kq119, q119a, q119b, q119c⟩ := isOf hZ rfl f121
  obtain ⟨_, _, ⟨T119, L119, k119, n119⟩, -, X119, ⟨Lc119, hQ119, l119, y119, z119⟩, st119⟩ := X113.virtualBack hx (y := (⟨"com/example/enclav/enclav/device/TaChanges", "plus", "(Lcom/example/enclav/enclav/device/TaChanges;)Lcom/example/enclav/enclav/device/TaChanges;"⟩ : MethodName)) (z := (⟨"com/example/enclav/enclav/device/TaChanges", "plus", "(Lcom/example/enclav/enclav/device/TaChanges;)Lcom/example/enclav/enclav/device/TaChanges;"⟩ : MethodName)) hown (mvT hZ (hw _ (List.mem_of_getElem? (i := 16) rfl))) (mvT hZ (hw _ (List.mem_of_getElem? (i := 17) rfl))) (notFace_of_selects (args := #[]) (mvT hZ (hw _ (List.mem_of_getElem? (i := 19) rfl)))) (mvT hZ (hw _ (List.mem_of_getElem? (i := 19) rfl))) (mvT hZ (hw _ (List.mem_of_getElem? (i := 18) rfl))) (by decide) (backOf (W := 0) (rm3 l Z a0 hw [] b101 b108 (p1 &&& (1073741823 : Int32)) (p2 &&& (1073741823 : Int32)) (p3 &&& (1073741823 : Int32)) (p4 &&& (1073741823 : Int32)) (p5 &&& (1073741823 : Int32)) (p6 &&& (1073741823 : Int32)) T113.heap n0 z120 f116 f117 f118 R113_1 R113_2 R113_3) hZ (hw _ (List.mem_of_getElem? (i := 20) rfl)) (hw _ (List.mem_of_getElem? (i := 3) rfl)) (by decide) (by decide)) q119a q119c (g := (mkF m 72 #[.val (.int p1), .val (.int p2), .val (.int p3), .val (.int p4), .val (.int p5), .val (.int p6), .val (.int (p1 &&& (1073741823 : Int32))), .val (.int (p2 &&& (1073741823 : Int32))), .val (.int (p3 &&& (1073741823 : Int32))), .val (.int (p4 &&& (1073741823 : Int32))), .val (.int (p5 &&& (1073741823 : Int32))), .val (.int (p6 &&& (1073741823 : Int32))), .val (.ref b101), .val (.ref b108), .unset] [(.ref b108), (.ref b101)])) rfl (by rw [hml]; rfl) (Steps.refl _) (argsL := [(.ref b108)]) (rest := []) (lenOf pd_1 rfl) rfl (by show 2 * 0 + _ ≤ _; exact Nat.le_of_eq rfl) (hb hby at_72) (fun _ _ => ⟨rfl, rfl, (by decide : 2 + 1 ≤ _), (by decide : 6 + 3 ≤ _)⟩)
  dsimp only [Pt.U, Pt.locs, Pt.cells, Pt.slots] at X119 l119 y119 z119 st119 hQ119
  subst l119 y119 z119
  obtain ⟨b119, rfl, Nq119, K119, R119_1, R119_2, R119_3, R119_4, R119_5⟩ := hQ119
  have N119 := Fr.app N113 Nq119
  have z123 : n0 ≤ T119.heap.size := (Nat.le_trans z120 K119.1)
  obtain ⟨cq122, kq122, q122a, q122b, q122c⟩ := isOf hZ rfl R119_2
  obtain ⟨_, _, ⟨T122, L122, k122, n122⟩, -, X122, ⟨Lc122, hQ122, l122, y122, z122⟩, st122⟩ := X119.virtualBack hx (y := (⟨"com/example/enclav/enclav/device/TaChanges", "installed", "()I"⟩ : MethodName)) (z := (⟨"com/example/enclav/enclav/device/TaChanges", "installed", "()I"⟩ : MethodName)) hown (mvT hZ (hw _ (List.mem_of_getElem? (i := 23) rfl))) (mvT hZ (hw _ (List.mem_of_getElem? (i := 24) rfl))) (notFace_of_selects (args := #[]) (mvT hZ (hw _ (List.mem_of_getElem? (i := 26) rfl)))) (mvT hZ (hw _ (List.mem_of_getElem? (i := 26) rfl))) (mvT hZ (hw _ (List.mem_of_getElem? (i := 25) rfl))) (by decide) (backOf (W := 0) (rm4 l Z a0 hw [] b119 ((p1 &&& (1073741823 : Int32)) + (p4 &&& (1073741823 : Int32))) T119.heap n0 z123 R119_3) hZ (hw _ (List.mem_of_getElem? (i := 27) rfl)) (hw _ (List.mem_of_getElem? (i := 3) rfl)) (by decide) (by decide)) q122a q122c (g := (mkF m 79 #[.val (.int p1), .val (.int p2), .val (.int p3), .val (.int p4), .val (.int p5), .val (.int p6), .val (.int (p1 &&& (1073741823 : Int32))), .val (.int (p2 &&& (1073741823 : Int32))), .val (.int (p3 &&& (1073741823 : Int32))), .val (.int (p4 &&& (1073741823 : Int32))), .val (.int (p5 &&& (1073741823 : Int32))), .val (.int (p6 &&& (1073741823 : Int32))), .val (.ref b101), .val (.ref b108), .val (.ref b119)] [(.ref b119)])) rfl (by rw [hml]; rfl) (Steps.refl _) (argsL := []) (rest := []) (lenOf pd_2 rfl) rfl (by show 2 * 0 + _ ≤ _; exact Nat.le_of_eq rfl) (hb hby at_79) (fun _ _ => ⟨rfl, rfl, (by decide : 3 + 0 ≤ _), (by decide : 9 + 0 ≤ _)⟩)
  dsimp only [Pt.U, Pt.locs, Pt.cells, Pt.slots] at X122 l122 y122 z122 st122 hQ122
  subst l122 y122 z122
  obtain ⟨rfl, Nq122, Heq122⟩ := hQ122
  have N122 := Fr.app N119 Nq122
  obtain ⟨cq124, kq124, q124a, q124b, q124c⟩ := isOf hZ Heq122 R119_2
  obtain ⟨_, _, ⟨T124, L124, k124, n124⟩, -, X124, ⟨Lc124, hQ124, l124, y124, z124⟩, st124⟩ := X122.virtualBack hx (y := (⟨"com/example/enclav/enclav/device/TaChanges", "updated", "()I"⟩ : MethodName)) (z := (⟨"com/example/enclav/enclav/device/TaChanges", "updated", "()I"⟩ : MethodName)) hown (mvT hZ (hw _ (List.mem_of_getElem? (i := 28) rfl))) (mvT hZ (hw _ (List.mem_of_getElem? (i := 29) rfl))) (notFace_of_selects (args := #[]) (mvT hZ (hw _ (List.mem_of_getElem? (i := 31) rfl)))) (mvT hZ (hw _ (List.mem_of_getElem? (i := 31) rfl))) (mvT hZ (hw _ (List.mem_of_getElem? (i := 30) rfl))) (by decide) (backOf (W := 0) (rm5 l Z a0 hw [] b119 ((p2 &&& (1073741823 : Int32)) + (p5 &&& (1073741823 : Int32))) T119.heap n0 z123 R119_4) hZ (hw _ (List.mem_of_getElem? (i := 32) rfl)) (hw _ (List.mem_of_getElem? (i := 3) rfl)) (by decide) (by decide)) q124a q124c (g := (mkF m 92 #[.val (.int p1), .val (.int p2), .val (.int p3), .val (.int p4), .val (.int p5), .val (.int p6), .val (.int (p1 &&& (1073741823 : Int32))), .val (.int (p2 &&& (1073741823 : Int32))), .val (.int (p3 &&& (1073741823 : Int32))), .val (.int (p4 &&& (1073741823 : Int32))), .val (.int (p5 &&& (1073741823 : Int32))), .val (.int (p6 &&& (1073741823 : Int32))), .val (.ref b101), .val (.ref b108), .val (.ref b119)] [(.ref b119)])) rfl (by rw [hml]; rfl) (Steps.refl _) (argsL := []) (rest := []) (lenOf pd_2 rfl) rfl (by show 2 * 0 + _ ≤ _; exact Nat.le_of_eq rfl) (hb hby at_92) (fun _ _ => ⟨rfl, Heq122, (by decide : 3 + 0 ≤ _), (by decide : 9 + 0 ≤ _)⟩)
  dsimp only [Pt.U, Pt.locs, Pt.cells, Pt.slots] at X124 l124 y124 z124 st124 hQ124
  subst l124 y124 z124
  obtain ⟨rfl, Nq124, Heq124⟩ := hQ124
  have N124 := Fr.app N122 Nq124
  obtain ⟨cq125, kq125, q125a, q125b, q125c⟩ := isOf hZ Heq124 R119_2
  obtain ⟨_, _, ⟨T125, L125, k125, n125⟩, -, X125, ⟨Lc125, hQ125, l125, y125, z125⟩, st125⟩ := X124.virtualBack hx (y := (⟨"com/example/enclav/enclav/device/TaChanges", "deleted", "()I"⟩ : MethodName)) (z := (⟨"com/example/enclav/enclav/device/TaChanges", "deleted", "()I"⟩ : MethodName)) hown (mvT hZ (hw _ (List.mem_of_getElem? (i := 33) rfl))) (mvT hZ (hw _ (List.mem_of_getElem? (i := 34) rfl))) (notFace_of_selects (args := #[]) (mvT hZ (hw _ (List.mem_of_getElem? (i := 36) rfl)))) (mvT hZ (hw _ (List.mem_of_getElem? (i := 36) rfl))) (mvT hZ (hw _ (List.mem_of_getElem? (i := 35) rfl))) (by decide) (backOf (W := 0) (rm6 l Z a0 hw [] b119 ((p3 &&& (1073741823 : Int32)) + (p6 &&& (1073741823 : Int32))) T119.heap n0 z123 R119_5) hZ (hw _ (List.mem_of_getElem? (i := 37) rfl)) (hw _ (List.mem_of_getElem? (i := 3) rfl)) (by decide) (by decide)) q125a q125c (g := (mkF m 105 #[.val (.int p1), .val (.int p2), .val (.int p3), .val (.int p4), .val (.int p5), .val (.int p6), .val (.int (p1 &&& (1073741823 : Int32))), .val (.int (p2 &&& (1073741823 : Int32))), .val (.int (p3 &&& (1073741823 : Int32))), .val (.int (p4 &&& (1073741823 : Int32))), .val (.int (p5 &&& (1073741823 : Int32))), .val (.int (p6 &&& (1073741823 : Int32))), .val (.ref b101), .val (.ref b108), .val (.ref b119)] [(.ref b119)])) rfl (by rw [hml]; rfl) (Steps.refl _) (argsL := []) (rest := []) (lenOf pd_2 rfl) rfl (by show 2 * 0 + _ ≤ _; exact Nat.le_of_eq rfl) (hb hby at_105) (fun _ _ => ⟨rfl, Heq124, (by decide : 3 + 0 ≤ _), (by decide : 9 + 0 ≤ _)⟩)
  dsimp only [Pt.U, Pt.locs, Pt.cells, Pt.slots] at X125 l125 y125 z125 st125 hQ125
  subst l125 y125 z125
  obtain ⟨rfl, Nq125, Heq125⟩ := hQ125
  have N125 := Fr.app N124 Nq125
  obtain ⟨fs, hr, hrun, hended, hW, hsame⟩ := X125.leave (v := some (.int (1 : Int32))) (fun h => by rw [Bd.returns] at h; cases h)
  refine ⟨_, _, pre0 _ ?_, hrun, hended, _, _, rfl, ?_, ⟨_, rfl⟩, hW, hsame.mono (by decide) (by decide)⟩
  · skip
    show Steps p.tables e below (s₁.setTop (mkF m 0 #[.val (.int p1), .val (.int p2), .val (.int p3), .val (.int p4), .val (.int p5), .val (.int p6), .unset, .unset, .unset, .unset, .unset, .unset, .unset, .unset, .unset] [])) _
    refine XS.iloadN X0.here hx rfl (hb hby at_0) rfl ?_
    show Steps p.tables e below (s₁.setTop (mkF m 1 #[.val (.int p1), .val (.int p2), .val (.int p3), .val (.int p4), .val (.int p5), .val (.int p6), .unset, .unset, .unset, .unset, .unset, .unset, .unset, .unset, .unset] [(.int p1)])) _
    refine X0.ldcInt hx hown (mvT hZ (hw _ (List.mem_of_getElem? (i := 0) rfl))) (g := (mkF m 1 #[.val (.int p1), .val (.int p2), .val (.int p3), .val (.int p4), .val (.int p5), .val (.int p6), .unset, .unset, .unset, .unset, .unset, .unset, .unset, .unset, .unset] [(.int p1)])) rfl (hb hby at_1) _ ?_
    show Steps p.tables e below (s₁.setTop (mkF m 3 #[.val (.int p1), .val (.int p2), .val (.int p3), .val (.int p4), .val (.int p5), .val (.int p6), .unset, .unset, .unset, .unset, .unset, .unset, .unset, .unset, .unset] [(.int (1073741823 : Int32)), (.int p1)])) _
    refine XS.iand X0.here hx rfl (hb hby at_3) rfl ?_
    show Steps p.tables e below (s₁.setTop (mkF m 4 #[.val (.int p1), .val (.int p2), .val (.int p3), .val (.int p4), .val (.int p5), .val (.int p6), .unset, .unset, .unset, .unset, .unset, .unset, .unset, .unset, .unset] [(.int (p1 &&& (1073741823 : Int32)))])) _
    refine XS.istore X0.here hx rfl (hb hby at_4) rfl (l' := #[.val (.int p1), .val (.int p2), .val (.int p3), .val (.int p4), .val (.int p5), .val (.int p6), .val (.int (p1 &&& (1073741823 : Int32))), .unset, .unset, .unset, .unset, .unset, .unset, .unset, .unset]) rfl ?_
    show Steps p.tables e below (s₁.setTop (mkF m 6 #[.val (.int p1), .val (.int p2), .val (.int p3), .val (.int p4), .val (.int p5), .val (.int p6), .val (.int (p1 &&& (1073741823 : Int32))), .unset, .unset, .unset, .unset, .unset, .unset, .unset, .unset] [])) _
    refine XS.iloadN X0.here hx rfl (hb hby at_6) rfl ?_
    show Steps p.tables e below (s₁.setTop (mkF m 7 #[.val (.int p1), .val (.int p2), .val (.int p3), .val (.int p4), .val (.int p5), .val (.int p6), .val (.int (p1 &&& (1073741823 : Int32))), .unset, .unset, .unset, .unset, .unset, .unset, .unset, .unset] [(.int p2)])) _
    refine X0.ldcInt hx hown (mvT hZ (hw _ (List.mem_of_getElem? (i := 0) rfl))) (g := (mkF m 7 #[.val (.int p1), .val (.int p2), .val (.int p3), .val (.int p4), .val (.int p5), .val (.int p6), .val (.int (p1 &&& (1073741823 : Int32))), .unset, .unset, .unset, .unset, .unset, .unset, .unset, .unset] [(.int p2)])) rfl (hb hby at_7) _ ?_
    show Steps p.tables e below (s₁.setTop (mkF m 9 #[.val (.int p1), .val (.int p2), .val (.int p3), .val (.int p4), .val (.int p5), .val (.int p6), .val (.int (p1 &&& (1073741823 : Int32))), .unset, .unset, .unset, .unset, .unset, .unset, .unset, .unset] [(.int (1073741823 : Int32)), (.int p2)])) _
    refine XS.iand X0.here hx rfl (hb hby at_9) rfl ?_
    show Steps p.tables e below (s₁.setTop (mkF m 10 #[.val (.int p1), .val (.int p2), .val (.int p3), .val (.int p4), .val (.int p5), .val (.int p6), .val (.int (p1 &&& (1073741823 : Int32))), .unset, .unset, .unset, .unset, .unset, .unset, .unset, .unset] [(.int (p2 &&& (1073741823 : Int32)))])) _
    refine XS.istore X0.here hx rfl (hb hby at_10) rfl (l' := #[.val (.int p1), .val (.int p2), .val (.int p3), .val (.int p4), .val (.int p5), .val (.int p6), .val (.int (p1 &&& (1073741823 : Int32))), .val (.int (p2 &&& (1073741823 : Int32))), .unset, .unset, .unset, .unset, .unset, .unset, .unset]) rfl ?_
    show Steps p.tables e below (s₁.setTop (mkF m 12 #[.val (.int p1), .val (.int p2), .val (.int p3), .val (.int p4), .val (.int p5), .val (.int p6), .val (.int (p1 &&& (1073741823 : Int32))), .val (.int (p2 &&& (1073741823 : Int32))), .unset, .unset, .unset, .unset, .unset, .unset, .unset] [])) _
    refine XS.iloadN X0.here hx rfl (hb hby at_12) rfl ?_
    show Steps p.tables e below (s₁.setTop (mkF m 13 #[.val (.int p1), .val (.int p2), .val (.int p3), .val (.int p4), .val (.int p5), .val (.int p6), .val (.int (p1 &&& (1073741823 : Int32))), .val (.int (p2 &&& (1073741823 : Int32))), .unset, .unset, .unset, .unset, .unset, .unset, .unset] [(.int p3)])) _
    refine X0.ldcInt hx hown (mvT hZ (hw _ (List.mem_of_getElem? (i := 0) rfl))) (g := (mkF m 13 #[.val (.int p1), .val (.int p2), .val (.int p3), .val (.int p4), .val (.int p5), .val (.int p6), .val (.int (p1 &&& (1073741823 : Int32))), .val (.int (p2 &&& (1073741823 : Int32))), .unset, .unset, .unset, .unset, .unset, .unset, .unset] [(.int p3)])) rfl (hb hby at_13) _ ?_
    show Steps p.tables e below (s₁.setTop (mkF m 15 #[.val (.int p1), .val (.int p2), .val (.int p3), .val (.int p4), .val (.int p5), .val (.int p6), .val (.int (p1 &&& (1073741823 : Int32))), .val (.int (p2 &&& (1073741823 : Int32))), .unset, .unset, .unset, .unset, .unset, .unset, .unset] [(.int (1073741823 : Int32)), (.int p3)])) _
    refine XS.iand X0.here hx rfl (hb hby at_15) rfl ?_
    show Steps p.tables e below (s₁.setTop (mkF m 16 #[.val (.int p1), .val (.int p2), .val (.int p3), .val (.int p4), .val (.int p5), .val (.int p6), .val (.int (p1 &&& (1073741823 : Int32))), .val (.int (p2 &&& (1073741823 : Int32))), .unset, .unset, .unset, .unset, .unset, .unset, .unset] [(.int (p3 &&& (1073741823 : Int32)))])) _
    refine XS.istore X0.here hx rfl (hb hby at_16) rfl (l' := #[.val (.int p1), .val (.int p2), .val (.int p3), .val (.int p4), .val (.int p5), .val (.int p6), .val (.int (p1 &&& (1073741823 : Int32))), .val (.int (p2 &&& (1073741823 : Int32))), .val (.int (p3 &&& (1073741823 : Int32))), .unset, .unset, .unset, .unset, .unset, .unset]) rfl ?_
    show Steps p.tables e below (s₁.setTop (mkF m 18 #[.val (.int p1), .val (.int p2), .val (.int p3), .val (.int p4), .val (.int p5), .val (.int p6), .val (.int (p1 &&& (1073741823 : Int32))), .val (.int (p2 &&& (1073741823 : Int32))), .val (.int (p3 &&& (1073741823 : Int32))), .unset, .unset, .unset, .unset, .unset, .unset] [])) _
    refine XS.iloadN X0.here hx rfl (hb hby at_18) rfl ?_
    show Steps p.tables e below (s₁.setTop (mkF m 19 #[.val (.int p1), .val (.int p2), .val (.int p3), .val (.int p4), .val (.int p5), .val (.int p6), .val (.int (p1 &&& (1073741823 : Int32))), .val (.int (p2 &&& (1073741823 : Int32))), .val (.int (p3 &&& (1073741823 : Int32))), .unset, .unset, .unset, .unset, .unset, .unset] [(.int p4)])) _
    refine X0.ldcInt hx hown (mvT hZ (hw _ (List.mem_of_getElem? (i := 0) rfl))) (g := (mkF m 19 #[.val (.int p1), .val (.int p2), .val (.int p3), .val (.int p4), .val (.int p5), .val (.int p6), .val (.int (p1 &&& (1073741823 : Int32))), .val (.int (p2 &&& (1073741823 : Int32))), .val (.int (p3 &&& (1073741823 : Int32))), .unset, .unset, .unset, .unset, .unset, .unset] [(.int p4)])) rfl (hb hby at_19) _ ?_
    show Steps p.tables e below (s₁.setTop (mkF m 21 #[.val (.int p1), .val (.int p2), .val (.int p3), .val (.int p4), .val (.int p5), .val (.int p6), .val (.int (p1 &&& (1073741823 : Int32))), .val (.int (p2 &&& (1073741823 : Int32))), .val (.int (p3 &&& (1073741823 : Int32))), .unset, .unset, .unset, .unset, .unset, .unset] [(.int (1073741823 : Int32)), (.int p4)])) _
    refine XS.iand X0.here hx rfl (hb hby at_21) rfl ?_
    show Steps p.tables e below (s₁.setTop (mkF m 22 #[.val (.int p1), .val (.int p2), .val (.int p3), .val (.int p4), .val (.int p5), .val (.int p6), .val (.int (p1 &&& (1073741823 : Int32))), .val (.int (p2 &&& (1073741823 : Int32))), .val (.int (p3 &&& (1073741823 : Int32))), .unset, .unset, .unset, .unset, .unset, .unset] [(.int (p4 &&& (1073741823 : Int32)))])) _
    refine XS.istore X0.here hx rfl (hb hby at_22) rfl (l' := #[.val (.int p1), .val (.int p2), .val (.int p3), .val (.int p4), .val (.int p5), .val (.int p6), .val (.int (p1 &&& (1073741823 : Int32))), .val (.int (p2 &&& (1073741823 : Int32))), .val (.int (p3 &&& (1073741823 : Int32))), .val (.int (p4 &&& (1073741823 : Int32))), .unset, .unset, .unset, .unset, .unset]) rfl ?_
    show Steps p.tables e below (s₁.setTop (mkF m 24 #[.val (.int p1), .val (.int p2), .val (.int p3), .val (.int p4), .val (.int p5), .val (.int p6), .val (.int (p1 &&& (1073741823 : Int32))), .val (.int (p2 &&& (1073741823 : Int32))), .val (.int (p3 &&& (1073741823 : Int32))), .val (.int (p4 &&& (1073741823 : Int32))), .unset, .unset, .unset, .unset, .unset] [])) _
    refine XS.iload X0.here hx rfl (hb hby at_24) rfl ?_
    show Steps p.tables e below (s₁.setTop (mkF m 26 #[.val (.int p1), .val (.int p2), .val (.int p3), .val (.int p4), .val (.int p5), .val (.int p6), .val (.int (p1 &&& (1073741823 : Int32))), .val (.int (p2 &&& (1073741823 : Int32))), .val (.int (p3 &&& (1073741823 : Int32))), .val (.int (p4 &&& (1073741823 : Int32))), .unset, .unset, .unset, .unset, .unset] [(.int p5)])) _
    refine X0.ldcInt hx hown (mvT hZ (hw _ (List.mem_of_getElem? (i := 0) rfl))) (g := (mkF m 26 #[.val (.int p1), .val (.int p2), .val (.int p3), .val (.int p4), .val (.int p5), .val (.int p6), .val (.int (p1 &&& (1073741823 : Int32))), .val (.int (p2 &&& (1073741823 : Int32))), .val (.int (p3 &&& (1073741823 : Int32))), .val (.int (p4 &&& (1073741823 : Int32))), .unset, .unset, .unset, .unset, .unset] [(.int p5)])) rfl (hb hby at_26) _ ?_
    show Steps p.tables e below (s₁.setTop (mkF m 28 #[.val (.int p1), .val (.int p2), .val (.int p3), .val (.int p4), .val (.int p5), .val (.int p6), .val (.int (p1 &&& (1073741823 : Int32))), .val (.int (p2 &&& (1073741823 : Int32))), .val (.int (p3 &&& (1073741823 : Int32))), .val (.int (p4 &&& (1073741823 : Int32))), .unset, .unset, .unset, .unset, .unset] [(.int (1073741823 : Int32)), (.int p5)])) _
    refine XS.iand X0.here hx rfl (hb hby at_28) rfl ?_
    show Steps p.tables e below (s₁.setTop (mkF m 29 #[.val (.int p1), .val (.int p2), .val (.int p3), .val (.int p4), .val (.int p5), .val (.int p6), .val (.int (p1 &&& (1073741823 : Int32))), .val (.int (p2 &&& (1073741823 : Int32))), .val (.int (p3 &&& (1073741823 : Int32))), .val (.int (p4 &&& (1073741823 : Int32))), .unset, .unset, .unset, .unset, .unset] [(.int (p5 &&& (1073741823 : Int32)))])) _
    refine XS.istore X0.here hx rfl (hb hby at_29) rfl (l' := #[.val (.int p1), .val (.int p2), .val (.int p3), .val (.int p4), .val (.int p5), .val (.int p6), .val (.int (p1 &&& (1073741823 : Int32))), .val (.int (p2 &&& (1073741823 : Int32))), .val (.int (p3 &&& (1073741823 : Int32))), .val (.int (p4 &&& (1073741823 : Int32))), .val (.int (p5 &&& (1073741823 : Int32))), .unset, .unset, .unset, .unset]) rfl ?_
    show Steps p.tables e below (s₁.setTop (mkF m 31 #[.val (.int p1), .val (.int p2), .val (.int p3), .val (.int p4), .val (.int p5), .val (.int p6), .val (.int (p1 &&& (1073741823 : Int32))), .val (.int (p2 &&& (1073741823 : Int32))), .val (.int (p3 &&& (1073741823 : Int32))), .val (.int (p4 &&& (1073741823 : Int32))), .val (.int (p5 &&& (1073741823 : Int32))), .unset, .unset, .unset, .unset] [])) _
    refine XS.iload X0.here hx rfl (hb hby at_31) rfl ?_
    show Steps p.tables e below (s₁.setTop (mkF m 33 #[.val (.int p1), .val (.int p2), .val (.int p3), .val (.int p4), .val (.int p5), .val (.int p6), .val (.int (p1 &&& (1073741823 : Int32))), .val (.int (p2 &&& (1073741823 : Int32))), .val (.int (p3 &&& (1073741823 : Int32))), .val (.int (p4 &&& (1073741823 : Int32))), .val (.int (p5 &&& (1073741823 : Int32))), .unset, .unset, .unset, .unset] [(.int p6)])) _
    refine X0.ldcInt hx hown (mvT hZ (hw _ (List.mem_of_getElem? (i := 0) rfl))) (g := (mkF m 33 #[.val (.int p1), .val (.int p2), .val (.int p3), .val (.int p4), .val (.int p5), .val (.int p6), .val (.int (p1 &&& (1073741823 : Int32))), .val (.int (p2 &&& (1073741823 : Int32))), .val (.int (p3 &&& (1073741823 : Int32))), .val (.int (p4 &&& (1073741823 : Int32))), .val (.int (p5 &&& (1073741823 : Int32))), .unset, .unset, .unset, .unset] [(.int p6)])) rfl (hb hby at_33) _ ?_
    show Steps p.tables e below (s₁.setTop (mkF m 35 #[.val (.int p1), .val (.int p2), .val (.int p3), .val (.int p4), .val (.int p5), .val (.int p6), .val (.int (p1 &&& (1073741823 : Int32))), .val (.int (p2 &&& (1073741823 : Int32))), .val (.int (p3 &&& (1073741823 : Int32))), .val (.int (p4 &&& (1073741823 : Int32))), .val (.int (p5 &&& (1073741823 : Int32))), .unset, .unset, .unset, .unset] [(.int (1073741823 : Int32)), (.int p6)])) _
    refine XS.iand X0.here hx rfl (hb hby at_35) rfl ?_
    show Steps p.tables e below (s₁.setTop (mkF m 36 #[.val (.int p1), .val (.int p2), .val (.int p3), .val (.int p4), .val (.int p5), .val (.int p6), .val (.int (p1 &&& (1073741823 : Int32))), .val (.int (p2 &&& (1073741823 : Int32))), .val (.int (p3 &&& (1073741823 : Int32))), .val (.int (p4 &&& (1073741823 : Int32))), .val (.int (p5 &&& (1073741823 : Int32))), .unset, .unset, .unset, .unset] [(.int (p6 &&& (1073741823 : Int32)))])) _
    refine XS.istore X0.here hx rfl (hb hby at_36) rfl (l' := #[.val (.int p1), .val (.int p2), .val (.int p3), .val (.int p4), .val (.int p5), .val (.int p6), .val (.int (p1 &&& (1073741823 : Int32))), .val (.int (p2 &&& (1073741823 : Int32))), .val (.int (p3 &&& (1073741823 : Int32))), .val (.int (p4 &&& (1073741823 : Int32))), .val (.int (p5 &&& (1073741823 : Int32))), .val (.int (p6 &&& (1073741823 : Int32))), .unset, .unset, .unset]) rfl ?_
    show Steps p.tables e below (s₁.setTop (mkF m 38 #[.val (.int p1), .val (.int p2), .val (.int p3), .val (.int p4), .val (.int p5), .val (.int p6), .val (.int (p1 &&& (1073741823 : Int32))), .val (.int (p2 &&& (1073741823 : Int32))), .val (.int (p3 &&& (1073741823 : Int32))), .val (.int (p4 &&& (1073741823 : Int32))), .val (.int (p5 &&& (1073741823 : Int32))), .val (.int (p6 &&& (1073741823 : Int32))), .unset, .unset, .unset] [])) _
    refine st101 _ ?_
    show Steps p.tables e below (T101.setTop (mkF m 41 #[.val (.int p1), .val (.int p2), .val (.int p3), .val (.int p4), .val (.int p5), .val (.int p6), .val (.int (p1 &&& (1073741823 : Int32))), .val (.int (p2 &&& (1073741823 : Int32))), .val (.int (p3 &&& (1073741823 : Int32))), .val (.int (p4 &&& (1073741823 : Int32))), .val (.int (p5 &&& (1073741823 : Int32))), .val (.int (p6 &&& (1073741823 : Int32))), .unset, .unset, .unset] [(.ref b101)])) _
    refine XS.dup X101.here hx rfl (hb hby at_41) rfl rfl ?_
    show Steps p.tables e below (T101.setTop (mkF m 42 #[.val (.int p1), .val (.int p2), .val (.int p3), .val (.int p4), .val (.int p5), .val (.int p6), .val (.int (p1 &&& (1073741823 : Int32))), .val (.int (p2 &&& (1073741823 : Int32))), .val (.int (p3 &&& (1073741823 : Int32))), .val (.int (p4 &&& (1073741823 : Int32))), .val (.int (p5 &&& (1073741823 : Int32))), .val (.int (p6 &&& (1073741823 : Int32))), .unset, .unset, .unset] [(.ref b101), (.ref b101)])) _
    refine XS.iload X101.here hx rfl (hb hby at_42) rfl ?_
    show Steps p.tables e below (T101.setTop (mkF m 44 #[.val (.int p1), .val (.int p2), .val (.int p3), .val (.int p4), .val (.int p5), .val (.int p6), .val (.int (p1 &&& (1073741823 : Int32))), .val (.int (p2 &&& (1073741823 : Int32))), .val (.int (p3 &&& (1073741823 : Int32))), .val (.int (p4 &&& (1073741823 : Int32))), .val (.int (p5 &&& (1073741823 : Int32))), .val (.int (p6 &&& (1073741823 : Int32))), .unset, .unset, .unset] [(.int (p1 &&& (1073741823 : Int32))), (.ref b101), (.ref b101)])) _
    refine XS.iload X101.here hx rfl (hb hby at_44) rfl ?_
    show Steps p.tables e below (T101.setTop (mkF m 46 #[.val (.int p1), .val (.int p2), .val (.int p3), .val (.int p4), .val (.int p5), .val (.int p6), .val (.int (p1 &&& (1073741823 : Int32))), .val (.int (p2 &&& (1073741823 : Int32))), .val (.int (p3 &&& (1073741823 : Int32))), .val (.int (p4 &&& (1073741823 : Int32))), .val (.int (p5 &&& (1073741823 : Int32))), .val (.int (p6 &&& (1073741823 : Int32))), .unset, .unset, .unset] [(.int (p2 &&& (1073741823 : Int32))), (.int (p1 &&& (1073741823 : Int32))), (.ref b101), (.ref b101)])) _
    refine XS.iload X101.here hx rfl (hb hby at_46) rfl ?_
    show Steps p.tables e below (T101.setTop (mkF m 48 #[.val (.int p1), .val (.int p2), .val (.int p3), .val (.int p4), .val (.int p5), .val (.int p6), .val (.int (p1 &&& (1073741823 : Int32))), .val (.int (p2 &&& (1073741823 : Int32))), .val (.int (p3 &&& (1073741823 : Int32))), .val (.int (p4 &&& (1073741823 : Int32))), .val (.int (p5 &&& (1073741823 : Int32))), .val (.int (p6 &&& (1073741823 : Int32))), .unset, .unset, .unset] [(.int (p3 &&& (1073741823 : Int32))), (.int (p2 &&& (1073741823 : Int32))), (.int (p1 &&& (1073741823 : Int32))), (.ref b101), (.ref b101)])) _
    refine st106.trans ?_
    show Steps p.tables e below (T106.setTop (mkF m 51 #[.val (.int p1), .val (.int p2), .val (.int p3), .val (.int p4), .val (.int p5), .val (.int p6), .val (.int (p1 &&& (1073741823 : Int32))), .val (.int (p2 &&& (1073741823 : Int32))), .val (.int (p3 &&& (1073741823 : Int32))), .val (.int (p4 &&& (1073741823 : Int32))), .val (.int (p5 &&& (1073741823 : Int32))), .val (.int (p6 &&& (1073741823 : Int32))), .unset, .unset, .unset] [(.ref b101)])) _
    refine XS.astore X106.here hx rfl (hb hby at_51) rfl rfl (l' := #[.val (.int p1), .val (.int p2), .val (.int p3), .val (.int p4), .val (.int p5), .val (.int p6), .val (.int (p1 &&& (1073741823 : Int32))), .val (.int (p2 &&& (1073741823 : Int32))), .val (.int (p3 &&& (1073741823 : Int32))), .val (.int (p4 &&& (1073741823 : Int32))), .val (.int (p5 &&& (1073741823 : Int32))), .val (.int (p6 &&& (1073741823 : Int32))), .val (.ref b101), .unset, .unset]) rfl ?_
    show Steps p.tables e below (T106.setTop (mkF m 53 #[.val (.int p1), .val (.int p2), .val (.int p3), .val (.int p4), .val (.int p5), .val (.int p6), .val (.int (p1 &&& (1073741823 : Int32))), .val (.int (p2 &&& (1073741823 : Int32))), .val (.int (p3 &&& (1073741823 : Int32))), .val (.int (p4 &&& (1073741823 : Int32))), .val (.int (p5 &&& (1073741823 : Int32))), .val (.int (p6 &&& (1073741823 : Int32))), .val (.ref b101), .unset, .unset] [])) _
    refine st108 _ ?_
    show Steps p.tables e below (T108.setTop (mkF m 56 #[.val (.int p1), .val (.int p2), .val (.int p3), .val (.int p4), .val (.int p5), .val (.int p6), .val (.int (p1 &&& (1073741823 : Int32))), .val (.int (p2 &&& (1073741823 : Int32))), .val (.int (p3 &&& (1073741823 : Int32))), .val (.int (p4 &&& (1073741823 : Int32))), .val (.int (p5 &&& (1073741823 : Int32))), .val (.int (p6 &&& (1073741823 : Int32))), .val (.ref b101), .unset, .unset] [(.ref b108)])) _
    refine XS.dup X108.here hx rfl (hb hby at_56) rfl rfl ?_
    show Steps p.tables e below (T108.setTop (mkF m 57 #[.val (.int p1), .val (.int p2), .val (.int p3), .val (.int p4), .val (.int p5), .val (.int p6), .val (.int (p1 &&& (1073741823 : Int32))), .val (.int (p2 &&& (1073741823 : Int32))), .val (.int (p3 &&& (1073741823 : Int32))), .val (.int (p4 &&& (1073741823 : Int32))), .val (.int (p5 &&& (1073741823 : Int32))), .val (.int (p6 &&& (1073741823 : Int32))), .val (.ref b101), .unset, .unset] [(.ref b108), (.ref b108)])) _
    refine XS.iload X108.here hx rfl (hb hby at_57) rfl ?_
    show Steps p.tables e below (T108.setTop (mkF m 59 #[.val (.int p1), .val (.int p2), .val (.int p3), .val (.int p4), .val (.int p5), .val (.int p6), .val (.int (p1 &&& (1073741823 : Int32))), .val (.int (p2 &&& (1073741823 : Int32))), .val (.int (p3 &&& (1073741823 : Int32))), .val (.int (p4 &&& (1073741823 : Int32))), .val (.int (p5 &&& (1073741823 : Int32))), .val (.int (p6 &&& (1073741823 : Int32))), .val (.ref b101), .unset, .unset] [(.int (p4 &&& (1073741823 : Int32))), (.ref b108), (.ref b108)])) _
    refine XS.iload X108.here hx rfl (hb hby at_59) rfl ?_
    show Steps p.tables e below (T108.setTop (mkF m 61 #[.val (.int p1), .val (.int p2), .val (.int p3), .val (.int p4), .val (.int p5), .val (.int p6), .val (.int (p1 &&& (1073741823 : Int32))), .val (.int (p2 &&& (1073741823 : Int32))), .val (.int (p3 &&& (1073741823 : Int32))), .val (.int (p4 &&& (1073741823 : Int32))), .val (.int (p5 &&& (1073741823 : Int32))), .val (.int (p6 &&& (1073741823 : Int32))), .val (.ref b101), .unset, .unset] [(.int (p5 &&& (1073741823 : Int32))), (.int (p4 &&& (1073741823 : Int32))), (.ref b108), (.ref b108)])) _
    refine XS.iload X108.here hx rfl (hb hby at_61) rfl ?_
    show Steps p.tables e below (T108.setTop (mkF m 63 #[.val (.int p1), .val (.int p2), .val (.int p3), .val (.int p4), .val (.int p5), .val (.int p6), .val (.int (p1 &&& (1073741823 : Int32))), .val (.int (p2 &&& (1073741823 : Int32))), .val (.int (p3 &&& (1073741823 : Int32))), .val (.int (p4 &&& (1073741823 : Int32))), .val (.int (p5 &&& (1073741823 : Int32))), .val (.int (p6 &&& (1073741823 : Int32))), .val (.ref b101), .unset, .unset] [(.int (p6 &&& (1073741823 : Int32))), (.int (p5 &&& (1073741823 : Int32))), (.int (p4 &&& (1073741823 : Int32))), (.ref b108), (.ref b108)])) _
    refine st113.trans ?_
    show Steps p.tables e below (T113.setTop (mkF m 66 #[.val (.int p1), .val (.int p2), .val (.int p3), .val (.int p4), .val (.int p5), .val (.int p6), .val (.int (p1 &&& (1073741823 : Int32))), .val (.int (p2 &&& (1073741823 : Int32))), .val (.int (p3 &&& (1073741823 : Int32))), .val (.int (p4 &&& (1073741823 : Int32))), .val (.int (p5 &&& (1073741823 : Int32))), .val (.int (p6 &&& (1073741823 : Int32))), .val (.ref b101), .unset, .unset] [(.ref b108)])) _
    refine XS.astore X113.here hx rfl (hb hby at_66) rfl rfl (l' := #[.val (.int p1), .val (.int p2), .val (.int p3), .val (.int p4), .val (.int p5), .val (.int p6), .val (.int (p1 &&& (1073741823 : Int32))), .val (.int (p2 &&& (1073741823 : Int32))), .val (.int (p3 &&& (1073741823 : Int32))), .val (.int (p4 &&& (1073741823 : Int32))), .val (.int (p5 &&& (1073741823 : Int32))), .val (.int (p6 &&& (1073741823 : Int32))), .val (.ref b101), .val (.ref b108), .unset]) rfl ?_
    show Steps p.tables e below (T113.setTop (mkF m 68 #[.val (.int p1), .val (.int p2), .val (.int p3), .val (.int p4), .val (.int p5), .val (.int p6), .val (.int (p1 &&& (1073741823 : Int32))), .val (.int (p2 &&& (1073741823 : Int32))), .val (.int (p3 &&& (1073741823 : Int32))), .val (.int (p4 &&& (1073741823 : Int32))), .val (.int (p5 &&& (1073741823 : Int32))), .val (.int (p6 &&& (1073741823 : Int32))), .val (.ref b101), .val (.ref b108), .unset] [])) _
    refine XS.aload X113.here hx rfl (hb hby at_68) rfl rfl ?_
    show Steps p.tables e below (T113.setTop (mkF m 70 #[.val (.int p1), .val (.int p2), .val (.int p3), .val (.int p4), .val (.int p5), .val (.int p6), .val (.int (p1 &&& (1073741823 : Int32))), .val (.int (p2 &&& (1073741823 : Int32))), .val (.int (p3 &&& (1073741823 : Int32))), .val (.int (p4 &&& (1073741823 : Int32))), .val (.int (p5 &&& (1073741823 : Int32))), .val (.int (p6 &&& (1073741823 : Int32))), .val (.ref b101), .val (.ref b108), .unset] [(.ref b101)])) _
    refine XS.aload X113.here hx rfl (hb hby at_70) rfl rfl ?_
    show Steps p.tables e below (T113.setTop (mkF m 72 #[.val (.int p1), .val (.int p2), .val (.int p3), .val (.int p4), .val (.int p5), .val (.int p6), .val (.int (p1 &&& (1073741823 : Int32))), .val (.int (p2 &&& (1073741823 : Int32))), .val (.int (p3 &&& (1073741823 : Int32))), .val (.int (p4 &&& (1073741823 : Int32))), .val (.int (p5 &&& (1073741823 : Int32))), .val (.int (p6 &&& (1073741823 : Int32))), .val (.ref b101), .val (.ref b108), .unset] [(.ref b108), (.ref b101)])) _
    refine st119.trans ?_
    show Steps p.tables e below (T119.setTop (mkF m 75 #[.val (.int p1), .val (.int p2), .val (.int p3), .val (.int p4), .val (.int p5), .val (.int p6), .val (.int (p1 &&& (1073741823 : Int32))), .val (.int (p2 &&& (1073741823 : Int32))), .val (.int (p3 &&& (1073741823 : Int32))), .val (.int (p4 &&& (1073741823 : Int32))), .val (.int (p5 &&& (1073741823 : Int32))), .val (.int (p6 &&& (1073741823 : Int32))), .val (.ref b101), .val (.ref b108), .unset] [(.ref b119)])) _
    refine XS.astore X119.here hx rfl (hb hby at_75) rfl rfl (l' := #[.val (.int p1), .val (.int p2), .val (.int p3), .val (.int p4), .val (.int p5), .val (.int p6), .val (.int (p1 &&& (1073741823 : Int32))), .val (.int (p2 &&& (1073741823 : Int32))), .val (.int (p3 &&& (1073741823 : Int32))), .val (.int (p4 &&& (1073741823 : Int32))), .val (.int (p5 &&& (1073741823 : Int32))), .val (.int (p6 &&& (1073741823 : Int32))), .val (.ref b101), .val (.ref b108), .val (.ref b119)]) rfl ?_
    show Steps p.tables e below (T119.setTop (mkF m 77 #[.val (.int p1), .val (.int p2), .val (.int p3), .val (.int p4), .val (.int p5), .val (.int p6), .val (.int (p1 &&& (1073741823 : Int32))), .val (.int (p2 &&& (1073741823 : Int32))), .val (.int (p3 &&& (1073741823 : Int32))), .val (.int (p4 &&& (1073741823 : Int32))), .val (.int (p5 &&& (1073741823 : Int32))), .val (.int (p6 &&& (1073741823 : Int32))), .val (.ref b101), .val (.ref b108), .val (.ref b119)] [])) _
    refine XS.aload X119.here hx rfl (hb hby at_77) rfl rfl ?_
    show Steps p.tables e below (T119.setTop (mkF m 79 #[.val (.int p1), .val (.int p2), .val (.int p3), .val (.int p4), .val (.int p5), .val (.int p6), .val (.int (p1 &&& (1073741823 : Int32))), .val (.int (p2 &&& (1073741823 : Int32))), .val (.int (p3 &&& (1073741823 : Int32))), .val (.int (p4 &&& (1073741823 : Int32))), .val (.int (p5 &&& (1073741823 : Int32))), .val (.int (p6 &&& (1073741823 : Int32))), .val (.ref b101), .val (.ref b108), .val (.ref b119)] [(.ref b119)])) _
    refine st122.trans ?_
    show Steps p.tables e below (T122.setTop (mkF m 82 #[.val (.int p1), .val (.int p2), .val (.int p3), .val (.int p4), .val (.int p5), .val (.int p6), .val (.int (p1 &&& (1073741823 : Int32))), .val (.int (p2 &&& (1073741823 : Int32))), .val (.int (p3 &&& (1073741823 : Int32))), .val (.int (p4 &&& (1073741823 : Int32))), .val (.int (p5 &&& (1073741823 : Int32))), .val (.int (p6 &&& (1073741823 : Int32))), .val (.ref b101), .val (.ref b108), .val (.ref b119)] [(.int ((p1 &&& (1073741823 : Int32)) + (p4 &&& (1073741823 : Int32))))])) _
    refine XS.iload X122.here hx rfl (hb hby at_82) rfl ?_
    show Steps p.tables e below (T122.setTop (mkF m 84 #[.val (.int p1), .val (.int p2), .val (.int p3), .val (.int p4), .val (.int p5), .val (.int p6), .val (.int (p1 &&& (1073741823 : Int32))), .val (.int (p2 &&& (1073741823 : Int32))), .val (.int (p3 &&& (1073741823 : Int32))), .val (.int (p4 &&& (1073741823 : Int32))), .val (.int (p5 &&& (1073741823 : Int32))), .val (.int (p6 &&& (1073741823 : Int32))), .val (.ref b101), .val (.ref b108), .val (.ref b119)] [(.int (p1 &&& (1073741823 : Int32))), (.int ((p1 &&& (1073741823 : Int32)) + (p4 &&& (1073741823 : Int32))))])) _
    refine XS.iload X122.here hx rfl (hb hby at_84) rfl ?_
    show Steps p.tables e below (T122.setTop (mkF m 86 #[.val (.int p1), .val (.int p2), .val (.int p3), .val (.int p4), .val (.int p5), .val (.int p6), .val (.int (p1 &&& (1073741823 : Int32))), .val (.int (p2 &&& (1073741823 : Int32))), .val (.int (p3 &&& (1073741823 : Int32))), .val (.int (p4 &&& (1073741823 : Int32))), .val (.int (p5 &&& (1073741823 : Int32))), .val (.int (p6 &&& (1073741823 : Int32))), .val (.ref b101), .val (.ref b108), .val (.ref b119)] [(.int (p4 &&& (1073741823 : Int32))), (.int (p1 &&& (1073741823 : Int32))), (.int ((p1 &&& (1073741823 : Int32)) + (p4 &&& (1073741823 : Int32))))])) _
    refine XS.iadd X122.here hx rfl (hb hby at_86) rfl ?_
    show Steps p.tables e below (T122.setTop (mkF m 87 #[.val (.int p1), .val (.int p2), .val (.int p3), .val (.int p4), .val (.int p5), .val (.int p6), .val (.int (p1 &&& (1073741823 : Int32))), .val (.int (p2 &&& (1073741823 : Int32))), .val (.int (p3 &&& (1073741823 : Int32))), .val (.int (p4 &&& (1073741823 : Int32))), .val (.int (p5 &&& (1073741823 : Int32))), .val (.int (p6 &&& (1073741823 : Int32))), .val (.ref b101), .val (.ref b108), .val (.ref b119)] [(.int ((p1 &&& (1073741823 : Int32)) + (p4 &&& (1073741823 : Int32)))), (.int ((p1 &&& (1073741823 : Int32)) + (p4 &&& (1073741823 : Int32))))])) _
    refine XS.icmpNo X122.here hx rfl (hb hby at_87) rfl (teq (rfl : ((p1 &&& (1073741823 : Int32)) + (p4 &&& (1073741823 : Int32))) = ((p1 &&& (1073741823 : Int32)) + (p4 &&& (1073741823 : Int32))))).2 ?_
    show Steps p.tables e below (T122.setTop (mkF m 90 #[.val (.int p1), .val (.int p2), .val (.int p3), .val (.int p4), .val (.int p5), .val (.int p6), .val (.int (p1 &&& (1073741823 : Int32))), .val (.int (p2 &&& (1073741823 : Int32))), .val (.int (p3 &&& (1073741823 : Int32))), .val (.int (p4 &&& (1073741823 : Int32))), .val (.int (p5 &&& (1073741823 : Int32))), .val (.int (p6 &&& (1073741823 : Int32))), .val (.ref b101), .val (.ref b108), .val (.ref b119)] [])) _
    refine XS.aload X122.here hx rfl (hb hby at_90) rfl rfl ?_
    show Steps p.tables e below (T122.setTop (mkF m 92 #[.val (.int p1), .val (.int p2), .val (.int p3), .val (.int p4), .val (.int p5), .val (.int p6), .val (.int (p1 &&& (1073741823 : Int32))), .val (.int (p2 &&& (1073741823 : Int32))), .val (.int (p3 &&& (1073741823 : Int32))), .val (.int (p4 &&& (1073741823 : Int32))), .val (.int (p5 &&& (1073741823 : Int32))), .val (.int (p6 &&& (1073741823 : Int32))), .val (.ref b101), .val (.ref b108), .val (.ref b119)] [(.ref b119)])) _
    refine st124.trans ?_
    show Steps p.tables e below (T124.setTop (mkF m 95 #[.val (.int p1), .val (.int p2), .val (.int p3), .val (.int p4), .val (.int p5), .val (.int p6), .val (.int (p1 &&& (1073741823 : Int32))), .val (.int (p2 &&& (1073741823 : Int32))), .val (.int (p3 &&& (1073741823 : Int32))), .val (.int (p4 &&& (1073741823 : Int32))), .val (.int (p5 &&& (1073741823 : Int32))), .val (.int (p6 &&& (1073741823 : Int32))), .val (.ref b101), .val (.ref b108), .val (.ref b119)] [(.int ((p2 &&& (1073741823 : Int32)) + (p5 &&& (1073741823 : Int32))))])) _
    refine XS.iload X124.here hx rfl (hb hby at_95) rfl ?_
    show Steps p.tables e below (T124.setTop (mkF m 97 #[.val (.int p1), .val (.int p2), .val (.int p3), .val (.int p4), .val (.int p5), .val (.int p6), .val (.int (p1 &&& (1073741823 : Int32))), .val (.int (p2 &&& (1073741823 : Int32))), .val (.int (p3 &&& (1073741823 : Int32))), .val (.int (p4 &&& (1073741823 : Int32))), .val (.int (p5 &&& (1073741823 : Int32))), .val (.int (p6 &&& (1073741823 : Int32))), .val (.ref b101), .val (.ref b108), .val (.ref b119)] [(.int (p2 &&& (1073741823 : Int32))), (.int ((p2 &&& (1073741823 : Int32)) + (p5 &&& (1073741823 : Int32))))])) _
    refine XS.iload X124.here hx rfl (hb hby at_97) rfl ?_
    show Steps p.tables e below (T124.setTop (mkF m 99 #[.val (.int p1), .val (.int p2), .val (.int p3), .val (.int p4), .val (.int p5), .val (.int p6), .val (.int (p1 &&& (1073741823 : Int32))), .val (.int (p2 &&& (1073741823 : Int32))), .val (.int (p3 &&& (1073741823 : Int32))), .val (.int (p4 &&& (1073741823 : Int32))), .val (.int (p5 &&& (1073741823 : Int32))), .val (.int (p6 &&& (1073741823 : Int32))), .val (.ref b101), .val (.ref b108), .val (.ref b119)] [(.int (p5 &&& (1073741823 : Int32))), (.int (p2 &&& (1073741823 : Int32))), (.int ((p2 &&& (1073741823 : Int32)) + (p5 &&& (1073741823 : Int32))))])) _
    refine XS.iadd X124.here hx rfl (hb hby at_99) rfl ?_
    show Steps p.tables e below (T124.setTop (mkF m 100 #[.val (.int p1), .val (.int p2), .val (.int p3), .val (.int p4), .val (.int p5), .val (.int p6), .val (.int (p1 &&& (1073741823 : Int32))), .val (.int (p2 &&& (1073741823 : Int32))), .val (.int (p3 &&& (1073741823 : Int32))), .val (.int (p4 &&& (1073741823 : Int32))), .val (.int (p5 &&& (1073741823 : Int32))), .val (.int (p6 &&& (1073741823 : Int32))), .val (.ref b101), .val (.ref b108), .val (.ref b119)] [(.int ((p2 &&& (1073741823 : Int32)) + (p5 &&& (1073741823 : Int32)))), (.int ((p2 &&& (1073741823 : Int32)) + (p5 &&& (1073741823 : Int32))))])) _
    refine XS.icmpNo X124.here hx rfl (hb hby at_100) rfl (teq (rfl : ((p2 &&& (1073741823 : Int32)) + (p5 &&& (1073741823 : Int32))) = ((p2 &&& (1073741823 : Int32)) + (p5 &&& (1073741823 : Int32))))).2 ?_
    show Steps p.tables e below (T124.setTop (mkF m 103 #[.val (.int p1), .val (.int p2), .val (.int p3), .val (.int p4), .val (.int p5), .val (.int p6), .val (.int (p1 &&& (1073741823 : Int32))), .val (.int (p2 &&& (1073741823 : Int32))), .val (.int (p3 &&& (1073741823 : Int32))), .val (.int (p4 &&& (1073741823 : Int32))), .val (.int (p5 &&& (1073741823 : Int32))), .val (.int (p6 &&& (1073741823 : Int32))), .val (.ref b101), .val (.ref b108), .val (.ref b119)] [])) _
    refine XS.aload X124.here hx rfl (hb hby at_103) rfl rfl ?_
    show Steps p.tables e below (T124.setTop (mkF m 105 #[.val (.int p1), .val (.int p2), .val (.int p3), .val (.int p4), .val (.int p5), .val (.int p6), .val (.int (p1 &&& (1073741823 : Int32))), .val (.int (p2 &&& (1073741823 : Int32))), .val (.int (p3 &&& (1073741823 : Int32))), .val (.int (p4 &&& (1073741823 : Int32))), .val (.int (p5 &&& (1073741823 : Int32))), .val (.int (p6 &&& (1073741823 : Int32))), .val (.ref b101), .val (.ref b108), .val (.ref b119)] [(.ref b119)])) _
    refine st125.trans ?_
    show Steps p.tables e below (T125.setTop (mkF m 108 #[.val (.int p1), .val (.int p2), .val (.int p3), .val (.int p4), .val (.int p5), .val (.int p6), .val (.int (p1 &&& (1073741823 : Int32))), .val (.int (p2 &&& (1073741823 : Int32))), .val (.int (p3 &&& (1073741823 : Int32))), .val (.int (p4 &&& (1073741823 : Int32))), .val (.int (p5 &&& (1073741823 : Int32))), .val (.int (p6 &&& (1073741823 : Int32))), .val (.ref b101), .val (.ref b108), .val (.ref b119)] [(.int ((p3 &&& (1073741823 : Int32)) + (p6 &&& (1073741823 : Int32))))])) _
    refine XS.iload X125.here hx rfl (hb hby at_108) rfl ?_
    show Steps p.tables e below (T125.setTop (mkF m 110 #[.val (.int p1), .val (.int p2), .val (.int p3), .val (.int p4), .val (.int p5), .val (.int p6), .val (.int (p1 &&& (1073741823 : Int32))), .val (.int (p2 &&& (1073741823 : Int32))), .val (.int (p3 &&& (1073741823 : Int32))), .val (.int (p4 &&& (1073741823 : Int32))), .val (.int (p5 &&& (1073741823 : Int32))), .val (.int (p6 &&& (1073741823 : Int32))), .val (.ref b101), .val (.ref b108), .val (.ref b119)] [(.int (p3 &&& (1073741823 : Int32))), (.int ((p3 &&& (1073741823 : Int32)) + (p6 &&& (1073741823 : Int32))))])) _
    refine XS.iload X125.here hx rfl (hb hby at_110) rfl ?_
    show Steps p.tables e below (T125.setTop (mkF m 112 #[.val (.int p1), .val (.int p2), .val (.int p3), .val (.int p4), .val (.int p5), .val (.int p6), .val (.int (p1 &&& (1073741823 : Int32))), .val (.int (p2 &&& (1073741823 : Int32))), .val (.int (p3 &&& (1073741823 : Int32))), .val (.int (p4 &&& (1073741823 : Int32))), .val (.int (p5 &&& (1073741823 : Int32))), .val (.int (p6 &&& (1073741823 : Int32))), .val (.ref b101), .val (.ref b108), .val (.ref b119)] [(.int (p6 &&& (1073741823 : Int32))), (.int (p3 &&& (1073741823 : Int32))), (.int ((p3 &&& (1073741823 : Int32)) + (p6 &&& (1073741823 : Int32))))])) _
    refine XS.iadd X125.here hx rfl (hb hby at_112) rfl ?_
    show Steps p.tables e below (T125.setTop (mkF m 113 #[.val (.int p1), .val (.int p2), .val (.int p3), .val (.int p4), .val (.int p5), .val (.int p6), .val (.int (p1 &&& (1073741823 : Int32))), .val (.int (p2 &&& (1073741823 : Int32))), .val (.int (p3 &&& (1073741823 : Int32))), .val (.int (p4 &&& (1073741823 : Int32))), .val (.int (p5 &&& (1073741823 : Int32))), .val (.int (p6 &&& (1073741823 : Int32))), .val (.ref b101), .val (.ref b108), .val (.ref b119)] [(.int ((p3 &&& (1073741823 : Int32)) + (p6 &&& (1073741823 : Int32)))), (.int ((p3 &&& (1073741823 : Int32)) + (p6 &&& (1073741823 : Int32))))])) _
    refine XS.icmpNo X125.here hx rfl (hb hby at_113) rfl (teq (rfl : ((p3 &&& (1073741823 : Int32)) + (p6 &&& (1073741823 : Int32))) = ((p3 &&& (1073741823 : Int32)) + (p6 &&& (1073741823 : Int32))))).2 ?_
    show Steps p.tables e below (T125.setTop (mkF m 116 #[.val (.int p1), .val (.int p2), .val (.int p3), .val (.int p4), .val (.int p5), .val (.int p6), .val (.int (p1 &&& (1073741823 : Int32))), .val (.int (p2 &&& (1073741823 : Int32))), .val (.int (p3 &&& (1073741823 : Int32))), .val (.int (p4 &&& (1073741823 : Int32))), .val (.int (p5 &&& (1073741823 : Int32))), .val (.int (p6 &&& (1073741823 : Int32))), .val (.ref b101), .val (.ref b108), .val (.ref b119)] [])) _
    refine XS.iconst X125.here hx rfl (hb hby at_116) ?_
    show Steps p.tables e below (T125.setTop (mkF m 117 #[.val (.int p1), .val (.int p2), .val (.int p3), .val (.int p4), .val (.int p5), .val (.int p6), .val (.int (p1 &&& (1073741823 : Int32))), .val (.int (p2 &&& (1073741823 : Int32))), .val (.int (p3 &&& (1073741823 : Int32))), .val (.int (p4 &&& (1073741823 : Int32))), .val (.int (p5 &&& (1073741823 : Int32))), .val (.int (p6 &&& (1073741823 : Int32))), .val (.ref b101), .val (.ref b108), .val (.ref b119)] [(.int (1 : Int32))])) _
    refine XS.goto X125.here hx rfl (pc0 := 117) (pc' := 121) rfl (hb hby at_117) (by decide) (by decide) ?_
    show Steps p.tables e below (T125.setTop (mkF m 121 #[.val (.int p1), .val (.int p2), .val (.int p3), .val (.int p4), .val (.int p5), .val (.int p6), .val (.int (p1 &&& (1073741823 : Int32))), .val (.int (p2 &&& (1073741823 : Int32))), .val (.int (p3 &&& (1073741823 : Int32))), .val (.int (p4 &&& (1073741823 : Int32))), .val (.int (p5 &&& (1073741823 : Int32))), .val (.int (p6 &&& (1073741823 : Int32))), .val (.ref b101), .val (.ref b108), .val (.ref b119)] [(.int (1 : Int32))])) _
    exact retN X125 hx (t := .boolean) Bd.returns (by simp) (hb hby at_121) hr
  · show Q0 Z p1 p2 p3 p4 p5 p6 h0 n0 _ T125.heap _
    rw [Heq125]
    exact ⟨rfl, N125⟩
set_option maxRecDepth 65536 in
set_option maxHeartbeats 40000000 in
theorem comes_1 {Post : Tables → Env → Array Value → State → Outcome → State → Prop} (hpost : ∀ tb e args s v u, (limb_1_1.after args s (.returned v) u = true ∧ limb_1_2.after args s (.returned v) u = true ∧ True) → FrameEnd s (.returned v) u (Jvm.fieldLocs frame_1_writes args s ++ Jvm.arrayLocs frame_1_arrays args s ++ Jvm.staticLocs frame_1_statics s) 16 128 → Post tb e args s (.returned v) u) :
    ArmFor flags0 classFile x code maxLocals ret World_1 tables_1 room_1 Calls_1 rest_1 Pre_1 Post := by
  intro l hfl _ _ p e ha hc hk s m args below hf hA hF happ hP
  obtain ⟨hcalls, hrest, hpre⟩ := hP
  obtain ⟨-, -, -, hnamed, -, -, -, hat⟩ := (Spec.applies_iff hf).mp happ
  obtain ⟨hg, hn⟩ := and_e (Cond.before_iff.mp (show (Jvm.Cond.and given_1 narrow_1).before args s = true from hpre))
  obtain ⟨gc, ga0⟩ := and_e hg
  obtain ⟨gv0, ga1⟩ := and_e ga0
  obtain ⟨gv1, ga2⟩ := and_e ga1
  obtain ⟨gv2, ga3⟩ := and_e ga2
  obtain ⟨gv3, ga4⟩ := and_e ga3
  obtain ⟨gv4, ga5⟩ := and_e ga4
  obtain ⟨w0, w1, w2, w3, w4, w5, rfl⟩ : ∃ w0 w1 w2 w3 w4 w5 : Value, args = #[w0, w1, w2, w3, w4, w5] := by
    have hs : args.size = 6 := by simpa [Cond.value, given_1] using gc
    obtain ⟨L⟩ := args
    match L, hs with
    | [w0, w1, w2, w3, w4, w5], _ => exact ⟨w0, w1, w2, w3, w4, w5, rfl⟩
  have hw := fun d (hd : d ∈ tables_1) => atoms_spec (ws := Jvm.Cond.code x code maxLocals ret :: tables_1) hat d (List.mem_cons_of_mem _ hd)
  have hfit : Fit s := fun {y c} hc i hi => by
    obtain ⟨ha, rfl⟩ := Array.getElem?_eq_some_iff.mp hc
    have q := List.all_eq_true.mp ((Array.all_eq_true_iff_forall_mem.mp hF) _ (Array.getElem_mem ha)) i (List.mem_range.mpr hi)
    simpa [Array.getElem?_eq_getElem hi] using q
  obtain ⟨i0, ei0⟩ := is_v gv0
  obtain rfl : w0 = (.int i0) := Option.some.inj ei0
  obtain ⟨i1, ei1⟩ := is_v gv1
  obtain rfl : w1 = (.int i1) := Option.some.inj ei1
  obtain ⟨i2, ei2⟩ := is_v gv2
  obtain rfl : w2 = (.int i2) := Option.some.inj ei2
  obtain ⟨i3, ei3⟩ := is_v gv3
  obtain rfl : w3 = (.int i3) := Option.some.inj ei3
  obtain ⟨i4, ei4⟩ := is_v gv4
  obtain rfl : w4 = (.int i4) := Option.some.inj ei4
  obtain ⟨i5, ei5⟩ := is_v ga5
  obtain rfl : w5 = (.int i5) := Option.some.inj ei5
  obtain ⟨n, o, h1, h2, h3, _, L, rfl, ⟨rfl, N⟩, hq⟩ := rm0 l s _ hw tables_1 i0 i1 i2 i3 i4 i5 s.heap s.heap.size (Nat.le_refl _)  p e ha hc hk s m _ below hf ((Spec.applies_iff_loose hf).mp happ).1 ⟨rfl, State.Warmed39.refl s, rfl⟩ trivial
  refine ⟨n, _, h1, h2, h3, hpost _ _ _ _ _ _ ⟨Cond.after_iff.mpr rfl, Cond.after_iff.mpr (eq_i res_at (Term.int_eval (1)) rfl), trivial⟩ ⟨hq.1, hq.2.1, (hq.2.2.sift fun y hy => Or.inr (N y hy)).mono (by decide) (by decide)⟩⟩
theorem main_1_1 : Claimed_1_1 := comes_1 fun _ _ _ _ _ _ h hF => ⟨h.1, hF⟩
theorem main_1_2 : Claimed_1_2 := comes_1 fun _ _ _ _ _ _ h hF => ⟨h.2.1, hF⟩
end Jvm.Pilot.@@N@@
namespace Jvm.Pilot.@@N@@
open Jvm Jvm.ClassFile Sem Op Lib Jvm.Free Jvm.Stand Jvm.Pilot.@@N@@.Jvm.D
/-! MADE BY PROGRAM (witnessworld.py) out of the Statement's table words and the real class files: 9 classes; the members and pool entries that the words name. The judged class is class 1, her method 1. -/
namespace start1
open Jvm.ClassFile
def u (s : String) : CpInfo := .utf8 (stringToUtf16 s)
/-- a pool by its gaps: so many unusable entries, then the entry; so many at the end -/
def gap : Nat → List CpInfo → List CpInfo
  | 0, r => r
  | n + 1, r => .unusable :: gap n r
def poolList (es : List (Nat × CpInfo)) (last : Nat) : List CpInfo := es.foldr (fun e r => gap e.1 (e.2 :: r)) (gap last [])
def pool (es : List (Nat × CpInfo)) (last : Nat) : Array CpInfo := ⟨poolList es last⟩
def fileOf (pool : Array CpInfo) (this : Nat) (attrs : Array Attribute := #[]) (ms : Array MethodInfo := #[]) (fl : Nat := 33) (sup : Nat := 0) (ifs : Array Nat := #[]) (fds : Array FieldInfo := #[]) : ClassFile where
  minorVersion := 0
  majorVersion := 65
  constantPool := pool
  accessFlags := fl
  thisClass := this
  superClass := sup
  interfaces := ifs
  fields := fds
  methods := ms
  attributes := attrs
def plain (name : String) (sup : Option ClassId) : Class where
  name := name
  kind := .ordinary
  loader := none
  accessFlags := 33
  super := sup
  interfaces := #[]
  cf := none
  fields := #[]
  methods := #[]
  instanceTypes := #[]
  staticTypes := #[]
  resolved := #[]
  callSites := []
  init := .initialized
  statics := none
  mirror := none

def pool0 : Array CpInfo := pool [(5, u "<init>"), (0, u "()V"), (1, .class_ 10), (1, u "java/lang/Object")] 113

def k0c0 : Code := { maxStack := 0, maxLocals := 1, code := object_method_1_code, exceptionTable := #[], attributes := #[] }
def k0m0 : Method := { name := "<init>", desc := "()V", sig := { parameters := [], returnType := none }, accessFlags := 1, code := some k0c0 }
/-- java/lang/Object -/
def k0 : Class := { plain "java/lang/Object" none with
  accessFlags := 33
  interfaces := #[]
  cf := some (fileOf pool0 8 #[] #[{ accessFlags := 1, nameIndex := 5, descriptorIndex := 6, attributes := #[] }] 33 0 #[] #[])
  fields := #[]
  methods := #[k0m0]
  instanceTypes := #[]
  staticTypes := #[]
  resolved := Array.replicate 124 none
  statics := none }

def pool1 : Array CpInfo := pool [(2, .class_ 4), (1, u "java/lang/Object"), (0, u "<init>"), (0, u "()V"), (0, .integer 1073741823), (0, .class_ 9), (0, u "com/example/enclav/enclav/device/TaChanges"), (0, .methodref 8 11), (0, .nameAndType 5 12), (0, u "(III)V"), (0, .methodref 8 14), (0, .nameAndType 15 16), (0, u "plus"), (0, u "(Lcom/example/enclav/enclav/device/TaChanges;)Lcom/example/enclav/enclav/device/TaChanges;"), (0, .methodref 8 18), (0, .nameAndType 19 20), (0, u "installed"), (0, u "()I"), (0, .methodref 8 22), (0, .nameAndType 23 20), (0, u "updated"), (0, .methodref 8 25), (0, .nameAndType 26 20), (0, u "deleted"), (0, .class_ 28), (0, u "com/example/enclav/enclav/device/TaChangesPlusPinLaw"), (2, u "law"), (0, u "(IIIIII)Z")] 3

def k1m0 : Method := { name := "<init>", desc := "()V", sig := { parameters := [], returnType := none }, accessFlags := 1, code := none }
def k1c1 : Code := { maxStack := 5, maxLocals := 15, code := code, exceptionTable := #[], attributes := #[] }
def k1m1 : Method := { name := "law", desc := "(IIIIII)Z", sig := { parameters := [.int, .int, .int, .int, .int, .int], returnType := some .boolean }, accessFlags := 9, code := some k1c1 }
/-- com/example/enclav/enclav/device/TaChangesPlusPinLaw -/
def k1 : Class := { plain "com/example/enclav/enclav/device/TaChangesPlusPinLaw" (some 0) with
  accessFlags := 49
  interfaces := #[]
  cf := some (fileOf pool1 27 #[] #[{ accessFlags := 1, nameIndex := 5, descriptorIndex := 6, attributes := #[] }, { accessFlags := 9, nameIndex := 31, descriptorIndex := 32, attributes := #[] }] 49 2 #[] #[])
  fields := #[]
  methods := #[k1m0, k1m1]
  instanceTypes := #[]
  staticTypes := #[]
  resolved := Array.replicate 36 none
  statics := none }

def pool2 : Array CpInfo := pool [(1, .methodref 2 3), (0, .class_ 4), (0, .nameAndType 5 6), (0, u "java/lang/Object"), (0, u "<init>"), (0, u "()V"), (0, .fieldref 8 9), (0, .class_ 10), (0, .nameAndType 11 12), (0, u "com/example/enclav/enclav/device/TaChanges"), (0, u "installed"), (0, u "I"), (0, .fieldref 8 14), (0, .nameAndType 15 12), (0, u "updated"), (0, .fieldref 8 17), (0, .nameAndType 18 12), (0, u "deleted"), (0, .methodref 8 20), (0, .nameAndType 5 21), (0, u "(III)V"), (2, u "NONE"), (0, u "Lcom/example/enclav/enclav/device/TaChanges;"), (2, u "()I"), (0, u "plus"), (0, u "(Lcom/example/enclav/enclav/device/TaChanges;)Lcom/example/enclav/enclav/device/TaChanges;")] 3

def k2c0 : Code := { maxStack := 2, maxLocals := 4, code := prog_15_method_1_code, exceptionTable := #[], attributes := #[] }
def k2m0 : Method := { name := "<init>", desc := "(III)V", sig := { parameters := [.int, .int, .int], returnType := none }, accessFlags := 0, code := some k2c0 }
def k2c1 : Code := { maxStack := 1, maxLocals := 1, code := prog_15_method_2_code, exceptionTable := #[], attributes := #[] }
def k2m1 : Method := { name := "installed", desc := "()I", sig := { parameters := [], returnType := some .int }, accessFlags := 1, code := some k2c1 }
def k2c2 : Code := { maxStack := 1, maxLocals := 1, code := prog_15_method_3_code, exceptionTable := #[], attributes := #[] }
def k2m2 : Method := { name := "updated", desc := "()I", sig := { parameters := [], returnType := some .int }, accessFlags := 1, code := some k2c2 }
def k2c3 : Code := { maxStack := 1, maxLocals := 1, code := prog_15_method_4_code, exceptionTable := #[], attributes := #[] }
def k2m3 : Method := { name := "deleted", desc := "()I", sig := { parameters := [], returnType := some .int }, accessFlags := 1, code := some k2c3 }
def k2c4 : Code := { maxStack := 6, maxLocals := 2, code := prog_15_method_5_code, exceptionTable := #[], attributes := #[] }
def k2m4 : Method := { name := "plus", desc := "(Lcom/example/enclav/enclav/device/TaChanges;)Lcom/example/enclav/enclav/device/TaChanges;", sig := { parameters := [(.object "com/example/enclav/enclav/device/TaChanges")], returnType := some (.object "com/example/enclav/enclav/device/TaChanges") }, accessFlags := 0, code := some k2c4 }
/-- com/example/enclav/enclav/device/TaChanges -/
def k2 : Class := { plain "com/example/enclav/enclav/device/TaChanges" (some 0) with
  accessFlags := 49
  interfaces := #[]
  cf := some (fileOf pool2 8 #[] #[{ accessFlags := 0, nameIndex := 5, descriptorIndex := 21, attributes := #[] }, { accessFlags := 1, nameIndex := 11, descriptorIndex := 28, attributes := #[] }, { accessFlags := 1, nameIndex := 15, descriptorIndex := 28, attributes := #[] }, { accessFlags := 1, nameIndex := 18, descriptorIndex := 28, attributes := #[] }, { accessFlags := 0, nameIndex := 29, descriptorIndex := 30, attributes := #[] }] 49 2 #[] #[{ accessFlags := 24, nameIndex := 24, descriptorIndex := 25, attributes := #[] }, { accessFlags := 18, nameIndex := 11, descriptorIndex := 12, attributes := #[] }, { accessFlags := 18, nameIndex := 15, descriptorIndex := 12, attributes := #[] }, { accessFlags := 18, nameIndex := 18, descriptorIndex := 12, attributes := #[] }])
  fields := #[{ name := "NONE", type := (.object "com/example/enclav/enclav/device/TaChanges"), accessFlags := 24, slot := 0, constantValue := 0 }, { name := "installed", type := .int, accessFlags := 18, slot := 0, constantValue := 0 }, { name := "updated", type := .int, accessFlags := 18, slot := 1, constantValue := 0 }, { name := "deleted", type := .int, accessFlags := 18, slot := 2, constantValue := 0 }]
  methods := #[k2m0, k2m1, k2m2, k2m3, k2m4]
  instanceTypes := #[.int, .int, .int]
  staticTypes := #[(.object "com/example/enclav/enclav/device/TaChanges")]
  resolved := Array.replicate 34 none
  statics := none }

def pool3 : Array CpInfo := pool [(1, u "java/lang/Cloneable"), (0, .class_ 1), (0, u "java/lang/Object"), (0, .class_ 3)] 3

/-- java/lang/Cloneable -/
def k3 : Class := { plain "java/lang/Cloneable" (some 0) with
  accessFlags := 1537
  interfaces := #[]
  cf := some (fileOf pool3 2 #[] #[] 1537 4 #[] #[])
  fields := #[]
  methods := #[]
  instanceTypes := #[]
  staticTypes := #[]
  resolved := Array.replicate 8 none
  statics := none }

def pool4 : Array CpInfo := pool [(1, u "java/io/Serializable"), (0, .class_ 1), (0, u "java/lang/Object"), (0, .class_ 3)] 3

/-- java/io/Serializable -/
def k4 : Class := { plain "java/io/Serializable" (some 0) with
  accessFlags := 1537
  interfaces := #[]
  cf := some (fileOf pool4 2 #[] #[] 1537 4 #[] #[])
  fields := #[]
  methods := #[]
  instanceTypes := #[]
  staticTypes := #[]
  resolved := Array.replicate 8 none
  statics := none }

/-- the primitive byte -/
def k5 : Class := { plain "byte" none with kind := .primitive 'B', accessFlags := 0x411 }
/-- [B -/
def k6 : Class := { plain "[B" (some 0) with kind := .array 5 .byte, interfaces := #[3, 4], accessFlags := 1041 }

/-- the primitive int -/
def k7 : Class := { plain "int" none with kind := .primitive 'I', accessFlags := 0x411 }
/-- [I -/
def k8 : Class := { plain "[I" (some 0) with kind := .array 7 .int, interfaces := #[3, 4], accessFlags := 1041 }

def heap : Heap := #[]
def classes : Array Class := #[k0, k1, k2, k3, k4, k5, k6, k7, k8]
def interned : List (Array UInt16 × Addr) := []
def slotsUsed : Nat := 0
def theMethod : MethodId := ⟨1, 1⟩
def args0 : Array Value := #[.int 5, .int 6, .int 7, .int 8, .int 9, .int 10]
def aboutOver (below : List Frame) : State where
  vm := { classes := classes, interned := interned.toArray }
  heap := heap
  slotsUsed := slotsUsed
  threads := #[{ frames := .invoking theMethod args0 :: below }]
def below0 : List Frame := [.native { method := ⟨0, 0⟩, args := #[] }]
def about1 : State := aboutOver below0
def p0 : Program := .bare "" "" ""
def e0 : Env := launch0.env 0 0 0
theorem w_frames : about1.frames = Frame.invoking theMethod args0 :: below0 := rfl
set_option maxRecDepth 65536 in
theorem w_args : argsFit about1.vm theMethod args0 = true := by decide +kernel
set_option maxRecDepth 65536 in
theorem w_heap : heapFits about1 = true := by decide +kernel
set_option maxRecDepth 65536 in
theorem w_runnable : about1.curStatus? = some .runnable := by decide +kernel
set_option maxRecDepth 65536 in
theorem w_alone : about1.alone = true := by decide +kernel
set_option maxRecDepth 65536 in
theorem w_named : about1.methodNamed? x = some theMethod := by decide +kernel
set_option maxRecDepth 65536 in
theorem w_hears : about1.hears theMethod below0 = true := by decide +kernel
set_option maxRecDepth 65536 in
theorem w_ripe : about1.ripe theMethod args0 below0 = true := by decide +kernel
theorem w_running : about1.status = .running := rfl
set_option maxRecDepth 65536 in
theorem w_room : about1.hasRoom e0.platform room_1 = true :=
  launch0.hasRoom_least _ room_1 (by decide +kernel) (by decide +kernel) (by decide +kernel) (by decide +kernel) (by decide +kernel) (by decide +kernel)
theorem allAtoms_all (ts : List Jvm.Cond) (a : Array Jvm.Value) (st : Jvm.State) : (allAtoms ts).before a st = ts.all (fun c => c.before a st) := by
  induction ts with
  | nil => rfl
  | cons c t ih =>
    show (Jvm.Cond.and c (allAtoms t)).before a st = _
    rw [Jvm.Cond.before_and, ih, List.all_cons]
def words1 : List Jvm.Cond := Jvm.Cond.code x code maxLocals ret :: tables_1
/-- a 'code' word, met by the world's own term for the bytes: nothing is compared byte by byte -/
theorem code_word {y : MethodName} {bytes : ByteArray} {mx : Nat} {rt : Option FieldType} {a : Array Value} {s : State} {m : MethodId} {meth : Method} {c : Code} (h1 : s.methodNamed? y = some m) (h2 : s.vm.method? m = some meth) (h3 : meth.code = some c) (h4 : c.code = bytes)
    (h5 : (c.maxLocals == mx && c.exceptionTable.isEmpty && decide (c.maxStack ≤ mostOperands) && decide (meth.sig.returnType = rt) && !meth.locks && decide (parseMethodDescriptor y.desc = some meth.sig)) = true) : (Jvm.Cond.code y bytes mx rt).before a s = true := by
  simp only [Bool.and_eq_true, beq_iff_eq, Bool.not_eq_true', decide_eq_true_eq] at h5
  obtain ⟨⟨⟨⟨⟨g1, g2⟩, g3⟩, g4⟩, g5⟩, g6⟩ := h5
  simp [Cond.before, Cond.holds, Cond.value, h1, h2, h3, h4, g1, g2, g3, g4, g5, g6]
def isCode : Jvm.Cond → Bool
  | .code _ _ _ _ => true
  | _ => false
theorem all_split {L : List Jvm.Cond} {P : Jvm.Cond → Bool} (h1 : L.all (fun c => isCode c || P c) = true) (h2 : ∀ c ∈ L.filter isCode, P c = true) : L.all P = true := by
  refine List.all_eq_true.mpr fun c hc => ?_
  have h := List.all_eq_true.mp h1 c hc
  rcases Bool.eq_false_or_eq_true (isCode c) with hi | hi
  · exact h2 c (List.mem_filter.mpr ⟨hc, hi⟩)
  · simpa [hi] using h
set_option maxRecDepth 65536 in
theorem w_c0 : (Jvm.Cond.code x code maxLocals ret).before args0 about1 = true := code_word (m := ⟨1, 1⟩) (meth := k1m1) (c := k1c1) (by decide +kernel) rfl rfl rfl (by decide +kernel)
set_option maxRecDepth 65536 in
theorem w_c1 : (Jvm.Cond.code ({ cls := "com/example/enclav/enclav/device/TaChanges", name := "<init>", desc := "(III)V" } : Jvm.MethodName) prog_15_method_1_code (4 : Nat) (Option.none : Option Jvm.ClassFile.FieldType)).before args0 about1 = true := code_word (m := ⟨2, 0⟩) (meth := k2m0) (c := k2c0) (by decide +kernel) rfl rfl rfl (by decide +kernel)
set_option maxRecDepth 65536 in
theorem w_c2 : (Jvm.Cond.code ({ cls := "java/lang/Object", name := "<init>", desc := "()V" } : Jvm.MethodName) object_method_1_code (1 : Nat) (Option.none : Option Jvm.ClassFile.FieldType)).before args0 about1 = true := code_word (m := ⟨0, 0⟩) (meth := k0m0) (c := k0c0) (by decide +kernel) rfl rfl rfl (by decide +kernel)
set_option maxRecDepth 65536 in
theorem w_c3 : (Jvm.Cond.code ({ cls := "com/example/enclav/enclav/device/TaChanges", name := "plus", desc := "(Lcom/example/enclav/enclav/device/TaChanges;)Lcom/example/enclav/enclav/device/TaChanges;" } : Jvm.MethodName) prog_15_method_5_code (2 : Nat) (Option.some (Jvm.ClassFile.FieldType.object "com/example/enclav/enclav/device/TaChanges"))).before args0 about1 = true := code_word (m := ⟨2, 4⟩) (meth := k2m4) (c := k2c4) (by decide +kernel) rfl rfl rfl (by decide +kernel)
set_option maxRecDepth 65536 in
theorem w_c4 : (Jvm.Cond.code ({ cls := "com/example/enclav/enclav/device/TaChanges", name := "installed", desc := "()I" } : Jvm.MethodName) prog_15_method_2_code (1 : Nat) (Option.some Jvm.ClassFile.FieldType.int)).before args0 about1 = true := code_word (m := ⟨2, 1⟩) (meth := k2m1) (c := k2c1) (by decide +kernel) rfl rfl rfl (by decide +kernel)
set_option maxRecDepth 65536 in
theorem w_c5 : (Jvm.Cond.code ({ cls := "com/example/enclav/enclav/device/TaChanges", name := "updated", desc := "()I" } : Jvm.MethodName) prog_15_method_3_code (1 : Nat) (Option.some Jvm.ClassFile.FieldType.int)).before args0 about1 = true := code_word (m := ⟨2, 2⟩) (meth := k2m2) (c := k2c2) (by decide +kernel) rfl rfl rfl (by decide +kernel)
set_option maxRecDepth 65536 in
theorem w_c6 : (Jvm.Cond.code ({ cls := "com/example/enclav/enclav/device/TaChanges", name := "deleted", desc := "()I" } : Jvm.MethodName) prog_15_method_4_code (1 : Nat) (Option.some Jvm.ClassFile.FieldType.int)).before args0 about1 = true := code_word (m := ⟨2, 3⟩) (meth := k2m3) (c := k2c3) (by decide +kernel) rfl rfl rfl (by decide +kernel)
def codes1 : List Jvm.Cond := [Jvm.Cond.code x code maxLocals ret, Jvm.Cond.code ({ cls := "com/example/enclav/enclav/device/TaChanges", name := "<init>", desc := "(III)V" } : Jvm.MethodName) prog_15_method_1_code (4 : Nat) (Option.none : Option Jvm.ClassFile.FieldType), Jvm.Cond.code ({ cls := "java/lang/Object", name := "<init>", desc := "()V" } : Jvm.MethodName) object_method_1_code (1 : Nat) (Option.none : Option Jvm.ClassFile.FieldType), Jvm.Cond.code ({ cls := "com/example/enclav/enclav/device/TaChanges", name := "plus", desc := "(Lcom/example/enclav/enclav/device/TaChanges;)Lcom/example/enclav/enclav/device/TaChanges;" } : Jvm.MethodName) prog_15_method_5_code (2 : Nat) (Option.some (Jvm.ClassFile.FieldType.object "com/example/enclav/enclav/device/TaChanges")), Jvm.Cond.code ({ cls := "com/example/enclav/enclav/device/TaChanges", name := "installed", desc := "()I" } : Jvm.MethodName) prog_15_method_2_code (1 : Nat) (Option.some Jvm.ClassFile.FieldType.int), Jvm.Cond.code ({ cls := "com/example/enclav/enclav/device/TaChanges", name := "updated", desc := "()I" } : Jvm.MethodName) prog_15_method_3_code (1 : Nat) (Option.some Jvm.ClassFile.FieldType.int), Jvm.Cond.code ({ cls := "com/example/enclav/enclav/device/TaChanges", name := "deleted", desc := "()I" } : Jvm.MethodName) prog_15_method_4_code (1 : Nat) (Option.some Jvm.ClassFile.FieldType.int)]
set_option maxRecDepth 65536 in
theorem codes_eq : words1.filter isCode = codes1 := rfl
theorem w_codes : ∀ c ∈ words1.filter isCode, c.before args0 about1 = true := by
  rw [codes_eq]
  intro c hc
  simp only [codes1, List.mem_cons, List.not_mem_nil, or_false] at hc
  rcases hc with rfl | rfl | rfl | rfl | rfl | rfl | rfl
  · exact w_c0
  · exact w_c1
  · exact w_c2
  · exact w_c3
  · exact w_c4
  · exact w_c5
  · exact w_c6
set_option maxRecDepth 65536 in
theorem w_t1 : (words1.take 24).all (fun c => isCode c || c.before args0 about1) = true := by decide +kernel
set_option maxRecDepth 65536 in
theorem w_t2 : (words1.drop 24).all (fun c => isCode c || c.before args0 about1) = true := by decide +kernel
theorem w_tables : (allAtoms (Jvm.Cond.code x code maxLocals ret :: tables_1)).before args0 about1 = true := by
  rw [allAtoms_all]
  show words1.all (fun c => c.before args0 about1) = true
  refine all_split ?_ w_codes
  rw [← List.take_append_drop 24 words1, List.all_append, w_t1, w_t2]
  rfl
set_option maxRecDepth 65536 in
theorem w_case : (Jvm.Cond.and given_1 narrow_1).before args0 about1 = true := by decide +kernel
theorem w_applies : (headSpec (Jvm.Cond.code x code maxLocals ret :: tables_1) room_1).applies x e0.platform about1 = true :=
  (Spec.applies_iff w_frames).mpr ⟨w_running, w_runnable, w_alone, w_named, w_hears, w_ripe, w_room, w_tables⟩
theorem atStart : AtStart classFile x code maxLocals ret World_1 tables_1 room_1 Calls_1 rest_1 Pre_1 launch0 p0 e0 about1 theMethod args0 below0 :=
  ⟨lists_1, trivial, launch0.admits_env _ _ _, launch0.least_env, fairChoices_fair.cas, fairChoices_fair.clock, w_frames, w_args, w_heap, w_applies, trivial, trivial, w_case⟩
end start1
theorem witness_1 : WitnessClaimed_1 := ⟨start1.p0, start1.e0, start1.about1, start1.theMethod, start1.args0, start1.below0, start1.atStart⟩
end Jvm.Pilot.@@N@@
