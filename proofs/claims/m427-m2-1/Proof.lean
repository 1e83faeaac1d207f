import JvmDerived
import JvmDerived.Pilot.@@N@@Statement
import JvmDerived.Pilot.@@N@@Code
set_option linter.unusedVariables false
set_option linter.unusedSimpArgs false
namespace Jvm.RoadKit
open Sem ClassFile Op Lib Jvm.Stand Jvm.Free Jvm.LawKit
section New
variable {p : Program} {l : Launch} {e : Env} {R : Room} {s : State} {m : MethodId} {args : Array Value} {below : List Frame} {meth : Method} {c : Code} {T : State} {locs : List Loc} {cells slots : Nat}
theorem retI (X : Stand p l e R s m args below meth c T locs cells slots) (hx : p.tables.exec = Jvm.exec) {pc : Nat} {Ls : Array Slot} {z : Int32} {rest : List Value} (hret : meth.sig.returnType = some .int) (hd : decode c.code pc = .ok (.ireturn, 1)) {fs : List Frame}
    (hl : ∀ (f : JFrame) (acts : List Action), f.method = m → f.locked = none → f.entered = [] → (doReturn e (T.setTop f) acts (some (.int z))).1 = T.setFrames fs) : Steps p.tables e below (T.setTop (mkF m pc Ls (.int z :: rest))) (T.setFrames fs) := by
  have hm' : T.vm.method? m = some meth := X.method'
  have hn : narrow .int (.int z) = .int z := rfl
  show Steps p.tables e below (T.setTop { method := m, pc := pc, locals := Ls, stack := _ :: rest, locked := none }) _
  jvm_step X.here [X.here.top, hx, hd, hm', hret, hn]
  first | (intro acts; rw [hl _ acts rfl rfl rfl]) | rw [hl _ _ rfl rfl rfl]
  exact Steps.refl _
end New
end Jvm.RoadKit
namespace Jvm.Pilot.@@N@@
open Jvm Jvm.ClassFile Sem Op Lib Jvm.Free Jvm.Stand Jvm.LawKit Jvm.RoadKit Bundle Jvm.Pilot.@@N@@.Jvm.D
theorem own_retJ {p : Program} {l : Launch} {e : Env} {R : Room} {s : State} {m : MethodId} {args : Array Value} {below : List Frame} {meth : Method} {c : Code} {T : State} {locs : List Loc} {cells slots : Nat} (X : Stand p l e R s m args below meth c T locs cells slots) (hx : p.tables.exec = Jvm.exec) {pc : Nat} {Ls : Array Slot} {z : Int64} {rest : List Value} (hret : meth.sig.returnType = some .long) (hd : decode c.code pc = .ok (.lreturn, 1)) {fs : List Frame}
    (hl : ∀ (f : JFrame) (acts : List Action), f.method = m → f.locked = none → f.entered = [] → (doReturn e (T.setTop f) acts (some (.long z))).1 = T.setFrames fs) : Steps p.tables e below (T.setTop (mkF m pc Ls (.long z :: rest))) (T.setFrames fs) := by
  have hm' : T.vm.method? m = some meth := X.method'
  have hn : narrow .long (.long z) = .long z := rfl
  show Steps p.tables e below (T.setTop { method := m, pc := pc, locals := Ls, stack := _ :: rest, locked := none }) _
  jvm_step X.here [X.here.top, hx, hd, hm', hret, hn]
  first | (intro acts; rw [hl _ acts rfl rfl rfl]) | rw [hl _ _ rfl rfl rfl]
  exact Steps.refl _
theorem own_retD {p : Program} {l : Launch} {e : Env} {R : Room} {s : State} {m : MethodId} {args : Array Value} {below : List Frame} {meth : Method} {c : Code} {T : State} {locs : List Loc} {cells slots : Nat} (X : Stand p l e R s m args below meth c T locs cells slots) (hx : p.tables.exec = Jvm.exec) {pc : Nat} {Ls : Array Slot} {z : UInt64} {rest : List Value} (hret : meth.sig.returnType = some .double) (hd : decode c.code pc = .ok (.dreturn, 1)) {fs : List Frame}
    (hl : ∀ (f : JFrame) (acts : List Action), f.method = m → f.locked = none → f.entered = [] → (doReturn e (T.setTop f) acts (some (.double z))).1 = T.setFrames fs) : Steps p.tables e below (T.setTop (mkF m pc Ls (.double z :: rest))) (T.setFrames fs) := by
  have hm' : T.vm.method? m = some meth := X.method'
  have hn : narrow .double (.double z) = .double z := rfl
  show Steps p.tables e below (T.setTop { method := m, pc := pc, locals := Ls, stack := _ :: rest, locked := none }) _
  jvm_step X.here [X.here.top, hx, hd, hm', hret, hn]
  first | (intro acts; rw [hl _ acts rfl rfl rfl]) | rw [hl _ _ rfl rfl rfl]
  exact Steps.refl _
theorem own_sta_keep {Z : State} {h h' : Heap} {C n d : String} {v : Value} {ws : List Addr} (F : Sta Z h C n d v) (K : Keep h h' ws) (q : ∀ x ∈ ws, ∀ c : Cell, h[x]? = some c → c.vm.isStatics = false) : Sta Z h' C n d v := by
  obtain ⟨cf, i, k, f, st, cell, h1, h2, h3, h4, h5, h6, h7⟩ := F
  exact ⟨cf, i, k, f, st, cell, h1, h2, h3, h4, K.2.1 st cell h5 (fun z => by have := q st z cell h5; rw [h6] at this; cases this), h6, h7⟩
theorem own_ins_keep {Z : State} {h h' : Heap} {a : Addr} {C : String} {b : Bool} {ws : List Addr} (F : Ins Z h a C b) (K : Keep h h' ws) : Ins Z h' a C b := by
  obtain ⟨cell, cT, h1, h2, h3⟩ := F
  obtain ⟨c', e1, e2, e3, -⟩ := K.2.2 a cell h1
  exact ⟨c', cT, e1, h2, by rw [e2, e3]; exact h3⟩
theorem own_pl0 {h : Heap} : ∀ x ∈ ([] : List Addr), ∀ c : Cell, h[x]? = some c → c.vm.isStatics = false := fun _ q => nomatch q
theorem own_plS {h : Heap} {y : Addr} {L : List Addr} (q : ∀ c : Cell, h[y]? = some c → c.vm.isStatics = false) (r : ∀ x ∈ L, ∀ c : Cell, h[x]? = some c → c.vm.isStatics = false) : ∀ x ∈ y :: L, ∀ c : Cell, h[x]? = some c → c.vm.isStatics = false := fun x z => (List.mem_cons.mp z).elim (fun u => u ▸ q) (r x)
theorem own_pl_exa {Z : State} {h : Heap} {a : Addr} {C : String} (F : Exa Z h a C) : ∀ c : Cell, h[a]? = some c → c.vm.isStatics = false := fun c hc => by
  obtain ⟨cell, k, h1, -, -, h4, -⟩ := F; cases h1.symm.trans hc; exact h4
theorem own_pl_fld {Z : State} {h : Heap} {a : Addr} {C n d : String} {v : Value} (F : Fld Z h a C n d v) : ∀ c : Cell, h[a]? = some c → c.vm.isStatics = false := fun c hc => by
  obtain ⟨cell, cf, k, i, f, h1, -, -, -, h5, -⟩ := F; cases h1.symm.trans hc; exact h5
theorem own_pl_arv {Z : State} {h : Heap} {a : Addr} {k : ClassId} {ty : FieldType} {z : Int32} {vs : List Value} {d : Value} (F : Arv Z h a k ty z vs d) : ∀ c : Cell, h[a]? = some c → c.vm.isStatics = false := fun c hc => by
  obtain ⟨cl, A, -⟩ := F; cases A.1.symm.trans hc; exact A.plain
theorem own_irr (w : Int32) : ¬ w < w := fun h => absurd (Int32.lt_iff_toInt_lt.mp h) (by omega)
abbrev own_in (n : Int32) : Prop := ¬ n < 0 ∧ n < (16 : Int32)
abbrev own_ok (k : Int) (w c n : Int32) : Prop := 0 ≤ w.toInt ∧ w.toInt ≤ k ∧ 0 ≤ c.toInt ∧ c.toInt ≤ k ∧ 0 ≤ n.toInt ∧ n.toInt ≤ k
def own_b (c w : Int32) : Int32 := if c < w then 1 else 0
theorem own_ne16 {n : Int32} (h : own_in n) : ¬ (n = (16 : Int32)) := fun q => by subst q; exact absurd h.2 (by decide)
theorem own_in_of {n : Int32} {k : Int} (h1 : 0 ≤ n.toInt) (h2 : n.toInt ≤ k) (h3 : k < 16) : own_in n := by
  constructor
  · rw [Int32.lt_iff_toInt_lt]; show ¬ n.toInt < 0; omega
  · rw [Int32.lt_iff_toInt_lt]; show n.toInt < 16; omega
theorem own_lt16 {n : Int32} {L : List Value} (h : own_in n) (hl : L.length = 16) : n.toNatClampNeg < L.length := by
  have h1 := h.1
  have h2 := h.2
  rw [Int32.lt_iff_toInt_lt] at h1 h2
  have e0 : (0 : Int32).toInt = 0 := rfl
  have e1 : (16 : Int32).toInt = 16 := rfl
  simp only [Int32.toNatClampNeg]; omega
theorem own_inc {n : Int32} {k : Int} (h1 : 0 ≤ n.toInt) (h2 : n.toInt ≤ k) (h3 : k < 16) : 0 ≤ (n + 1).toInt ∧ (n + 1).toInt ≤ k + 1 := by
  have a := c_iadd n 1
  have b := rng32 (n + 1)
  have e1 : (1 : Int32).toInt = 1 := rfl
  omega
theorem own_dec {c w : Int32} {k : Int} (h1 : 0 ≤ c.toInt) (h2 : c < w) (h3 : w.toInt ≤ k) (h4 : k < 16) : own_in (w - 1) := by
  have a := c_isub w 1
  have b := rng32 (w - 1)
  have e1 : (1 : Int32).toInt = 1 := rfl
  rw [Int32.lt_iff_toInt_lt] at h2
  exact own_in_of (k := k) (by omega) (by omega) h4
theorem own_get {Z : State} {h : Heap} {a : Addr} {k : ClassId} {vs : List Value} {dv : Value} {j : Int32} (V : Arv Z h a k .int (16 : Int32) vs dv) (q : own_in j) : ∃ x : Int32, vs.getD j.toNatClampNeg dv = .int x := by
  obtain ⟨cl, A, -, S, -, H, G⟩ := V
  have hin := inb_of S q
  exact fit_I (G _ (Nat.lt_of_not_le fun y => hin (Or.inr y))) (Or.inl rfl)
theorem d1_0 : decode prog_64_method_1_code 0 = .ok (.aload_n 0, 1) := by decide +kernel
theorem d1_1 : decode prog_64_method_1_code 1 = .ok (.invokespecial 1, 3) := by decide +kernel
theorem d1_4 : decode prog_64_method_1_code 4 = .ok (.aload_n 0, 1) := by decide +kernel
theorem d1_5 : decode prog_64_method_1_code 5 = .ok (.bipush 16, 2) := by decide +kernel
theorem d1_7 : decode prog_64_method_1_code 7 = .ok (.newarray .char, 2) := by decide +kernel
theorem d1_9 : decode prog_64_method_1_code 9 = .ok (.putfield 9, 3) := by decide +kernel
theorem d1_12 : decode prog_64_method_1_code 12 = .ok (.aload_n 0, 1) := by decide +kernel
theorem d1_13 : decode prog_64_method_1_code 13 = .ok (.bipush 16, 2) := by decide +kernel
theorem d1_15 : decode prog_64_method_1_code 15 = .ok (.newarray .int, 2) := by decide +kernel
theorem d1_17 : decode prog_64_method_1_code 17 = .ok (.putfield 13, 3) := by decide +kernel
theorem d1_20 : decode prog_64_method_1_code 20 = .ok (.aload_n 0, 1) := by decide +kernel
theorem d1_21 : decode prog_64_method_1_code 21 = .ok (.iload_n 1, 1) := by decide +kernel
theorem d1_22 : decode prog_64_method_1_code 22 = .ok (.putfield 17, 3) := by decide +kernel
theorem d1_25 : decode prog_64_method_1_code 25 = .ok (.aload_n 0, 1) := by decide +kernel
theorem d1_26 : decode prog_64_method_1_code 26 = .ok (.iload_n 2, 1) := by decide +kernel
theorem d1_27 : decode prog_64_method_1_code 27 = .ok (.putfield 21, 3) := by decide +kernel
theorem d1_30 : decode prog_64_method_1_code 30 = .ok (.return_, 1) := by decide +kernel
theorem pn_com_example_rouse_rouse_shell_CommandLine : plainName "com/example/rouse/rouse/shell/CommandLine" = true := by first | (simp [plainName, overriddenIn]; done) | decide +kernel
theorem ef_1 (m : MethodId) (a1 : Addr) (p2 : Int32) (p3 : Int32) : entryFrame m #[(.ref a1), (.int p2), (.int p3)] 3 = mkF m 0 #[.val (.ref a1), .val (.int p2), .val (.int p3)] [] := by first | (simp [entryFrame, mkF, argsToLocals, Value.category]; done) | rfl
def Q1 (Z : State) (a1 : Addr) (p2 : Int32) (p3 : Int32) (u1 : Value) (u2 : Value) (u3 : Value) (u4 : Value) (h0 : Heap) (n0 : Nat) (v : Option Value) (h : Heap) (L : List Loc) : Prop := ∃ (cb : Addr) (ck : ClassId) (cvs : List Value) (wb : Addr) (wk : ClassId) (wvs : List Value), v = none ∧ Fr n0 L ∧ Keep h0 h [a1] ∧ Fld Z h a1 "com/example/rouse/rouse/shell/CommandLine" "characters" "[C" (.ref cb) ∧ Fld Z h a1 "com/example/rouse/rouse/shell/CommandLine" "wordEnds" "[I" (.ref wb) ∧ Fld Z h a1 "com/example/rouse/rouse/shell/CommandLine" "length" "I" (.int (0 : Int32)) ∧ Fld Z h a1 "com/example/rouse/rouse/shell/CommandLine" "words" "I" (.int (0 : Int32)) ∧ Fld Z h a1 "com/example/rouse/rouse/shell/CommandLine" "commandStart" "I" (.int (0 : Int32)) ∧ h0.size ≤ cb ∧ h0.size ≤ wb ∧ cb ≠ wb ∧ Arv Z h cb ck .char (16 : Int32) cvs (.int (0 : Int32)) ∧ Arv Z h wb wk .int (16 : Int32) wvs (.int (0 : Int32)) ∧ cvs.length = 16 ∧ wvs.length = 16
set_option maxRecDepth 65536 in
set_option maxHeartbeats 40000000 in
theorem rm1 (l : Launch) (Z : State) (a0 : Array Value) (hw : ∀ d ∈ tables_1, d.before a0 Z = true) (ws : List Jvm.Cond) (a1 : Addr) (p2 : Int32) (p3 : Int32) (u1 : Value) (u2 : Value) (u3 : Value) (u4 : Value) (h0 : Heap) (n0 : Nat) (Z0 : n0 ≤ h0.size) (H0 : Exa Z h0 a1 "com/example/rouse/rouse/shell/CommandLine") (H1 : Fld Z h0 a1 "com/example/rouse/rouse/shell/CommandLine" "characters" "[C" u1) (H2 : Fld Z h0 a1 "com/example/rouse/rouse/shell/CommandLine" "wordEnds" "[I" u2) (H3 : Fld Z h0 a1 "com/example/rouse/rouse/shell/CommandLine" "maxCharacters" "I" u3) (H4 : Fld Z h0 a1 "com/example/rouse/rouse/shell/CommandLine" "maxWords" "I" u4) (H5 : Fld Z h0 a1 "com/example/rouse/rouse/shell/CommandLine" "length" "I" (.int (0 : Int32))) (H6 : Fld Z h0 a1 "com/example/rouse/rouse/shell/CommandLine" "words" "I" (.int (0 : Int32))) (H7 : Fld Z h0 a1 "com/example/rouse/rouse/shell/CommandLine" "commandStart" "I" (.int (0 : Int32))) (H8 : n0 ≤ a1) :
    MetFree l (⟨"com/example/rouse/rouse/shell/CommandLine", "<init>", "(II)V"⟩ : MethodName) (head1 (Jvm.Cond.code (⟨"com/example/rouse/rouse/shell/CommandLine", "<init>", "(II)V"⟩ : MethodName) prog_64_method_1_code 3 none :: ws) ({ frames := 1, cells := 2, slots := 32, locals := 12 } : Room)) (fun a U => a = #[(.ref a1), (.int p2), (.int p3)] ∧ Z.Warmed39 U.vm ∧ U.heap = h0) (fun _ _ _ _ _ => True) (fun _ U o U' => ∃ v L, o = .returned v ∧ Q1 Z a1 p2 p3 u1 u2 u3 u4 h0 n0 v U'.heap L ∧ FrameEnd U o U' L ({ frames := 1, cells := 2, slots := 32, locals := 12 } : Room).cells ({ frames := 1, cells := 2, slots := 32, locals := 12 } : Room).slots) := by
  refine MetFree.of_bodySF (plainFor_of_name pn_com_example_rouse_rouse_shell_CommandLine) hisR ?_
  intro p e s m args below meth c s₁ Bd hml0 hP hK
  obtain ⟨rfl, hZ, hh⟩ := hP
  have hx := Bd.exec
  have hby := Bd.bytes
  have hml : c.maxLocals = 3 := hml0
  have hown : s.vm.findClass "com/example/rouse/rouse/shell/CommandLine" = some m.cls := findClass_of_methodNamed Bd.named
  have hnm := (name_of_methodNamed Bd.named Bd.method).1
  have X0 : Stand p l e ({ frames := 1, cells := 2, slots := 32, locals := 12 } : Room) s m #[(.ref a1), (.int p2), (.int p3)] below meth c s₁ [] 0 0 := Stand.of_body Bd
  have e0 : s₁.heap = h0 := by rw [← hh, Bd.state]; rfl
  have N0 := Fr.nil n0
  have pre0 : ∀ t, Steps p.tables e below (s₁.setTop (mkF m 0 #[.val (.ref a1), .val (.int p2), .val (.int p3)] [])) t → Steps p.tables e below (s₁.setTop (entryFrame m #[(.ref a1), (.int p2), (.int p3)] 3)) t := fun t k => castTop (ef_1 m a1 p2 p3) k
  obtain ⟨T101, X101, e101, st101⟩ := initO X0 hx hZ hown (hw _ (List.mem_of_getElem? (i := 6) rfl)) (hw _ (List.mem_of_getElem? (i := 7) rfl)) (hw _ (List.mem_of_getElem? (i := 8) rfl)) e0 (g := (mkF m 1 #[.val (.ref a1), .val (.int p2), .val (.int p3)] [(.ref a1)])) rfl (by rw [hml]; rfl) rfl (hb hby d1_1) (by decide) (W := 0) (by show 2 * 0 + _ ≤ _; exact Nat.le_of_eq rfl) (by decide)
  obtain ⟨T102, h102, k102, X102, e102, E102, A102, Qe102, st102⟩ := newPE X101 hx hZ (hw _ (List.mem_of_getElem? (i := 9) rfl)) e101 (g := (mkF m 7 #[.val (.ref a1), .val (.int p2), .val (.int p3)] [(.int (16 : Int32)), (.ref a1)])) rfl (hb hby d1_7) rfl (by decide) (cap := 16) (by decide) (by decide) (by decide) (by decide) (ad := "[C") (by decide)
  obtain ⟨b102, g102⟩ : ∃ z, z = h0.size := ⟨_, rfl⟩
  rw [← g102] at A102 Qe102 st102
  have V102 : Arv Z h102 b102 k102 .char (16 : Int32) [(.int (0 : Int32)), (.int (0 : Int32)), (.int (0 : Int32)), (.int (0 : Int32)), (.int (0 : Int32)), (.int (0 : Int32)), (.int (0 : Int32)), (.int (0 : Int32)), (.int (0 : Int32)), (.int (0 : Int32)), (.int (0 : Int32)), (.int (0 : Int32)), (.int (0 : Int32)), (.int (0 : Int32)), (.int (0 : Int32)), (.int (0 : Int32))] (.int (0 : Int32)) := (Arv.new A102 (by decide)).pad (pad_rep [] (.int (0 : Int32)) 16)
  have f103 : Fld Z h102 a1 "com/example/rouse/rouse/shell/CommandLine" "characters" "[C" u1 := (H1.ext E102)
  have f104 : Exa Z h102 a1 "com/example/rouse/rouse/shell/CommandLine" := (H0.ext E102)
  obtain ⟨T105, h105, X105, e105, W105, st105⟩ := putF X102 hx hZ hown (host := "") (Or.inl (hw _ (List.mem_of_getElem? (i := 10) rfl))) Via.refl e102 f103 f104 (Or.inl (hw _ (List.mem_of_getElem? (i := 11) rfl))) (hw _ (List.mem_of_getElem? (i := 1) rfl)) (ty := (.array .char)) (by decide) rfl rfl (g := (mkF m 9 #[.val (.ref a1), .val (.int p2), .val (.int p3)] [(.ref b102), (.ref a1)])) rfl rfl (hb hby d1_9)
  have Fw105 := f103.same W105
  have N105 := Fr.snoc X105 N0 H8
  obtain ⟨T106, h106, k106, X106, e106, E106, A106, Qe106, st106⟩ := newPE X105 hx hZ (hw _ (List.mem_of_getElem? (i := 12) rfl)) e105 (g := (mkF m 15 #[.val (.ref a1), .val (.int p2), .val (.int p3)] [(.int (16 : Int32)), (.ref a1)])) rfl (hb hby d1_15) rfl (by decide) (cap := 16) (by decide) (by decide) (by decide) (by decide) (ad := "[I") (by decide)
  obtain ⟨b106, g106⟩ : ∃ z, z = h105.size := ⟨_, rfl⟩
  rw [← g106] at A106 Qe106 st106
  have V106 : Arv Z h106 b106 k106 .int (16 : Int32) [(.int (0 : Int32)), (.int (0 : Int32)), (.int (0 : Int32)), (.int (0 : Int32)), (.int (0 : Int32)), (.int (0 : Int32)), (.int (0 : Int32)), (.int (0 : Int32)), (.int (0 : Int32)), (.int (0 : Int32)), (.int (0 : Int32)), (.int (0 : Int32)), (.int (0 : Int32)), (.int (0 : Int32)), (.int (0 : Int32)), (.int (0 : Int32))] (.int (0 : Int32)) := (Arv.new A106 (by decide)).pad (pad_rep [] (.int (0 : Int32)) 16)
  have f107 : Fld Z h106 a1 "com/example/rouse/rouse/shell/CommandLine" "wordEnds" "[I" u2 := (((H2.ext E102).other W105 (Or.inr (slot_ne (Or.inl (hw _ (List.mem_of_getElem? (i := 14) rfl))) (Or.inl (hw _ (List.mem_of_getElem? (i := 11) rfl))) (by decide) (t := (.array .int)) (t' := (.array .char)) (by decide) (by decide)))).ext E106)
  have f108 : Exa Z h106 a1 "com/example/rouse/rouse/shell/CommandLine" := ((f104.wr W105).ext E106)
  obtain ⟨T109, h109, X109, e109, W109, st109⟩ := putF X106 hx hZ hown (host := "") (Or.inl (hw _ (List.mem_of_getElem? (i := 13) rfl))) Via.refl e106 f107 f108 (Or.inl (hw _ (List.mem_of_getElem? (i := 14) rfl))) (hw _ (List.mem_of_getElem? (i := 1) rfl)) (ty := (.array .int)) (by decide) rfl rfl (g := (mkF m 17 #[.val (.ref a1), .val (.int p2), .val (.int p3)] [(.ref b106), (.ref a1)])) rfl rfl (hb hby d1_17)
  have Fw109 := f107.same W109
  have N109 := Fr.snoc X109 N105 H8
  have f110 : Fld Z h109 a1 "com/example/rouse/rouse/shell/CommandLine" "maxCharacters" "I" u3 := ((((H3.ext E102).other W105 (Or.inr (slot_ne (Or.inr (hw _ (List.mem_of_getElem? (i := 16) rfl))) (Or.inl (hw _ (List.mem_of_getElem? (i := 11) rfl))) (by decide) (t := .int) (t' := (.array .char)) (by decide) (by decide)))).ext E106).other W109 (Or.inr (slot_ne (Or.inr (hw _ (List.mem_of_getElem? (i := 16) rfl))) (Or.inl (hw _ (List.mem_of_getElem? (i := 14) rfl))) (by decide) (t := .int) (t' := (.array .int)) (by decide) (by decide))))
  have f111 : Exa Z h109 a1 "com/example/rouse/rouse/shell/CommandLine" := (f108.wr W109)
  obtain ⟨T112, h112, X112, e112, W112, st112⟩ := putF X109 hx hZ hown (host := "") (Or.inl (hw _ (List.mem_of_getElem? (i := 15) rfl))) Via.refl e109 f110 f111 (Or.inr ⟨(hw _ (List.mem_of_getElem? (i := 16) rfl)), rfl, hnm⟩) (hw _ (List.mem_of_getElem? (i := 1) rfl)) (ty := .int) (by decide) rfl rfl (g := (mkF m 22 #[.val (.ref a1), .val (.int p2), .val (.int p3)] [(.int p2), (.ref a1)])) rfl rfl (hb hby d1_22)
  have Fw112 := f110.same W112
  have N112 := Fr.snoc X112 N109 H8
  have f113 : Fld Z h112 a1 "com/example/rouse/rouse/shell/CommandLine" "maxWords" "I" u4 := (((((H4.ext E102).other W105 (Or.inr (slot_ne (Or.inr (hw _ (List.mem_of_getElem? (i := 18) rfl))) (Or.inl (hw _ (List.mem_of_getElem? (i := 11) rfl))) (by decide) (t := .int) (t' := (.array .char)) (by decide) (by decide)))).ext E106).other W109 (Or.inr (slot_ne (Or.inr (hw _ (List.mem_of_getElem? (i := 18) rfl))) (Or.inl (hw _ (List.mem_of_getElem? (i := 14) rfl))) (by decide) (t := .int) (t' := (.array .int)) (by decide) (by decide)))).other W112 (Or.inr (slot_ne (Or.inr (hw _ (List.mem_of_getElem? (i := 18) rfl))) (Or.inr (hw _ (List.mem_of_getElem? (i := 16) rfl))) (by decide) (t := .int) (t' := .int) (by decide) (by decide))))
  have f114 : Exa Z h112 a1 "com/example/rouse/rouse/shell/CommandLine" := (f111.wr W112)
  obtain ⟨T115, h115, X115, e115, W115, st115⟩ := putF X112 hx hZ hown (host := "") (Or.inl (hw _ (List.mem_of_getElem? (i := 17) rfl))) Via.refl e112 f113 f114 (Or.inr ⟨(hw _ (List.mem_of_getElem? (i := 18) rfl)), rfl, hnm⟩) (hw _ (List.mem_of_getElem? (i := 1) rfl)) (ty := .int) (by decide) rfl rfl (g := (mkF m 27 #[.val (.ref a1), .val (.int p2), .val (.int p3)] [(.int p3), (.ref a1)])) rfl rfl (hb hby d1_27)
  have Fw115 := f113.same W115
  have N115 := Fr.snoc X115 N112 H8
  have f116 : Fld Z h115 a1 "com/example/rouse/rouse/shell/CommandLine" "characters" "[C" (.ref b102) := ((((Fw105.ext E106).other W109 (Or.inr (slot_ne (Or.inl (hw _ (List.mem_of_getElem? (i := 11) rfl))) (Or.inl (hw _ (List.mem_of_getElem? (i := 14) rfl))) (by decide) (t := (.array .char)) (t' := (.array .int)) (by decide) (by decide)))).other W112 (Or.inr (slot_ne (Or.inl (hw _ (List.mem_of_getElem? (i := 11) rfl))) (Or.inr (hw _ (List.mem_of_getElem? (i := 16) rfl))) (by decide) (t := (.array .char)) (t' := .int) (by decide) (by decide)))).other W115 (Or.inr (slot_ne (Or.inl (hw _ (List.mem_of_getElem? (i := 11) rfl))) (Or.inr (hw _ (List.mem_of_getElem? (i := 18) rfl))) (by decide) (t := (.array .char)) (t' := .int) (by decide) (by decide))))
  have f117 : Fld Z h115 a1 "com/example/rouse/rouse/shell/CommandLine" "wordEnds" "[I" (.ref b106) := ((Fw109.other W112 (Or.inr (slot_ne (Or.inl (hw _ (List.mem_of_getElem? (i := 14) rfl))) (Or.inr (hw _ (List.mem_of_getElem? (i := 16) rfl))) (by decide) (t := (.array .int)) (t' := .int) (by decide) (by decide)))).other W115 (Or.inr (slot_ne (Or.inl (hw _ (List.mem_of_getElem? (i := 14) rfl))) (Or.inr (hw _ (List.mem_of_getElem? (i := 18) rfl))) (by decide) (t := (.array .int)) (t' := .int) (by decide) (by decide))))
  have f118 : Fld Z h115 a1 "com/example/rouse/rouse/shell/CommandLine" "length" "I" (.int (0 : Int32)) := ((((((H5.ext E102).other W105 (Or.inr (slot_ne (Or.inl (hw _ (List.mem_of_getElem? (i := 38) rfl))) (Or.inl (hw _ (List.mem_of_getElem? (i := 11) rfl))) (by decide) (t := .int) (t' := (.array .char)) (by decide) (by decide)))).ext E106).other W109 (Or.inr (slot_ne (Or.inl (hw _ (List.mem_of_getElem? (i := 38) rfl))) (Or.inl (hw _ (List.mem_of_getElem? (i := 14) rfl))) (by decide) (t := .int) (t' := (.array .int)) (by decide) (by decide)))).other W112 (Or.inr (slot_ne (Or.inl (hw _ (List.mem_of_getElem? (i := 38) rfl))) (Or.inr (hw _ (List.mem_of_getElem? (i := 16) rfl))) (by decide) (t := .int) (t' := .int) (by decide) (by decide)))).other W115 (Or.inr (slot_ne (Or.inl (hw _ (List.mem_of_getElem? (i := 38) rfl))) (Or.inr (hw _ (List.mem_of_getElem? (i := 18) rfl))) (by decide) (t := .int) (t' := .int) (by decide) (by decide))))
  have f119 : Fld Z h115 a1 "com/example/rouse/rouse/shell/CommandLine" "words" "I" (.int (0 : Int32)) := ((((((H6.ext E102).other W105 (Or.inr (slot_ne (Or.inl (hw _ (List.mem_of_getElem? (i := 25) rfl))) (Or.inl (hw _ (List.mem_of_getElem? (i := 11) rfl))) (by decide) (t := .int) (t' := (.array .char)) (by decide) (by decide)))).ext E106).other W109 (Or.inr (slot_ne (Or.inl (hw _ (List.mem_of_getElem? (i := 25) rfl))) (Or.inl (hw _ (List.mem_of_getElem? (i := 14) rfl))) (by decide) (t := .int) (t' := (.array .int)) (by decide) (by decide)))).other W112 (Or.inr (slot_ne (Or.inl (hw _ (List.mem_of_getElem? (i := 25) rfl))) (Or.inr (hw _ (List.mem_of_getElem? (i := 16) rfl))) (by decide) (t := .int) (t' := .int) (by decide) (by decide)))).other W115 (Or.inr (slot_ne (Or.inl (hw _ (List.mem_of_getElem? (i := 25) rfl))) (Or.inr (hw _ (List.mem_of_getElem? (i := 18) rfl))) (by decide) (t := .int) (t' := .int) (by decide) (by decide))))
  have f120 : Fld Z h115 a1 "com/example/rouse/rouse/shell/CommandLine" "commandStart" "I" (.int (0 : Int32)) := ((((((H7.ext E102).other W105 (Or.inr (slot_ne (Or.inl (hw _ (List.mem_of_getElem? (i := 27) rfl))) (Or.inl (hw _ (List.mem_of_getElem? (i := 11) rfl))) (by decide) (t := .int) (t' := (.array .char)) (by decide) (by decide)))).ext E106).other W109 (Or.inr (slot_ne (Or.inl (hw _ (List.mem_of_getElem? (i := 27) rfl))) (Or.inl (hw _ (List.mem_of_getElem? (i := 14) rfl))) (by decide) (t := .int) (t' := (.array .int)) (by decide) (by decide)))).other W112 (Or.inr (slot_ne (Or.inl (hw _ (List.mem_of_getElem? (i := 27) rfl))) (Or.inr (hw _ (List.mem_of_getElem? (i := 16) rfl))) (by decide) (t := .int) (t' := .int) (by decide) (by decide)))).other W115 (Or.inr (slot_ne (Or.inl (hw _ (List.mem_of_getElem? (i := 27) rfl))) (Or.inr (hw _ (List.mem_of_getElem? (i := 18) rfl))) (by decide) (t := .int) (t' := .int) (by decide) (by decide))))
  have ne121 : b102 ≠ b106 := (Nat.ne_of_lt (Nat.lt_of_lt_of_le (Qe102.wr W105).lt (Nat.le_of_eq g106.symm)))
  have ne122 : a1 ≠ b102 := (Nat.ne_of_lt (Nat.lt_of_lt_of_le H0.lt (Nat.le_of_eq g102.symm)))
  have f123 : Arv Z h115 b102 k102 .char (16 : Int32) [(.int (0 : Int32)), (.int (0 : Int32)), (.int (0 : Int32)), (.int (0 : Int32)), (.int (0 : Int32)), (.int (0 : Int32)), (.int (0 : Int32)), (.int (0 : Int32)), (.int (0 : Int32)), (.int (0 : Int32)), (.int (0 : Int32)), (.int (0 : Int32)), (.int (0 : Int32)), (.int (0 : Int32)), (.int (0 : Int32)), (.int (0 : Int32))] (.int (0 : Int32)) := (((((V102.other W105 (Ne.symm ne122)).ext E106).other W109 (Ne.symm ne122)).other W112 (Ne.symm ne122)).other W115 (Ne.symm ne122))
  have ne124 : a1 ≠ b106 := (Nat.ne_of_lt (Nat.lt_of_lt_of_le (f104.wr W105).lt (Nat.le_of_eq g106.symm)))
  have f125 : Arv Z h115 b106 k106 .int (16 : Int32) [(.int (0 : Int32)), (.int (0 : Int32)), (.int (0 : Int32)), (.int (0 : Int32)), (.int (0 : Int32)), (.int (0 : Int32)), (.int (0 : Int32)), (.int (0 : Int32)), (.int (0 : Int32)), (.int (0 : Int32)), (.int (0 : Int32)), (.int (0 : Int32)), (.int (0 : Int32)), (.int (0 : Int32)), (.int (0 : Int32)), (.int (0 : Int32))] (.int (0 : Int32)) := (((V106.other W109 (Ne.symm ne124)).other W112 (Ne.symm ne124)).other W115 (Ne.symm ne124))
  obtain ⟨fs, hr, hrun, hended, hW, hsame⟩ := X115.leave (v := none) (fun _ => rfl)
  refine ⟨_, _, pre0 _ ?_, hrun, hended, _, _, rfl, ?_, ⟨_, rfl⟩, hW, hsame.mono (by decide) (by decide)⟩
  · skip
    show Steps p.tables e below (s₁.setTop (mkF m 0 #[.val (.ref a1), .val (.int p2), .val (.int p3)] [])) _
    refine XS.aloadN X0.here hx rfl (hb hby d1_0) rfl rfl ?_
    show Steps p.tables e below (s₁.setTop (mkF m 1 #[.val (.ref a1), .val (.int p2), .val (.int p3)] [(.ref a1)])) _
    refine st101 _ ?_
    show Steps p.tables e below (T101.setTop (mkF m 4 #[.val (.ref a1), .val (.int p2), .val (.int p3)] [])) _
    refine XS.aloadN X101.here hx rfl (hb hby d1_4) rfl rfl ?_
    show Steps p.tables e below (T101.setTop (mkF m 5 #[.val (.ref a1), .val (.int p2), .val (.int p3)] [(.ref a1)])) _
    refine XS.bipush X101.here hx rfl (hb hby d1_5) ?_
    show Steps p.tables e below (T101.setTop (mkF m 7 #[.val (.ref a1), .val (.int p2), .val (.int p3)] [(.int (16 : Int32)), (.ref a1)])) _
    refine st102 _ ?_
    show Steps p.tables e below (T102.setTop (mkF m 9 #[.val (.ref a1), .val (.int p2), .val (.int p3)] [(.ref b102), (.ref a1)])) _
    refine st105 _ ?_
    show Steps p.tables e below (T105.setTop (mkF m 12 #[.val (.ref a1), .val (.int p2), .val (.int p3)] [])) _
    refine XS.aloadN X105.here hx rfl (hb hby d1_12) rfl rfl ?_
    show Steps p.tables e below (T105.setTop (mkF m 13 #[.val (.ref a1), .val (.int p2), .val (.int p3)] [(.ref a1)])) _
    refine XS.bipush X105.here hx rfl (hb hby d1_13) ?_
    show Steps p.tables e below (T105.setTop (mkF m 15 #[.val (.ref a1), .val (.int p2), .val (.int p3)] [(.int (16 : Int32)), (.ref a1)])) _
    refine st106 _ ?_
    show Steps p.tables e below (T106.setTop (mkF m 17 #[.val (.ref a1), .val (.int p2), .val (.int p3)] [(.ref b106), (.ref a1)])) _
    refine st109 _ ?_
    show Steps p.tables e below (T109.setTop (mkF m 20 #[.val (.ref a1), .val (.int p2), .val (.int p3)] [])) _
    refine XS.aloadN X109.here hx rfl (hb hby d1_20) rfl rfl ?_
    show Steps p.tables e below (T109.setTop (mkF m 21 #[.val (.ref a1), .val (.int p2), .val (.int p3)] [(.ref a1)])) _
    refine XS.iloadN X109.here hx rfl (hb hby d1_21) rfl ?_
    show Steps p.tables e below (T109.setTop (mkF m 22 #[.val (.ref a1), .val (.int p2), .val (.int p3)] [(.int p2), (.ref a1)])) _
    refine st112 _ ?_
    show Steps p.tables e below (T112.setTop (mkF m 25 #[.val (.ref a1), .val (.int p2), .val (.int p3)] [])) _
    refine XS.aloadN X112.here hx rfl (hb hby d1_25) rfl rfl ?_
    show Steps p.tables e below (T112.setTop (mkF m 26 #[.val (.ref a1), .val (.int p2), .val (.int p3)] [(.ref a1)])) _
    refine XS.iloadN X112.here hx rfl (hb hby d1_26) rfl ?_
    show Steps p.tables e below (T112.setTop (mkF m 27 #[.val (.ref a1), .val (.int p2), .val (.int p3)] [(.int p3), (.ref a1)])) _
    refine st115 _ ?_
    show Steps p.tables e below (T115.setTop (mkF m 30 #[.val (.ref a1), .val (.int p2), .val (.int p3)] [])) _
    exact X115.returnOut hx Bd.returns (hb hby d1_30) hr
  · show Q1 Z a1 p2 p3 u1 u2 u3 u4 h0 n0 _ T115.heap _
    rw [e115]
    exact ⟨b102, k102, [(.int (0 : Int32)), (.int (0 : Int32)), (.int (0 : Int32)), (.int (0 : Int32)), (.int (0 : Int32)), (.int (0 : Int32)), (.int (0 : Int32)), (.int (0 : Int32)), (.int (0 : Int32)), (.int (0 : Int32)), (.int (0 : Int32)), (.int (0 : Int32)), (.int (0 : Int32)), (.int (0 : Int32)), (.int (0 : Int32)), (.int (0 : Int32))], b106, k106, [(.int (0 : Int32)), (.int (0 : Int32)), (.int (0 : Int32)), (.int (0 : Int32)), (.int (0 : Int32)), (.int (0 : Int32)), (.int (0 : Int32)), (.int (0 : Int32)), (.int (0 : Int32)), (.int (0 : Int32)), (.int (0 : Int32)), (.int (0 : Int32)), (.int (0 : Int32)), (.int (0 : Int32)), (.int (0 : Int32)), (.int (0 : Int32))], rfl, N115, (((((((Keep.refl h0 [a1]).ext E102).wr W105 (Or.inl (List.mem_of_getElem? (i := 0) rfl))).ext E106).wr W109 (Or.inl (List.mem_of_getElem? (i := 0) rfl))).wr W112 (Or.inl (List.mem_of_getElem? (i := 0) rfl))).wr W115 (Or.inl (List.mem_of_getElem? (i := 0) rfl))), f116, f117, f118, f119, f120, (Nat.le_trans (Nat.le_refl _) (Nat.le_of_eq g102.symm)), (Nat.le_trans (Nat.le_trans (Nat.le_trans (Nat.le_refl _) E102.1) (Nat.le_of_eq W105.size.symm)) (Nat.le_of_eq g106.symm)), ne121, f123, f125, rfl, rfl⟩
theorem d3_0 : decode prog_64_method_4_code 0 = .ok (.aload_n 0, 1) := by decide +kernel
theorem d3_1 : decode prog_64_method_4_code 1 = .ok (.getfield 39, 3) := by decide +kernel
theorem d3_4 : decode prog_64_method_4_code 4 = .ok (.aload_n 0, 1) := by decide +kernel
theorem d3_5 : decode prog_64_method_4_code 5 = .ok (.getfield 45, 3) := by decide +kernel
theorem d3_8 : decode prog_64_method_4_code 8 = .ok (.if_icmp .le 7, 3) := by decide +kernel
theorem d3_11 : decode prog_64_method_4_code 11 = .ok (.iconst 1, 1) := by decide +kernel
theorem d3_12 : decode prog_64_method_4_code 12 = .ok (.goto 4, 3) := by decide +kernel
theorem d3_16 : decode prog_64_method_4_code 16 = .ok (.ireturn, 1) := by decide +kernel
theorem d3_15 : decode prog_64_method_4_code 15 = .ok (.iconst 0, 1) := by decide +kernel
theorem ef_3 (m : MethodId) (a1 : Addr) : entryFrame m #[(.ref a1)] 1 = mkF m 0 #[.val (.ref a1)] [] := by first | (simp [entryFrame, mkF, argsToLocals, Value.category]; done) | rfl
def Q3 (Z : State) (a1 : Addr) (w : Int32) (cs : Int32) (h0 : Heap) (n0 : Nat) (v : Option Value) (h : Heap) (L : List Loc) : Prop := v = some (.int (own_b cs w)) ∧ Fr n0 L ∧ h = h0
set_option maxRecDepth 65536 in
set_option maxHeartbeats 40000000 in
theorem rm3 (l : Launch) (Z : State) (a0 : Array Value) (hw : ∀ d ∈ tables_1, d.before a0 Z = true) (ws : List Jvm.Cond) (a1 : Addr) (w : Int32) (cs : Int32) (h0 : Heap) (n0 : Nat) (Z0 : n0 ≤ h0.size) (H0 : Fld Z h0 a1 "com/example/rouse/rouse/shell/CommandLine" "words" "I" (.int w)) (H1 : Fld Z h0 a1 "com/example/rouse/rouse/shell/CommandLine" "commandStart" "I" (.int cs)) :
    MetFree l (⟨"com/example/rouse/rouse/shell/CommandLine", "commandHasWords", "()Z"⟩ : MethodName) (head1 (Jvm.Cond.code (⟨"com/example/rouse/rouse/shell/CommandLine", "commandHasWords", "()Z"⟩ : MethodName) prog_64_method_4_code 1 (some .boolean) :: ws) ({ frames := 0, cells := 0, slots := 0, locals := 0 } : Room)) (fun a U => a = #[(.ref a1)] ∧ Z.Warmed39 U.vm ∧ U.heap = h0) (fun _ _ _ _ _ => True) (fun _ U o U' => ∃ v L, o = .returned v ∧ Q3 Z a1 w cs h0 n0 v U'.heap L ∧ FrameEnd U o U' L ({ frames := 0, cells := 0, slots := 0, locals := 0 } : Room).cells ({ frames := 0, cells := 0, slots := 0, locals := 0 } : Room).slots) := by
  refine MetFree.of_bodySF (plainFor_of_name pn_com_example_rouse_rouse_shell_CommandLine) hisR ?_
  intro p e s m args below meth c s₁ Bd hml0 hP hK
  obtain ⟨rfl, hZ, hh⟩ := hP
  have hx := Bd.exec
  have hby := Bd.bytes
  have hml : c.maxLocals = 1 := hml0
  have hown : s.vm.findClass "com/example/rouse/rouse/shell/CommandLine" = some m.cls := findClass_of_methodNamed Bd.named
  have hnm := (name_of_methodNamed Bd.named Bd.method).1
  have X0 : Stand p l e ({ frames := 0, cells := 0, slots := 0, locals := 0 } : Room) s m #[(.ref a1)] below meth c s₁ [] 0 0 := Stand.of_body Bd
  have e0 : s₁.heap = h0 := by rw [← hh, Bd.state]; rfl
  have N0 := Fr.nil n0
  have pre0 : ∀ t, Steps p.tables e below (s₁.setTop (mkF m 0 #[.val (.ref a1)] [])) t → Steps p.tables e below (s₁.setTop (entryFrame m #[(.ref a1)] 1)) t := fun t k => castTop (ef_3 m a1) k
  obtain ⟨T101, X101, e101, st101⟩ := getF X0 hx hZ hown (host := "") (Or.inl (hw _ (List.mem_of_getElem? (i := 24) rfl))) Via.refl e0 H0 (g := (mkF m 1 #[.val (.ref a1)] [(.ref a1)])) rfl rfl (hb hby d3_1)
  obtain ⟨T102, X102, e102, st102⟩ := getF X101 hx hZ hown (host := "") (Or.inl (hw _ (List.mem_of_getElem? (i := 26) rfl))) Via.refl e101 H1 (g := (mkF m 5 #[.val (.ref a1)] [(.ref a1), (.int w)])) rfl rfl (hb hby d3_5)
  have pre103 : ∀ t, Steps p.tables e below (T102.setTop (mkF m 8 #[.val (.ref a1)] [(.int cs), (.int w)])) t → Steps p.tables e below (s₁.setTop (entryFrame m #[(.ref a1)] 1)) t := fun t kt => by
    refine pre0 t ?_
    show Steps p.tables e below (s₁.setTop (mkF m 0 #[.val (.ref a1)] [])) _
    refine XS.aloadN X0.here hx rfl (hb hby d3_0) rfl rfl ?_
    show Steps p.tables e below (s₁.setTop (mkF m 1 #[.val (.ref a1)] [(.ref a1)])) _
    refine st101 _ ?_
    show Steps p.tables e below (T101.setTop (mkF m 4 #[.val (.ref a1)] [(.int w)])) _
    refine XS.aloadN X101.here hx rfl (hb hby d3_4) rfl rfl ?_
    show Steps p.tables e below (T101.setTop (mkF m 5 #[.val (.ref a1)] [(.ref a1), (.int w)])) _
    refine st102 _ ?_
    show Steps p.tables e below (T102.setTop (mkF m 8 #[.val (.ref a1)] [(.int cs), (.int w)])) _
    exact kt
  by_cases hc8_104 : cs < w
  · skip
    obtain ⟨fs, hr, hrun, hended, hW, hsame⟩ := X102.leave (v := some (.int (1 : Int32))) (fun h => by rw [Bd.returns] at h; cases h)
    refine ⟨_, _, pre103 _ ?_, hrun, hended, _, _, rfl, ?_, ⟨_, rfl⟩, hW, hsame.mono (by decide) (by decide)⟩
    · skip
      show Steps p.tables e below (T102.setTop (mkF m 8 #[.val (.ref a1)] [(.int cs), (.int w)])) _
      refine XS.icmpNo X102.here hx rfl (hb hby d3_8) rfl (tlt (hc8_104 : cs < w)).2.2.2 ?_
      show Steps p.tables e below (T102.setTop (mkF m 11 #[.val (.ref a1)] [])) _
      refine XS.iconst X102.here hx rfl (hb hby d3_11) ?_
      show Steps p.tables e below (T102.setTop (mkF m 12 #[.val (.ref a1)] [(.int (1 : Int32))])) _
      refine XS.goto X102.here hx rfl (pc0 := 12) (pc' := 16) rfl (hb hby d3_12) (by decide) (by decide) ?_
      show Steps p.tables e below (T102.setTop (mkF m 16 #[.val (.ref a1)] [(.int (1 : Int32))])) _
      exact retN X102 hx (t := .boolean) Bd.returns (by simp) (hb hby d3_16) hr
    · show Q3 Z a1 w cs h0 n0 _ T102.heap _
      rw [e102]
      exact ⟨(by simp only [own_b, eq_true hc8_104, if_true, if_false]), N0, rfl⟩
  · skip
    obtain ⟨fs, hr, hrun, hended, hW, hsame⟩ := X102.leave (v := some (.int (0 : Int32))) (fun h => by rw [Bd.returns] at h; cases h)
    refine ⟨_, _, pre103 _ ?_, hrun, hended, _, _, rfl, ?_, ⟨_, rfl⟩, hW, hsame.mono (by decide) (by decide)⟩
    · skip
      show Steps p.tables e below (T102.setTop (mkF m 8 #[.val (.ref a1)] [(.int cs), (.int w)])) _
      refine XS.icmpYes X102.here hx rfl (pc0 := 8) (pc' := 15) rfl (hb hby d3_8) rfl (flt (hc8_104 : ¬ (cs < w))).2.2.2 (by decide) (by decide) ?_
      show Steps p.tables e below (T102.setTop (mkF m 15 #[.val (.ref a1)] [])) _
      refine XS.iconst X102.here hx rfl (hb hby d3_15) ?_
      show Steps p.tables e below (T102.setTop (mkF m 16 #[.val (.ref a1)] [(.int (0 : Int32))])) _
      exact retN X102 hx (t := .boolean) Bd.returns (by simp) (hb hby d3_16) hr
    · show Q3 Z a1 w cs h0 n0 _ T102.heap _
      rw [e102]
      exact ⟨(by simp only [own_b, eq_false hc8_104, if_true, if_false]), N0, rfl⟩
theorem d5_0 : decode prog_64_method_2_code 0 = .ok (.aload_n 0, 1) := by decide +kernel
theorem d5_1 : decode prog_64_method_2_code 1 = .ok (.getfield 24, 3) := by decide +kernel
theorem d5_4 : decode prog_64_method_2_code 4 = .ok (.aload_n 0, 1) := by decide +kernel
theorem d5_5 : decode prog_64_method_2_code 5 = .ok (.getfield 9, 3) := by decide +kernel
theorem d5_8 : decode prog_64_method_2_code 8 = .ok (.arraylength, 1) := by decide +kernel
theorem d5_9 : decode prog_64_method_2_code 9 = .ok (.if_icmp .ne 27, 3) := by decide +kernel
theorem d5_36 : decode prog_64_method_2_code 36 = .ok (.aload_n 0, 1) := by decide +kernel
theorem d5_37 : decode prog_64_method_2_code 37 = .ok (.getfield 9, 3) := by decide +kernel
theorem d5_40 : decode prog_64_method_2_code 40 = .ok (.aload_n 0, 1) := by decide +kernel
theorem d5_41 : decode prog_64_method_2_code 41 = .ok (.dup, 1) := by decide +kernel
theorem d5_42 : decode prog_64_method_2_code 42 = .ok (.getfield 24, 3) := by decide +kernel
theorem d5_45 : decode prog_64_method_2_code 45 = .ok (.dup_x1, 1) := by decide +kernel
theorem d5_46 : decode prog_64_method_2_code 46 = .ok (.iconst 1, 1) := by decide +kernel
theorem d5_47 : decode prog_64_method_2_code 47 = .ok (.iadd, 1) := by decide +kernel
theorem d5_48 : decode prog_64_method_2_code 48 = .ok (.putfield 24, 3) := by decide +kernel
theorem d5_51 : decode prog_64_method_2_code 51 = .ok (.iload_n 1, 1) := by decide +kernel
theorem d5_52 : decode prog_64_method_2_code 52 = .ok (.castore, 1) := by decide +kernel
theorem d5_53 : decode prog_64_method_2_code 53 = .ok (.return_, 1) := by decide +kernel
theorem ef_5 (m : MethodId) (a1 : Addr) (p2 : Int32) : entryFrame m #[(.ref a1), (.int p2)] 2 = mkF m 0 #[.val (.ref a1), .val (.int p2)] [] := by first | (simp [entryFrame, mkF, argsToLocals, Value.category]; done) | rfl
def Q5 (Z : State) (a1 : Addr) (p2 : Int32) (w : Int32) (cs : Int32) (n : Int32) (cb : Addr) (ck : ClassId) (cvs : List Value) (wb : Addr) (h0 : Heap) (n0 : Nat) (v : Option Value) (h : Heap) (L : List Loc) : Prop := ∃ (cvx : List Value), v = none ∧ Fr n0 L ∧ Keep h0 h [a1, cb] ∧ Fld Z h a1 "com/example/rouse/rouse/shell/CommandLine" "words" "I" (.int w) ∧ Fld Z h a1 "com/example/rouse/rouse/shell/CommandLine" "commandStart" "I" (.int cs) ∧ Fld Z h a1 "com/example/rouse/rouse/shell/CommandLine" "length" "I" (.int (n + (1 : Int32))) ∧ Fld Z h a1 "com/example/rouse/rouse/shell/CommandLine" "characters" "[C" (.ref cb) ∧ Fld Z h a1 "com/example/rouse/rouse/shell/CommandLine" "wordEnds" "[I" (.ref wb) ∧ Arv Z h cb ck .char (16 : Int32) cvx (.int (0 : Int32)) ∧ cvx.length = 16
set_option maxRecDepth 65536 in
set_option maxHeartbeats 40000000 in
theorem rm5 (l : Launch) (Z : State) (a0 : Array Value) (hw : ∀ d ∈ tables_1, d.before a0 Z = true) (ws : List Jvm.Cond) (a1 : Addr) (p2 : Int32) (w : Int32) (cs : Int32) (n : Int32) (cb : Addr) (ck : ClassId) (cvs : List Value) (wb : Addr) (h0 : Heap) (n0 : Nat) (Z0 : n0 ≤ h0.size) (H0 : Exa Z h0 a1 "com/example/rouse/rouse/shell/CommandLine") (H1 : Fld Z h0 a1 "com/example/rouse/rouse/shell/CommandLine" "words" "I" (.int w)) (H2 : Fld Z h0 a1 "com/example/rouse/rouse/shell/CommandLine" "commandStart" "I" (.int cs)) (H3 : Fld Z h0 a1 "com/example/rouse/rouse/shell/CommandLine" "length" "I" (.int n)) (H4 : Fld Z h0 a1 "com/example/rouse/rouse/shell/CommandLine" "characters" "[C" (.ref cb)) (H5 : Fld Z h0 a1 "com/example/rouse/rouse/shell/CommandLine" "wordEnds" "[I" (.ref wb)) (H6 : Arv Z h0 cb ck .char (16 : Int32) cvs (.int (0 : Int32))) (H7 : n0 ≤ a1) (H8 : n0 ≤ cb) (H9 : own_in n) (H10 : cvs.length = 16) :
    MetFree l (⟨"com/example/rouse/rouse/shell/CommandLine", "append", "(C)V"⟩ : MethodName) (head1 (Jvm.Cond.code (⟨"com/example/rouse/rouse/shell/CommandLine", "append", "(C)V"⟩ : MethodName) prog_64_method_2_code 2 none :: ws) ({ frames := 0, cells := 0, slots := 0, locals := 0 } : Room)) (fun a U => a = #[(.ref a1), (.int p2)] ∧ Z.Warmed39 U.vm ∧ U.heap = h0) (fun _ _ _ _ _ => True) (fun _ U o U' => ∃ v L, o = .returned v ∧ Q5 Z a1 p2 w cs n cb ck cvs wb h0 n0 v U'.heap L ∧ FrameEnd U o U' L ({ frames := 0, cells := 0, slots := 0, locals := 0 } : Room).cells ({ frames := 0, cells := 0, slots := 0, locals := 0 } : Room).slots) := by
  refine MetFree.of_bodySF (plainFor_of_name pn_com_example_rouse_rouse_shell_CommandLine) hisR ?_
  intro p e s m args below meth c s₁ Bd hml0 hP hK
  obtain ⟨rfl, hZ, hh⟩ := hP
  have hx := Bd.exec
  have hby := Bd.bytes
  have hml : c.maxLocals = 2 := hml0
  have hown : s.vm.findClass "com/example/rouse/rouse/shell/CommandLine" = some m.cls := findClass_of_methodNamed Bd.named
  have hnm := (name_of_methodNamed Bd.named Bd.method).1
  have X0 : Stand p l e ({ frames := 0, cells := 0, slots := 0, locals := 0 } : Room) s m #[(.ref a1), (.int p2)] below meth c s₁ [] 0 0 := Stand.of_body Bd
  have e0 : s₁.heap = h0 := by rw [← hh, Bd.state]; rfl
  have N0 := Fr.nil n0
  have pre0 : ∀ t, Steps p.tables e below (s₁.setTop (mkF m 0 #[.val (.ref a1), .val (.int p2)] [])) t → Steps p.tables e below (s₁.setTop (entryFrame m #[(.ref a1), (.int p2)] 2)) t := fun t k => castTop (ef_5 m a1 p2) k
  obtain ⟨T101, X101, e101, st101⟩ := getF X0 hx hZ hown (host := "") (Or.inl (hw _ (List.mem_of_getElem? (i := 37) rfl))) Via.refl e0 H3 (g := (mkF m 1 #[.val (.ref a1), .val (.int p2)] [(.ref a1)])) rfl rfl (hb hby d5_1)
  obtain ⟨T102, X102, e102, st102⟩ := getF X101 hx hZ hown (host := "") (Or.inl (hw _ (List.mem_of_getElem? (i := 10) rfl))) Via.refl e101 H4 (g := (mkF m 5 #[.val (.ref a1), .val (.int p2)] [(.ref a1), (.int n)])) rfl rfl (hb hby d5_5)
  obtain ⟨cl103, Ar103, -, S103, M103, -, -⟩ := id H6
  obtain ⟨T104, X104, e104, st104⟩ := getF X102 hx hZ hown (host := "") (Or.inl (hw _ (List.mem_of_getElem? (i := 10) rfl))) Via.refl e102 H4 (g := (mkF m 37 #[.val (.ref a1), .val (.int p2)] [(.ref a1)])) rfl rfl (hb hby d5_37)
  obtain ⟨T105, X105, e105, st105⟩ := getF X104 hx hZ hown (host := "") (Or.inl (hw _ (List.mem_of_getElem? (i := 37) rfl))) Via.refl e104 H3 (g := (mkF m 42 #[.val (.ref a1), .val (.int p2)] [(.ref a1), (.ref a1), (.ref cb)])) rfl rfl (hb hby d5_42)
  obtain ⟨T106, h106, X106, e106, W106, st106⟩ := putF X105 hx hZ hown (host := "") (Or.inl (hw _ (List.mem_of_getElem? (i := 37) rfl))) Via.refl e105 H3 H0 (Or.inl (hw _ (List.mem_of_getElem? (i := 38) rfl))) (hw _ (List.mem_of_getElem? (i := 1) rfl)) (ty := .int) (by decide) rfl rfl (g := (mkF m 48 #[.val (.ref a1), .val (.int p2)] [(.int (n + (1 : Int32))), (.ref a1), (.int n), (.ref cb)])) rfl rfl (hb hby d5_48)
  have Fw106 := H3.same W106
  have N106 := Fr.snoc X106 N0 H7
  have ne107 : a1 ≠ cb := Exa.neArv H0 H6 (hw _ (List.mem_of_getElem? (i := 1) rfl))
  have f108 : Arv Z h106 cb ck .char (16 : Int32) cvs (.int (0 : Int32)) := (H6.other W106 (Ne.symm ne107))
  obtain ⟨cl109, Ar109, qc109, S109, M109, Hh109, G109⟩ := id f108
  have hin109 : ¬ (n < 0 ∨ cl109.slots.size ≤ (n).toNatClampNeg) := inb_of S109 H9
  obtain ⟨T109, h109, X109, e109, W109, st109⟩ := stC X106 hx hZ e106 Ar109 (j := n) hin109 (g := (mkF m 52 #[.val (.ref a1), .val (.int p2)] [(.int p2), (.int n), (.ref cb)])) rfl rfl (hb hby d5_52)
  have V109 : Arv Z h109 cb ck .char (16 : Int32) (cvs.set n.toNatClampNeg (.int (nar .char p2))) (.int (0 : Int32)) := Arv.set Ar109 qc109 S109 M109 Hh109 G109 (fits_nar_char _) W109 n.toNatClampNeg (rfl) (own_lt16 H9 H10)
  have N109 := Fr.snoc X109 N106 H8
  have f110 : Fld Z h109 a1 "com/example/rouse/rouse/shell/CommandLine" "words" "I" (.int w) := ((H1.other W106 (Or.inr (slot_ne (Or.inl (hw _ (List.mem_of_getElem? (i := 25) rfl))) (Or.inl (hw _ (List.mem_of_getElem? (i := 38) rfl))) (by decide) (t := .int) (t' := .int) (by decide) (by decide)))).other W109 (Or.inl ne107))
  have f111 : Fld Z h109 a1 "com/example/rouse/rouse/shell/CommandLine" "commandStart" "I" (.int cs) := ((H2.other W106 (Or.inr (slot_ne (Or.inl (hw _ (List.mem_of_getElem? (i := 27) rfl))) (Or.inl (hw _ (List.mem_of_getElem? (i := 38) rfl))) (by decide) (t := .int) (t' := .int) (by decide) (by decide)))).other W109 (Or.inl ne107))
  have f112 : Fld Z h109 a1 "com/example/rouse/rouse/shell/CommandLine" "length" "I" (.int (n + (1 : Int32))) := (Fw106.other W109 (Or.inl ne107))
  have f113 : Fld Z h109 a1 "com/example/rouse/rouse/shell/CommandLine" "characters" "[C" (.ref cb) := ((H4.other W106 (Or.inr (slot_ne (Or.inl (hw _ (List.mem_of_getElem? (i := 11) rfl))) (Or.inl (hw _ (List.mem_of_getElem? (i := 38) rfl))) (by decide) (t := (.array .char)) (t' := .int) (by decide) (by decide)))).other W109 (Or.inl ne107))
  have f114 : Fld Z h109 a1 "com/example/rouse/rouse/shell/CommandLine" "wordEnds" "[I" (.ref wb) := ((H5.other W106 (Or.inr (slot_ne (Or.inl (hw _ (List.mem_of_getElem? (i := 14) rfl))) (Or.inl (hw _ (List.mem_of_getElem? (i := 38) rfl))) (by decide) (t := (.array .int)) (t' := .int) (by decide) (by decide)))).other W109 (Or.inl ne107))
  obtain ⟨fs, hr, hrun, hended, hW, hsame⟩ := X109.leave (v := none) (fun _ => rfl)
  refine ⟨_, _, pre0 _ ?_, hrun, hended, _, _, rfl, ?_, ⟨_, rfl⟩, hW, hsame.mono (by decide) (by decide)⟩
  · skip
    show Steps p.tables e below (s₁.setTop (mkF m 0 #[.val (.ref a1), .val (.int p2)] [])) _
    refine XS.aloadN X0.here hx rfl (hb hby d5_0) rfl rfl ?_
    show Steps p.tables e below (s₁.setTop (mkF m 1 #[.val (.ref a1), .val (.int p2)] [(.ref a1)])) _
    refine st101 _ ?_
    show Steps p.tables e below (T101.setTop (mkF m 4 #[.val (.ref a1), .val (.int p2)] [(.int n)])) _
    refine XS.aloadN X101.here hx rfl (hb hby d5_4) rfl rfl ?_
    show Steps p.tables e below (T101.setTop (mkF m 5 #[.val (.ref a1), .val (.int p2)] [(.ref a1), (.int n)])) _
    refine st102 _ ?_
    show Steps p.tables e below (T102.setTop (mkF m 8 #[.val (.ref a1), .val (.int p2)] [(.ref cb), (.int n)])) _
    refine X102.arraylength hx (by rw [e102]; exact Ar103.1) (State.isArrayOf_alike hZ.alike Ar103.2.1) (g := (mkF m 8 #[.val (.ref a1), .val (.int p2)] [(.ref cb), (.int n)])) rfl rfl (hb hby d5_8) _ ?_
    rw [len_of S103 M103]
    show Steps p.tables e below (T102.setTop (mkF m 9 #[.val (.ref a1), .val (.int p2)] [(.int (16 : Int32)), (.int n)])) _
    refine XS.icmpYes X102.here hx rfl (pc0 := 9) (pc' := 36) rfl (hb hby d5_9) rfl (feq (own_ne16 H9 : ¬ (n = (16 : Int32)))).2 (by decide) (by decide) ?_
    show Steps p.tables e below (T102.setTop (mkF m 36 #[.val (.ref a1), .val (.int p2)] [])) _
    refine XS.aloadN X102.here hx rfl (hb hby d5_36) rfl rfl ?_
    show Steps p.tables e below (T102.setTop (mkF m 37 #[.val (.ref a1), .val (.int p2)] [(.ref a1)])) _
    refine st104 _ ?_
    show Steps p.tables e below (T104.setTop (mkF m 40 #[.val (.ref a1), .val (.int p2)] [(.ref cb)])) _
    refine XS.aloadN X104.here hx rfl (hb hby d5_40) rfl rfl ?_
    show Steps p.tables e below (T104.setTop (mkF m 41 #[.val (.ref a1), .val (.int p2)] [(.ref a1), (.ref cb)])) _
    refine XS.dup X104.here hx rfl (hb hby d5_41) rfl rfl ?_
    show Steps p.tables e below (T104.setTop (mkF m 42 #[.val (.ref a1), .val (.int p2)] [(.ref a1), (.ref a1), (.ref cb)])) _
    refine st105 _ ?_
    show Steps p.tables e below (T105.setTop (mkF m 45 #[.val (.ref a1), .val (.int p2)] [(.int n), (.ref a1), (.ref cb)])) _
    refine XS.dupX1 X105.here hx rfl (hb hby d5_45) rfl rfl rfl ?_
    show Steps p.tables e below (T105.setTop (mkF m 46 #[.val (.ref a1), .val (.int p2)] [(.int n), (.ref a1), (.int n), (.ref cb)])) _
    refine XS.iconst X105.here hx rfl (hb hby d5_46) ?_
    show Steps p.tables e below (T105.setTop (mkF m 47 #[.val (.ref a1), .val (.int p2)] [(.int (1 : Int32)), (.int n), (.ref a1), (.int n), (.ref cb)])) _
    refine XS.iadd X105.here hx rfl (hb hby d5_47) rfl ?_
    show Steps p.tables e below (T105.setTop (mkF m 48 #[.val (.ref a1), .val (.int p2)] [(.int (n + (1 : Int32))), (.ref a1), (.int n), (.ref cb)])) _
    refine st106 _ ?_
    show Steps p.tables e below (T106.setTop (mkF m 51 #[.val (.ref a1), .val (.int p2)] [(.int n), (.ref cb)])) _
    refine XS.iloadN X106.here hx rfl (hb hby d5_51) rfl ?_
    show Steps p.tables e below (T106.setTop (mkF m 52 #[.val (.ref a1), .val (.int p2)] [(.int p2), (.int n), (.ref cb)])) _
    refine st109 _ ?_
    show Steps p.tables e below (T109.setTop (mkF m 53 #[.val (.ref a1), .val (.int p2)] [])) _
    exact X109.returnOut hx Bd.returns (hb hby d5_53) hr
  · show Q5 Z a1 p2 w cs n cb ck cvs wb h0 n0 _ T109.heap _
    rw [e109]
    exact ⟨(cvs.set n.toNatClampNeg (.int (nar .char p2))), rfl, N109, (((Keep.refl h0 [a1, cb]).wr W106 (Or.inl (List.mem_of_getElem? (i := 0) rfl))).wr W109 (Or.inl (List.mem_of_getElem? (i := 1) rfl))), f110, f111, f112, f113, f114, V109, (by rw [List.length_set]; exact H10)⟩
theorem d6_0 : decode prog_64_method_3_code 0 = .ok (.aload_n 0, 1) := by decide +kernel
theorem d6_1 : decode prog_64_method_3_code 1 = .ok (.getfield 39, 3) := by decide +kernel
theorem d6_4 : decode prog_64_method_3_code 4 = .ok (.aload_n 0, 1) := by decide +kernel
theorem d6_5 : decode prog_64_method_3_code 5 = .ok (.getfield 13, 3) := by decide +kernel
theorem d6_8 : decode prog_64_method_3_code 8 = .ok (.arraylength, 1) := by decide +kernel
theorem d6_9 : decode prog_64_method_3_code 9 = .ok (.if_icmp .ne 27, 3) := by decide +kernel
theorem d6_36 : decode prog_64_method_3_code 36 = .ok (.aload_n 0, 1) := by decide +kernel
theorem d6_37 : decode prog_64_method_3_code 37 = .ok (.getfield 13, 3) := by decide +kernel
theorem d6_40 : decode prog_64_method_3_code 40 = .ok (.aload_n 0, 1) := by decide +kernel
theorem d6_41 : decode prog_64_method_3_code 41 = .ok (.dup, 1) := by decide +kernel
theorem d6_42 : decode prog_64_method_3_code 42 = .ok (.getfield 39, 3) := by decide +kernel
theorem d6_45 : decode prog_64_method_3_code 45 = .ok (.dup_x1, 1) := by decide +kernel
theorem d6_46 : decode prog_64_method_3_code 46 = .ok (.iconst 1, 1) := by decide +kernel
theorem d6_47 : decode prog_64_method_3_code 47 = .ok (.iadd, 1) := by decide +kernel
theorem d6_48 : decode prog_64_method_3_code 48 = .ok (.putfield 39, 3) := by decide +kernel
theorem d6_51 : decode prog_64_method_3_code 51 = .ok (.aload_n 0, 1) := by decide +kernel
theorem d6_52 : decode prog_64_method_3_code 52 = .ok (.getfield 24, 3) := by decide +kernel
theorem d6_55 : decode prog_64_method_3_code 55 = .ok (.iastore, 1) := by decide +kernel
theorem d6_56 : decode prog_64_method_3_code 56 = .ok (.return_, 1) := by decide +kernel
theorem ef_6 (m : MethodId) (a1 : Addr) : entryFrame m #[(.ref a1)] 1 = mkF m 0 #[.val (.ref a1)] [] := by first | (simp [entryFrame, mkF, argsToLocals, Value.category]; done) | rfl
def Q6 (Z : State) (a1 : Addr) (w : Int32) (cs : Int32) (n : Int32) (cb : Addr) (wb : Addr) (wk : ClassId) (wvs : List Value) (h0 : Heap) (n0 : Nat) (v : Option Value) (h : Heap) (L : List Loc) : Prop := ∃ (wvx : List Value), v = none ∧ Fr n0 L ∧ Keep h0 h [a1, wb] ∧ Fld Z h a1 "com/example/rouse/rouse/shell/CommandLine" "words" "I" (.int (w + (1 : Int32))) ∧ Fld Z h a1 "com/example/rouse/rouse/shell/CommandLine" "commandStart" "I" (.int cs) ∧ Fld Z h a1 "com/example/rouse/rouse/shell/CommandLine" "length" "I" (.int n) ∧ Fld Z h a1 "com/example/rouse/rouse/shell/CommandLine" "characters" "[C" (.ref cb) ∧ Fld Z h a1 "com/example/rouse/rouse/shell/CommandLine" "wordEnds" "[I" (.ref wb) ∧ Arv Z h wb wk .int (16 : Int32) wvx (.int (0 : Int32)) ∧ wvx.length = 16
set_option maxRecDepth 65536 in
set_option maxHeartbeats 40000000 in
theorem rm6 (l : Launch) (Z : State) (a0 : Array Value) (hw : ∀ d ∈ tables_1, d.before a0 Z = true) (ws : List Jvm.Cond) (a1 : Addr) (w : Int32) (cs : Int32) (n : Int32) (cb : Addr) (wb : Addr) (wk : ClassId) (wvs : List Value) (h0 : Heap) (n0 : Nat) (Z0 : n0 ≤ h0.size) (H0 : Exa Z h0 a1 "com/example/rouse/rouse/shell/CommandLine") (H1 : Fld Z h0 a1 "com/example/rouse/rouse/shell/CommandLine" "words" "I" (.int w)) (H2 : Fld Z h0 a1 "com/example/rouse/rouse/shell/CommandLine" "commandStart" "I" (.int cs)) (H3 : Fld Z h0 a1 "com/example/rouse/rouse/shell/CommandLine" "length" "I" (.int n)) (H4 : Fld Z h0 a1 "com/example/rouse/rouse/shell/CommandLine" "characters" "[C" (.ref cb)) (H5 : Fld Z h0 a1 "com/example/rouse/rouse/shell/CommandLine" "wordEnds" "[I" (.ref wb)) (H6 : Arv Z h0 wb wk .int (16 : Int32) wvs (.int (0 : Int32))) (H7 : n0 ≤ a1) (H8 : n0 ≤ wb) (H9 : own_in w) (H10 : wvs.length = 16) :
    MetFree l (⟨"com/example/rouse/rouse/shell/CommandLine", "endWord", "()V"⟩ : MethodName) (head1 (Jvm.Cond.code (⟨"com/example/rouse/rouse/shell/CommandLine", "endWord", "()V"⟩ : MethodName) prog_64_method_3_code 1 none :: ws) ({ frames := 0, cells := 0, slots := 0, locals := 0 } : Room)) (fun a U => a = #[(.ref a1)] ∧ Z.Warmed39 U.vm ∧ U.heap = h0) (fun _ _ _ _ _ => True) (fun _ U o U' => ∃ v L, o = .returned v ∧ Q6 Z a1 w cs n cb wb wk wvs h0 n0 v U'.heap L ∧ FrameEnd U o U' L ({ frames := 0, cells := 0, slots := 0, locals := 0 } : Room).cells ({ frames := 0, cells := 0, slots := 0, locals := 0 } : Room).slots) := by
  refine MetFree.of_bodySF (plainFor_of_name pn_com_example_rouse_rouse_shell_CommandLine) hisR ?_
  intro p e s m args below meth c s₁ Bd hml0 hP hK
  obtain ⟨rfl, hZ, hh⟩ := hP
  have hx := Bd.exec
  have hby := Bd.bytes
  have hml : c.maxLocals = 1 := hml0
  have hown : s.vm.findClass "com/example/rouse/rouse/shell/CommandLine" = some m.cls := findClass_of_methodNamed Bd.named
  have hnm := (name_of_methodNamed Bd.named Bd.method).1
  have X0 : Stand p l e ({ frames := 0, cells := 0, slots := 0, locals := 0 } : Room) s m #[(.ref a1)] below meth c s₁ [] 0 0 := Stand.of_body Bd
  have e0 : s₁.heap = h0 := by rw [← hh, Bd.state]; rfl
  have N0 := Fr.nil n0
  have pre0 : ∀ t, Steps p.tables e below (s₁.setTop (mkF m 0 #[.val (.ref a1)] [])) t → Steps p.tables e below (s₁.setTop (entryFrame m #[(.ref a1)] 1)) t := fun t k => castTop (ef_6 m a1) k
  obtain ⟨T101, X101, e101, st101⟩ := getF X0 hx hZ hown (host := "") (Or.inl (hw _ (List.mem_of_getElem? (i := 24) rfl))) Via.refl e0 H1 (g := (mkF m 1 #[.val (.ref a1)] [(.ref a1)])) rfl rfl (hb hby d6_1)
  obtain ⟨T102, X102, e102, st102⟩ := getF X101 hx hZ hown (host := "") (Or.inl (hw _ (List.mem_of_getElem? (i := 13) rfl))) Via.refl e101 H5 (g := (mkF m 5 #[.val (.ref a1)] [(.ref a1), (.int w)])) rfl rfl (hb hby d6_5)
  obtain ⟨cl103, Ar103, -, S103, M103, -, -⟩ := id H6
  obtain ⟨T104, X104, e104, st104⟩ := getF X102 hx hZ hown (host := "") (Or.inl (hw _ (List.mem_of_getElem? (i := 13) rfl))) Via.refl e102 H5 (g := (mkF m 37 #[.val (.ref a1)] [(.ref a1)])) rfl rfl (hb hby d6_37)
  obtain ⟨T105, X105, e105, st105⟩ := getF X104 hx hZ hown (host := "") (Or.inl (hw _ (List.mem_of_getElem? (i := 24) rfl))) Via.refl e104 H1 (g := (mkF m 42 #[.val (.ref a1)] [(.ref a1), (.ref a1), (.ref wb)])) rfl rfl (hb hby d6_42)
  obtain ⟨T106, h106, X106, e106, W106, st106⟩ := putF X105 hx hZ hown (host := "") (Or.inl (hw _ (List.mem_of_getElem? (i := 24) rfl))) Via.refl e105 H1 H0 (Or.inl (hw _ (List.mem_of_getElem? (i := 25) rfl))) (hw _ (List.mem_of_getElem? (i := 1) rfl)) (ty := .int) (by decide) rfl rfl (g := (mkF m 48 #[.val (.ref a1)] [(.int (w + (1 : Int32))), (.ref a1), (.int w), (.ref wb)])) rfl rfl (hb hby d6_48)
  have Fw106 := H1.same W106
  have N106 := Fr.snoc X106 N0 H7
  have f107 : Fld Z h106 a1 "com/example/rouse/rouse/shell/CommandLine" "length" "I" (.int n) := (H3.other W106 (Or.inr (slot_ne (Or.inl (hw _ (List.mem_of_getElem? (i := 38) rfl))) (Or.inl (hw _ (List.mem_of_getElem? (i := 25) rfl))) (by decide) (t := .int) (t' := .int) (by decide) (by decide))))
  obtain ⟨T108, X108, e108, st108⟩ := getF X106 hx hZ hown (host := "") (Or.inl (hw _ (List.mem_of_getElem? (i := 37) rfl))) Via.refl e106 f107 (g := (mkF m 52 #[.val (.ref a1)] [(.ref a1), (.int w), (.ref wb)])) rfl rfl (hb hby d6_52)
  have ne109 : a1 ≠ wb := Exa.neArv H0 H6 (hw _ (List.mem_of_getElem? (i := 1) rfl))
  have f110 : Arv Z h106 wb wk .int (16 : Int32) wvs (.int (0 : Int32)) := (H6.other W106 (Ne.symm ne109))
  obtain ⟨cl111, Ar111, qc111, S111, M111, Hh111, G111⟩ := id f110
  have hin111 : ¬ (w < 0 ∨ cl111.slots.size ≤ (w).toNatClampNeg) := inb_of S111 H9
  obtain ⟨T111, h111, X111, e111, W111, st111⟩ := stI X108 hx hZ e108 Ar111 (j := w) hin111 (g := (mkF m 55 #[.val (.ref a1)] [(.int n), (.int w), (.ref wb)])) rfl rfl (hb hby d6_55)
  have V111 : Arv Z h111 wb wk .int (16 : Int32) (wvs.set w.toNatClampNeg (.int n)) (.int (0 : Int32)) := Arv.set Ar111 qc111 S111 M111 Hh111 G111 rfl W111 w.toNatClampNeg (rfl) (own_lt16 H9 H10)
  have N111 := Fr.snoc X111 N106 H8
  have f112 : Fld Z h111 a1 "com/example/rouse/rouse/shell/CommandLine" "words" "I" (.int (w + (1 : Int32))) := (Fw106.other W111 (Or.inl ne109))
  have f113 : Fld Z h111 a1 "com/example/rouse/rouse/shell/CommandLine" "commandStart" "I" (.int cs) := ((H2.other W106 (Or.inr (slot_ne (Or.inl (hw _ (List.mem_of_getElem? (i := 27) rfl))) (Or.inl (hw _ (List.mem_of_getElem? (i := 25) rfl))) (by decide) (t := .int) (t' := .int) (by decide) (by decide)))).other W111 (Or.inl ne109))
  have f114 : Fld Z h111 a1 "com/example/rouse/rouse/shell/CommandLine" "length" "I" (.int n) := (f107.other W111 (Or.inl ne109))
  have f115 : Fld Z h111 a1 "com/example/rouse/rouse/shell/CommandLine" "characters" "[C" (.ref cb) := ((H4.other W106 (Or.inr (slot_ne (Or.inl (hw _ (List.mem_of_getElem? (i := 11) rfl))) (Or.inl (hw _ (List.mem_of_getElem? (i := 25) rfl))) (by decide) (t := (.array .char)) (t' := .int) (by decide) (by decide)))).other W111 (Or.inl ne109))
  have f116 : Fld Z h111 a1 "com/example/rouse/rouse/shell/CommandLine" "wordEnds" "[I" (.ref wb) := ((H5.other W106 (Or.inr (slot_ne (Or.inl (hw _ (List.mem_of_getElem? (i := 14) rfl))) (Or.inl (hw _ (List.mem_of_getElem? (i := 25) rfl))) (by decide) (t := (.array .int)) (t' := .int) (by decide) (by decide)))).other W111 (Or.inl ne109))
  obtain ⟨fs, hr, hrun, hended, hW, hsame⟩ := X111.leave (v := none) (fun _ => rfl)
  refine ⟨_, _, pre0 _ ?_, hrun, hended, _, _, rfl, ?_, ⟨_, rfl⟩, hW, hsame.mono (by decide) (by decide)⟩
  · skip
    show Steps p.tables e below (s₁.setTop (mkF m 0 #[.val (.ref a1)] [])) _
    refine XS.aloadN X0.here hx rfl (hb hby d6_0) rfl rfl ?_
    show Steps p.tables e below (s₁.setTop (mkF m 1 #[.val (.ref a1)] [(.ref a1)])) _
    refine st101 _ ?_
    show Steps p.tables e below (T101.setTop (mkF m 4 #[.val (.ref a1)] [(.int w)])) _
    refine XS.aloadN X101.here hx rfl (hb hby d6_4) rfl rfl ?_
    show Steps p.tables e below (T101.setTop (mkF m 5 #[.val (.ref a1)] [(.ref a1), (.int w)])) _
    refine st102 _ ?_
    show Steps p.tables e below (T102.setTop (mkF m 8 #[.val (.ref a1)] [(.ref wb), (.int w)])) _
    refine X102.arraylength hx (by rw [e102]; exact Ar103.1) (State.isArrayOf_alike hZ.alike Ar103.2.1) (g := (mkF m 8 #[.val (.ref a1)] [(.ref wb), (.int w)])) rfl rfl (hb hby d6_8) _ ?_
    rw [len_of S103 M103]
    show Steps p.tables e below (T102.setTop (mkF m 9 #[.val (.ref a1)] [(.int (16 : Int32)), (.int w)])) _
    refine XS.icmpYes X102.here hx rfl (pc0 := 9) (pc' := 36) rfl (hb hby d6_9) rfl (feq (own_ne16 H9 : ¬ (w = (16 : Int32)))).2 (by decide) (by decide) ?_
    show Steps p.tables e below (T102.setTop (mkF m 36 #[.val (.ref a1)] [])) _
    refine XS.aloadN X102.here hx rfl (hb hby d6_36) rfl rfl ?_
    show Steps p.tables e below (T102.setTop (mkF m 37 #[.val (.ref a1)] [(.ref a1)])) _
    refine st104 _ ?_
    show Steps p.tables e below (T104.setTop (mkF m 40 #[.val (.ref a1)] [(.ref wb)])) _
    refine XS.aloadN X104.here hx rfl (hb hby d6_40) rfl rfl ?_
    show Steps p.tables e below (T104.setTop (mkF m 41 #[.val (.ref a1)] [(.ref a1), (.ref wb)])) _
    refine XS.dup X104.here hx rfl (hb hby d6_41) rfl rfl ?_
    show Steps p.tables e below (T104.setTop (mkF m 42 #[.val (.ref a1)] [(.ref a1), (.ref a1), (.ref wb)])) _
    refine st105 _ ?_
    show Steps p.tables e below (T105.setTop (mkF m 45 #[.val (.ref a1)] [(.int w), (.ref a1), (.ref wb)])) _
    refine XS.dupX1 X105.here hx rfl (hb hby d6_45) rfl rfl rfl ?_
    show Steps p.tables e below (T105.setTop (mkF m 46 #[.val (.ref a1)] [(.int w), (.ref a1), (.int w), (.ref wb)])) _
    refine XS.iconst X105.here hx rfl (hb hby d6_46) ?_
    show Steps p.tables e below (T105.setTop (mkF m 47 #[.val (.ref a1)] [(.int (1 : Int32)), (.int w), (.ref a1), (.int w), (.ref wb)])) _
    refine XS.iadd X105.here hx rfl (hb hby d6_47) rfl ?_
    show Steps p.tables e below (T105.setTop (mkF m 48 #[.val (.ref a1)] [(.int (w + (1 : Int32))), (.ref a1), (.int w), (.ref wb)])) _
    refine st106 _ ?_
    show Steps p.tables e below (T106.setTop (mkF m 51 #[.val (.ref a1)] [(.int w), (.ref wb)])) _
    refine XS.aloadN X106.here hx rfl (hb hby d6_51) rfl rfl ?_
    show Steps p.tables e below (T106.setTop (mkF m 52 #[.val (.ref a1)] [(.ref a1), (.int w), (.ref wb)])) _
    refine st108 _ ?_
    show Steps p.tables e below (T108.setTop (mkF m 55 #[.val (.ref a1)] [(.int n), (.int w), (.ref wb)])) _
    refine st111 _ ?_
    show Steps p.tables e below (T111.setTop (mkF m 56 #[.val (.ref a1)] [])) _
    exact X111.returnOut hx Bd.returns (hb hby d6_56) hr
  · show Q6 Z a1 w cs n cb wb wk wvs h0 n0 _ T111.heap _
    rw [e111]
    exact ⟨(wvs.set w.toNatClampNeg (.int n)), rfl, N111, (((Keep.refl h0 [a1, wb]).wr W106 (Or.inl (List.mem_of_getElem? (i := 0) rfl))).wr W111 (Or.inl (List.mem_of_getElem? (i := 1) rfl))), f112, f113, f114, f115, f116, V111, (by rw [List.length_set]; exact H10)⟩
theorem d7_0 : decode prog_64_method_5_code 0 = .ok (.aload_n 0, 1) := by decide +kernel
theorem d7_1 : decode prog_64_method_5_code 1 = .ok (.getfield 13, 3) := by decide +kernel
theorem d7_4 : decode prog_64_method_5_code 4 = .ok (.aload_n 0, 1) := by decide +kernel
theorem d7_5 : decode prog_64_method_5_code 5 = .ok (.getfield 39, 3) := by decide +kernel
theorem d7_8 : decode prog_64_method_5_code 8 = .ok (.iconst 1, 1) := by decide +kernel
theorem d7_9 : decode prog_64_method_5_code 9 = .ok (.isub, 1) := by decide +kernel
theorem d7_10 : decode prog_64_method_5_code 10 = .ok (.aload_n 0, 1) := by decide +kernel
theorem d7_11 : decode prog_64_method_5_code 11 = .ok (.getfield 13, 3) := by decide +kernel
theorem d7_14 : decode prog_64_method_5_code 14 = .ok (.aload_n 0, 1) := by decide +kernel
theorem d7_15 : decode prog_64_method_5_code 15 = .ok (.getfield 39, 3) := by decide +kernel
theorem d7_18 : decode prog_64_method_5_code 18 = .ok (.iconst 1, 1) := by decide +kernel
theorem d7_19 : decode prog_64_method_5_code 19 = .ok (.isub, 1) := by decide +kernel
theorem d7_20 : decode prog_64_method_5_code 20 = .ok (.iaload, 1) := by decide +kernel
theorem d7_21 : decode prog_64_method_5_code 21 = .ok (.iconst (-1), 1) := by decide +kernel
theorem d7_22 : decode prog_64_method_5_code 22 = .ok (.ixor, 1) := by decide +kernel
theorem d7_23 : decode prog_64_method_5_code 23 = .ok (.iastore, 1) := by decide +kernel
theorem d7_24 : decode prog_64_method_5_code 24 = .ok (.aload_n 0, 1) := by decide +kernel
theorem d7_25 : decode prog_64_method_5_code 25 = .ok (.aload_n 0, 1) := by decide +kernel
theorem d7_26 : decode prog_64_method_5_code 26 = .ok (.getfield 39, 3) := by decide +kernel
theorem d7_29 : decode prog_64_method_5_code 29 = .ok (.putfield 45, 3) := by decide +kernel
theorem d7_32 : decode prog_64_method_5_code 32 = .ok (.return_, 1) := by decide +kernel
theorem ef_7 (m : MethodId) (a1 : Addr) : entryFrame m #[(.ref a1)] 1 = mkF m 0 #[.val (.ref a1)] [] := by first | (simp [entryFrame, mkF, argsToLocals, Value.category]; done) | rfl
def Q7 (Z : State) (a1 : Addr) (w : Int32) (cs : Int32) (n : Int32) (cb : Addr) (wb : Addr) (wk : ClassId) (wvs : List Value) (h0 : Heap) (n0 : Nat) (v : Option Value) (h : Heap) (L : List Loc) : Prop := ∃ (wvx : List Value), v = none ∧ Fr n0 L ∧ Keep h0 h [a1, wb] ∧ Fld Z h a1 "com/example/rouse/rouse/shell/CommandLine" "words" "I" (.int w) ∧ Fld Z h a1 "com/example/rouse/rouse/shell/CommandLine" "commandStart" "I" (.int w) ∧ Fld Z h a1 "com/example/rouse/rouse/shell/CommandLine" "length" "I" (.int n) ∧ Fld Z h a1 "com/example/rouse/rouse/shell/CommandLine" "characters" "[C" (.ref cb) ∧ Fld Z h a1 "com/example/rouse/rouse/shell/CommandLine" "wordEnds" "[I" (.ref wb) ∧ Arv Z h wb wk .int (16 : Int32) wvx (.int (0 : Int32)) ∧ wvx.length = 16
set_option maxRecDepth 65536 in
set_option maxHeartbeats 40000000 in
theorem rm7 (l : Launch) (Z : State) (a0 : Array Value) (hw : ∀ d ∈ tables_1, d.before a0 Z = true) (ws : List Jvm.Cond) (a1 : Addr) (w : Int32) (cs : Int32) (n : Int32) (cb : Addr) (wb : Addr) (wk : ClassId) (wvs : List Value) (h0 : Heap) (n0 : Nat) (Z0 : n0 ≤ h0.size) (H0 : Exa Z h0 a1 "com/example/rouse/rouse/shell/CommandLine") (H1 : Fld Z h0 a1 "com/example/rouse/rouse/shell/CommandLine" "words" "I" (.int w)) (H2 : Fld Z h0 a1 "com/example/rouse/rouse/shell/CommandLine" "commandStart" "I" (.int cs)) (H3 : Fld Z h0 a1 "com/example/rouse/rouse/shell/CommandLine" "length" "I" (.int n)) (H4 : Fld Z h0 a1 "com/example/rouse/rouse/shell/CommandLine" "characters" "[C" (.ref cb)) (H5 : Fld Z h0 a1 "com/example/rouse/rouse/shell/CommandLine" "wordEnds" "[I" (.ref wb)) (H6 : Arv Z h0 wb wk .int (16 : Int32) wvs (.int (0 : Int32))) (H7 : n0 ≤ a1) (H8 : n0 ≤ wb) (H9 : own_in (w - (1 : Int32))) (H10 : wvs.length = 16) :
    MetFree l (⟨"com/example/rouse/rouse/shell/CommandLine", "endCommand", "()V"⟩ : MethodName) (head1 (Jvm.Cond.code (⟨"com/example/rouse/rouse/shell/CommandLine", "endCommand", "()V"⟩ : MethodName) prog_64_method_5_code 1 none :: ws) ({ frames := 0, cells := 0, slots := 0, locals := 0 } : Room)) (fun a U => a = #[(.ref a1)] ∧ Z.Warmed39 U.vm ∧ U.heap = h0) (fun _ _ _ _ _ => True) (fun _ U o U' => ∃ v L, o = .returned v ∧ Q7 Z a1 w cs n cb wb wk wvs h0 n0 v U'.heap L ∧ FrameEnd U o U' L ({ frames := 0, cells := 0, slots := 0, locals := 0 } : Room).cells ({ frames := 0, cells := 0, slots := 0, locals := 0 } : Room).slots) := by
  refine MetFree.of_bodySF (plainFor_of_name pn_com_example_rouse_rouse_shell_CommandLine) hisR ?_
  intro p e s m args below meth c s₁ Bd hml0 hP hK
  obtain ⟨rfl, hZ, hh⟩ := hP
  have hx := Bd.exec
  have hby := Bd.bytes
  have hml : c.maxLocals = 1 := hml0
  have hown : s.vm.findClass "com/example/rouse/rouse/shell/CommandLine" = some m.cls := findClass_of_methodNamed Bd.named
  have hnm := (name_of_methodNamed Bd.named Bd.method).1
  have X0 : Stand p l e ({ frames := 0, cells := 0, slots := 0, locals := 0 } : Room) s m #[(.ref a1)] below meth c s₁ [] 0 0 := Stand.of_body Bd
  have e0 : s₁.heap = h0 := by rw [← hh, Bd.state]; rfl
  have N0 := Fr.nil n0
  have pre0 : ∀ t, Steps p.tables e below (s₁.setTop (mkF m 0 #[.val (.ref a1)] [])) t → Steps p.tables e below (s₁.setTop (entryFrame m #[(.ref a1)] 1)) t := fun t k => castTop (ef_7 m a1) k
  obtain ⟨T101, X101, e101, st101⟩ := getF X0 hx hZ hown (host := "") (Or.inl (hw _ (List.mem_of_getElem? (i := 13) rfl))) Via.refl e0 H5 (g := (mkF m 1 #[.val (.ref a1)] [(.ref a1)])) rfl rfl (hb hby d7_1)
  obtain ⟨T102, X102, e102, st102⟩ := getF X101 hx hZ hown (host := "") (Or.inl (hw _ (List.mem_of_getElem? (i := 24) rfl))) Via.refl e101 H1 (g := (mkF m 5 #[.val (.ref a1)] [(.ref a1), (.ref wb)])) rfl rfl (hb hby d7_5)
  obtain ⟨T103, X103, e103, st103⟩ := getF X102 hx hZ hown (host := "") (Or.inl (hw _ (List.mem_of_getElem? (i := 13) rfl))) Via.refl e102 H5 (g := (mkF m 11 #[.val (.ref a1)] [(.ref a1), (.int (w - (1 : Int32))), (.ref wb)])) rfl rfl (hb hby d7_11)
  obtain ⟨T104, X104, e104, st104⟩ := getF X103 hx hZ hown (host := "") (Or.inl (hw _ (List.mem_of_getElem? (i := 24) rfl))) Via.refl e103 H1 (g := (mkF m 15 #[.val (.ref a1)] [(.ref a1), (.ref wb), (.int (w - (1 : Int32))), (.ref wb)])) rfl rfl (hb hby d7_15)
  obtain ⟨xv, hxv⟩ := own_get H6 H9
  obtain ⟨cl105, Ar105, qc105, S105, M105, Hh105, G105⟩ := id H6
  have hin105 : ¬ ((w - (1 : Int32)) < 0 ∨ cl105.slots.size ≤ ((w - (1 : Int32))).toNatClampNeg) := inb_of S105 H9
  obtain ⟨cl106, Ar106, qc106, S106, M106, Hh106, G106⟩ := id H6
  have hin106 : ¬ ((w - (1 : Int32)) < 0 ∨ cl106.slots.size ≤ ((w - (1 : Int32))).toNatClampNeg) := inb_of S106 H9
  obtain ⟨T106, h106, X106, e106, W106, st106⟩ := stI X104 hx hZ e104 Ar106 (j := (w - (1 : Int32))) hin106 (g := (mkF m 23 #[.val (.ref a1)] [(.int (xv ^^^ (-1 : Int32))), (.int (w - (1 : Int32))), (.ref wb)])) rfl rfl (hb hby d7_23)
  have V106 : Arv Z h106 wb wk .int (16 : Int32) (wvs.set (w - (1 : Int32)).toNatClampNeg (.int (xv ^^^ (-1 : Int32)))) (.int (0 : Int32)) := Arv.set Ar106 qc106 S106 M106 Hh106 G106 rfl W106 (w - (1 : Int32)).toNatClampNeg (rfl) (own_lt16 H9 H10)
  have N106 := Fr.snoc X106 N0 H8
  have ne107 : a1 ≠ wb := Exa.neArv (H0.wr W106) V106 (hw _ (List.mem_of_getElem? (i := 1) rfl))
  have f108 : Fld Z h106 a1 "com/example/rouse/rouse/shell/CommandLine" "words" "I" (.int w) := (H1.other W106 (Or.inl ne107))
  obtain ⟨T109, X109, e109, st109⟩ := getF X106 hx hZ hown (host := "") (Or.inl (hw _ (List.mem_of_getElem? (i := 24) rfl))) Via.refl e106 f108 (g := (mkF m 26 #[.val (.ref a1)] [(.ref a1), (.ref a1)])) rfl rfl (hb hby d7_26)
  have f110 : Fld Z h106 a1 "com/example/rouse/rouse/shell/CommandLine" "commandStart" "I" (.int cs) := (H2.other W106 (Or.inl ne107))
  have f111 : Exa Z h106 a1 "com/example/rouse/rouse/shell/CommandLine" := (H0.wr W106)
  obtain ⟨T112, h112, X112, e112, W112, st112⟩ := putF X109 hx hZ hown (host := "") (Or.inl (hw _ (List.mem_of_getElem? (i := 26) rfl))) Via.refl e109 f110 f111 (Or.inl (hw _ (List.mem_of_getElem? (i := 27) rfl))) (hw _ (List.mem_of_getElem? (i := 1) rfl)) (ty := .int) (by decide) rfl rfl (g := (mkF m 29 #[.val (.ref a1)] [(.int w), (.ref a1)])) rfl rfl (hb hby d7_29)
  have Fw112 := f110.same W112
  have N112 := Fr.snoc X112 N106 H7
  have f113 : Fld Z h112 a1 "com/example/rouse/rouse/shell/CommandLine" "words" "I" (.int w) := (f108.other W112 (Or.inr (slot_ne (Or.inl (hw _ (List.mem_of_getElem? (i := 25) rfl))) (Or.inl (hw _ (List.mem_of_getElem? (i := 27) rfl))) (by decide) (t := .int) (t' := .int) (by decide) (by decide))))
  have f114 : Fld Z h112 a1 "com/example/rouse/rouse/shell/CommandLine" "length" "I" (.int n) := ((H3.other W106 (Or.inl ne107)).other W112 (Or.inr (slot_ne (Or.inl (hw _ (List.mem_of_getElem? (i := 38) rfl))) (Or.inl (hw _ (List.mem_of_getElem? (i := 27) rfl))) (by decide) (t := .int) (t' := .int) (by decide) (by decide))))
  have f115 : Fld Z h112 a1 "com/example/rouse/rouse/shell/CommandLine" "characters" "[C" (.ref cb) := ((H4.other W106 (Or.inl ne107)).other W112 (Or.inr (slot_ne (Or.inl (hw _ (List.mem_of_getElem? (i := 11) rfl))) (Or.inl (hw _ (List.mem_of_getElem? (i := 27) rfl))) (by decide) (t := (.array .char)) (t' := .int) (by decide) (by decide))))
  have f116 : Fld Z h112 a1 "com/example/rouse/rouse/shell/CommandLine" "wordEnds" "[I" (.ref wb) := ((H5.other W106 (Or.inl ne107)).other W112 (Or.inr (slot_ne (Or.inl (hw _ (List.mem_of_getElem? (i := 14) rfl))) (Or.inl (hw _ (List.mem_of_getElem? (i := 27) rfl))) (by decide) (t := (.array .int)) (t' := .int) (by decide) (by decide))))
  have f117 : Arv Z h112 wb wk .int (16 : Int32) (wvs.set (w - (1 : Int32)).toNatClampNeg (.int (xv ^^^ (-1 : Int32)))) (.int (0 : Int32)) := (V106.other W112 (Ne.symm ne107))
  obtain ⟨fs, hr, hrun, hended, hW, hsame⟩ := X112.leave (v := none) (fun _ => rfl)
  refine ⟨_, _, pre0 _ ?_, hrun, hended, _, _, rfl, ?_, ⟨_, rfl⟩, hW, hsame.mono (by decide) (by decide)⟩
  · skip
    show Steps p.tables e below (s₁.setTop (mkF m 0 #[.val (.ref a1)] [])) _
    refine XS.aloadN X0.here hx rfl (hb hby d7_0) rfl rfl ?_
    show Steps p.tables e below (s₁.setTop (mkF m 1 #[.val (.ref a1)] [(.ref a1)])) _
    refine st101 _ ?_
    show Steps p.tables e below (T101.setTop (mkF m 4 #[.val (.ref a1)] [(.ref wb)])) _
    refine XS.aloadN X101.here hx rfl (hb hby d7_4) rfl rfl ?_
    show Steps p.tables e below (T101.setTop (mkF m 5 #[.val (.ref a1)] [(.ref a1), (.ref wb)])) _
    refine st102 _ ?_
    show Steps p.tables e below (T102.setTop (mkF m 8 #[.val (.ref a1)] [(.int w), (.ref wb)])) _
    refine XS.iconst X102.here hx rfl (hb hby d7_8) ?_
    show Steps p.tables e below (T102.setTop (mkF m 9 #[.val (.ref a1)] [(.int (1 : Int32)), (.int w), (.ref wb)])) _
    refine XS.isub X102.here hx rfl (hb hby d7_9) rfl ?_
    show Steps p.tables e below (T102.setTop (mkF m 10 #[.val (.ref a1)] [(.int (w - (1 : Int32))), (.ref wb)])) _
    refine XS.aloadN X102.here hx rfl (hb hby d7_10) rfl rfl ?_
    show Steps p.tables e below (T102.setTop (mkF m 11 #[.val (.ref a1)] [(.ref a1), (.int (w - (1 : Int32))), (.ref wb)])) _
    refine st103 _ ?_
    show Steps p.tables e below (T103.setTop (mkF m 14 #[.val (.ref a1)] [(.ref wb), (.int (w - (1 : Int32))), (.ref wb)])) _
    refine XS.aloadN X103.here hx rfl (hb hby d7_14) rfl rfl ?_
    show Steps p.tables e below (T103.setTop (mkF m 15 #[.val (.ref a1)] [(.ref a1), (.ref wb), (.int (w - (1 : Int32))), (.ref wb)])) _
    refine st104 _ ?_
    show Steps p.tables e below (T104.setTop (mkF m 18 #[.val (.ref a1)] [(.int w), (.ref wb), (.int (w - (1 : Int32))), (.ref wb)])) _
    refine XS.iconst X104.here hx rfl (hb hby d7_18) ?_
    show Steps p.tables e below (T104.setTop (mkF m 19 #[.val (.ref a1)] [(.int (1 : Int32)), (.int w), (.ref wb), (.int (w - (1 : Int32))), (.ref wb)])) _
    refine XS.isub X104.here hx rfl (hb hby d7_19) rfl ?_
    show Steps p.tables e below (T104.setTop (mkF m 20 #[.val (.ref a1)] [(.int (w - (1 : Int32))), (.ref wb), (.int (w - (1 : Int32))), (.ref wb)])) _
    refine X104.iaload hx (j := (w - (1 : Int32))) (v := (.int xv)) (by rw [e104]; exact Ar105.1) (State.isArrayOf_alike hZ.alike Ar105.2.1) Ar105.2.2 hin105 (Hh105.at hin105 (hxv)) (g := (mkF m 20 #[.val (.ref a1)] [(.int (w - (1 : Int32))), (.ref wb), (.int (w - (1 : Int32))), (.ref wb)])) rfl rfl (hb hby d7_20) _ ?_
    show Steps p.tables e below (T104.setTop (mkF m 21 #[.val (.ref a1)] [(.int xv), (.int (w - (1 : Int32))), (.ref wb)])) _
    refine XS.iconst X104.here hx rfl (hb hby d7_21) ?_
    show Steps p.tables e below (T104.setTop (mkF m 22 #[.val (.ref a1)] [(.int (-1 : Int32)), (.int xv), (.int (w - (1 : Int32))), (.ref wb)])) _
    refine XS.ixor X104.here hx rfl (hb hby d7_22) rfl ?_
    show Steps p.tables e below (T104.setTop (mkF m 23 #[.val (.ref a1)] [(.int (xv ^^^ (-1 : Int32))), (.int (w - (1 : Int32))), (.ref wb)])) _
    refine st106 _ ?_
    show Steps p.tables e below (T106.setTop (mkF m 24 #[.val (.ref a1)] [])) _
    refine XS.aloadN X106.here hx rfl (hb hby d7_24) rfl rfl ?_
    show Steps p.tables e below (T106.setTop (mkF m 25 #[.val (.ref a1)] [(.ref a1)])) _
    refine XS.aloadN X106.here hx rfl (hb hby d7_25) rfl rfl ?_
    show Steps p.tables e below (T106.setTop (mkF m 26 #[.val (.ref a1)] [(.ref a1), (.ref a1)])) _
    refine st109 _ ?_
    show Steps p.tables e below (T109.setTop (mkF m 29 #[.val (.ref a1)] [(.int w), (.ref a1)])) _
    refine st112 _ ?_
    show Steps p.tables e below (T112.setTop (mkF m 32 #[.val (.ref a1)] [])) _
    exact X112.returnOut hx Bd.returns (hb hby d7_32) hr
  · show Q7 Z a1 w cs n cb wb wk wvs h0 n0 _ T112.heap _
    rw [e112]
    exact ⟨(wvs.set (w - (1 : Int32)).toNatClampNeg (.int (xv ^^^ (-1 : Int32)))), rfl, N112, (((Keep.refl h0 [a1, wb]).wr W106 (Or.inl (List.mem_of_getElem? (i := 1) rfl))).wr W112 (Or.inl (List.mem_of_getElem? (i := 0) rfl))), f113, Fw112, f114, f115, f116, f117, (by rw [List.length_set]; exact H10)⟩
theorem d4_0 : decode method_3_code 0 = .ok (.iload_n 1, 1) := by decide +kernel
theorem d4_1 : decode method_3_code 1 = .ok (.ifCond .ne 12, 3) := by decide +kernel
theorem d4_4 : decode method_3_code 4 = .ok (.aload_n 0, 1) := by decide +kernel
theorem d4_5 : decode method_3_code 5 = .ok (.iload_n 2, 1) := by decide +kernel
theorem d4_6 : decode method_3_code 6 = .ok (.i2c, 1) := by decide +kernel
theorem d4_7 : decode method_3_code 7 = .ok (.invokevirtual 22, 3) := by decide +kernel
theorem pd_0 : parseMethodDescriptor "(C)V" = some ⟨[.char], none⟩ := by decide +kernel
theorem d4_10 : decode method_3_code 10 = .ok (.goto 42, 3) := by decide +kernel
theorem d4_52 : decode method_3_code 52 = .ok (.aload_n 0, 1) := by decide +kernel
theorem d4_53 : decode method_3_code 53 = .ok (.invokevirtual 12, 3) := by decide +kernel
theorem pd_1 : parseMethodDescriptor "()Z" = some ⟨[], some .boolean⟩ := by decide +kernel
theorem d4_56 : decode method_3_code 56 = .ok (.aload_n 3, 1) := by decide +kernel
theorem d4_57 : decode method_3_code 57 = .ok (.iconst 0, 1) := by decide +kernel
theorem d4_58 : decode method_3_code 58 = .ok (.iaload, 1) := by decide +kernel
theorem d4_59 : decode method_3_code 59 = .ok (.aload_n 3, 1) := by decide +kernel
theorem d4_60 : decode method_3_code 60 = .ok (.iconst 1, 1) := by decide +kernel
theorem d4_61 : decode method_3_code 61 = .ok (.iaload, 1) := by decide +kernel
theorem d4_62 : decode method_3_code 62 = .ok (.if_icmp .le 7, 3) := by decide +kernel
theorem d4_65 : decode method_3_code 65 = .ok (.iconst 1, 1) := by decide +kernel
theorem d4_66 : decode method_3_code 66 = .ok (.goto 4, 3) := by decide +kernel
theorem d4_70 : decode method_3_code 70 = .ok (.if_icmp .ne 7, 3) := by decide +kernel
theorem d4_73 : decode method_3_code 73 = .ok (.iconst 1, 1) := by decide +kernel
theorem d4_74 : decode method_3_code 74 = .ok (.goto 4, 3) := by decide +kernel
theorem d4_78 : decode method_3_code 78 = .ok (.ireturn, 1) := by decide +kernel
theorem d4_69 : decode method_3_code 69 = .ok (.iconst 0, 1) := by decide +kernel
theorem d4_13 : decode method_3_code 13 = .ok (.iload_n 1, 1) := by decide +kernel
theorem d4_14 : decode method_3_code 14 = .ok (.iconst 2, 1) := by decide +kernel
theorem d4_15 : decode method_3_code 15 = .ok (.if_icmp .ne 25, 3) := by decide +kernel
theorem d4_18 : decode method_3_code 18 = .ok (.aload_n 3, 1) := by decide +kernel
theorem d4_19 : decode method_3_code 19 = .ok (.iconst 0, 1) := by decide +kernel
theorem d4_20 : decode method_3_code 20 = .ok (.iaload, 1) := by decide +kernel
theorem d4_21 : decode method_3_code 21 = .ok (.aload_n 3, 1) := by decide +kernel
theorem d4_22 : decode method_3_code 22 = .ok (.iconst 1, 1) := by decide +kernel
theorem d4_23 : decode method_3_code 23 = .ok (.iaload, 1) := by decide +kernel
theorem d4_24 : decode method_3_code 24 = .ok (.if_icmp .le 16, 3) := by decide +kernel
theorem d4_27 : decode method_3_code 27 = .ok (.aload_n 0, 1) := by decide +kernel
theorem d4_28 : decode method_3_code 28 = .ok (.invokevirtual 26, 3) := by decide +kernel
theorem pd_2 : parseMethodDescriptor "()V" = some ⟨[], none⟩ := by decide +kernel
theorem d4_31 : decode method_3_code 31 = .ok (.aload_n 3, 1) := by decide +kernel
theorem d4_32 : decode method_3_code 32 = .ok (.iconst 1, 1) := by decide +kernel
theorem d4_33 : decode method_3_code 33 = .ok (.aload_n 3, 1) := by decide +kernel
theorem d4_34 : decode method_3_code 34 = .ok (.iconst 0, 1) := by decide +kernel
theorem d4_35 : decode method_3_code 35 = .ok (.iaload, 1) := by decide +kernel
theorem d4_36 : decode method_3_code 36 = .ok (.iastore, 1) := by decide +kernel
theorem d4_37 : decode method_3_code 37 = .ok (.goto 15, 3) := by decide +kernel
theorem d4_40 : decode method_3_code 40 = .ok (.aload_n 0, 1) := by decide +kernel
theorem d4_41 : decode method_3_code 41 = .ok (.invokevirtual 29, 3) := by decide +kernel
theorem d4_44 : decode method_3_code 44 = .ok (.aload_n 3, 1) := by decide +kernel
theorem d4_45 : decode method_3_code 45 = .ok (.iconst 0, 1) := by decide +kernel
theorem d4_46 : decode method_3_code 46 = .ok (.aload_n 3, 1) := by decide +kernel
theorem d4_47 : decode method_3_code 47 = .ok (.iconst 0, 1) := by decide +kernel
theorem d4_48 : decode method_3_code 48 = .ok (.iaload, 1) := by decide +kernel
theorem d4_49 : decode method_3_code 49 = .ok (.iconst 1, 1) := by decide +kernel
theorem d4_50 : decode method_3_code 50 = .ok (.iadd, 1) := by decide +kernel
theorem d4_51 : decode method_3_code 51 = .ok (.iastore, 1) := by decide +kernel
theorem pn_com_example_rouse_rouse_shell_CommandLineCommandHasWordsPinLaw : plainName "com/example/rouse/rouse/shell/CommandLineCommandHasWordsPinLaw" = true := by first | (simp [plainName, overriddenIn]; done) | decide +kernel
theorem ef_4 (m : MethodId) (a1 : Addr) (p2 : Int32) (p3 : Int32) (a4 : Addr) : entryFrame m #[(.ref a1), (.int p2), (.int p3), (.ref a4)] 4 = mkF m 0 #[.val (.ref a1), .val (.int p2), .val (.int p3), .val (.ref a4)] [] := by first | (simp [entryFrame, mkF, argsToLocals, Value.category]; done) | rfl
def Q4 (Z : State) (a1 : Addr) (p2 : Int32) (p3 : Int32) (a4 : Addr) (w : Int32) (cs : Int32) (n : Int32) (cb : Addr) (ck : ClassId) (cvs : List Value) (wb : Addr) (wk : ClassId) (wvs : List Value) (mk : ClassId) (k : Int) (h0 : Heap) (n0 : Nat) (v : Option Value) (h : Heap) (L : List Loc) : Prop := ∃ (wx : Int32) (cx : Int32) (nx : Int32) (cvx : List Value) (wvx : List Value), v = some (.int (1 : Int32)) ∧ Fr n0 L ∧ Keep h0 h [a1, cb, wb, a4] ∧ Fld Z h a1 "com/example/rouse/rouse/shell/CommandLine" "words" "I" (.int wx) ∧ Fld Z h a1 "com/example/rouse/rouse/shell/CommandLine" "commandStart" "I" (.int cx) ∧ Fld Z h a1 "com/example/rouse/rouse/shell/CommandLine" "length" "I" (.int nx) ∧ Fld Z h a1 "com/example/rouse/rouse/shell/CommandLine" "characters" "[C" (.ref cb) ∧ Fld Z h a1 "com/example/rouse/rouse/shell/CommandLine" "wordEnds" "[I" (.ref wb) ∧ Arv Z h cb ck .char (16 : Int32) cvx (.int (0 : Int32)) ∧ Arv Z h wb wk .int (16 : Int32) wvx (.int (0 : Int32)) ∧ Arv Z h a4 mk .int (2 : Int32) [(.int wx), (.int cx)] (.int (0 : Int32)) ∧ cvx.length = 16 ∧ wvx.length = 16 ∧ own_ok (k + 1) wx cx nx
set_option maxRecDepth 65536 in
set_option maxHeartbeats 40000000 in
theorem rm4 (l : Launch) (Z : State) (a0 : Array Value) (hw : ∀ d ∈ tables_1, d.before a0 Z = true) (ws : List Jvm.Cond) (a1 : Addr) (p2 : Int32) (p3 : Int32) (a4 : Addr) (w : Int32) (cs : Int32) (n : Int32) (cb : Addr) (ck : ClassId) (cvs : List Value) (wb : Addr) (wk : ClassId) (wvs : List Value) (mk : ClassId) (k : Int) (h0 : Heap) (n0 : Nat) (Z0 : n0 ≤ h0.size) (H0 : Exa Z h0 a1 "com/example/rouse/rouse/shell/CommandLine") (H1 : Fld Z h0 a1 "com/example/rouse/rouse/shell/CommandLine" "words" "I" (.int w)) (H2 : Fld Z h0 a1 "com/example/rouse/rouse/shell/CommandLine" "commandStart" "I" (.int cs)) (H3 : Fld Z h0 a1 "com/example/rouse/rouse/shell/CommandLine" "length" "I" (.int n)) (H4 : Fld Z h0 a1 "com/example/rouse/rouse/shell/CommandLine" "characters" "[C" (.ref cb)) (H5 : Fld Z h0 a1 "com/example/rouse/rouse/shell/CommandLine" "wordEnds" "[I" (.ref wb)) (H6 : Arv Z h0 cb ck .char (16 : Int32) cvs (.int (0 : Int32))) (H7 : Arv Z h0 wb wk .int (16 : Int32) wvs (.int (0 : Int32))) (H8 : Arv Z h0 a4 mk .int (2 : Int32) [(.int w), (.int cs)] (.int (0 : Int32))) (H9 : n0 ≤ a1) (H10 : n0 ≤ cb) (H11 : n0 ≤ wb) (H12 : n0 ≤ a4) (H13 : cb ≠ wb) (H14 : cb ≠ a4) (H15 : wb ≠ a4) (H16 : cvs.length = 16) (H17 : wvs.length = 16) (H18 : own_ok k w cs n) (H19 : k < 16) :
    MetFree l (⟨"com/example/rouse/rouse/shell/CommandLineCommandHasWordsPinLaw", "step", "(Lcom/example/rouse/rouse/shell/CommandLine;II[I)Z"⟩ : MethodName) (head1 (Jvm.Cond.code (⟨"com/example/rouse/rouse/shell/CommandLineCommandHasWordsPinLaw", "step", "(Lcom/example/rouse/rouse/shell/CommandLine;II[I)Z"⟩ : MethodName) method_3_code 4 (some .boolean) :: ws) ({ frames := 1, cells := 0, slots := 0, locals := 13 } : Room)) (fun a U => a = #[(.ref a1), (.int p2), (.int p3), (.ref a4)] ∧ Z.Warmed39 U.vm ∧ U.heap = h0) (fun _ _ _ _ _ => True) (fun _ U o U' => ∃ v L, o = .returned v ∧ Q4 Z a1 p2 p3 a4 w cs n cb ck cvs wb wk wvs mk k h0 n0 v U'.heap L ∧ FrameEnd U o U' L ({ frames := 1, cells := 0, slots := 0, locals := 13 } : Room).cells ({ frames := 1, cells := 0, slots := 0, locals := 13 } : Room).slots) := by
  refine MetFree.of_bodySF (plainFor_of_name pn_com_example_rouse_rouse_shell_CommandLineCommandHasWordsPinLaw) hisR ?_
  intro p e s m args below meth c s₁ Bd hml0 hP hK
  obtain ⟨rfl, hZ, hh⟩ := hP
  have hx := Bd.exec
  have hby := Bd.bytes
  have hml : c.maxLocals = 4 := hml0
  have hown : s.vm.findClass "com/example/rouse/rouse/shell/CommandLineCommandHasWordsPinLaw" = some m.cls := findClass_of_methodNamed Bd.named
  have hnm := (name_of_methodNamed Bd.named Bd.method).1
  have X0 : Stand p l e ({ frames := 1, cells := 0, slots := 0, locals := 13 } : Room) s m #[(.ref a1), (.int p2), (.int p3), (.ref a4)] below meth c s₁ [] 0 0 := Stand.of_body Bd
  have e0 : s₁.heap = h0 := by rw [← hh, Bd.state]; rfl
  have N0 := Fr.nil n0
  have pre0 : ∀ t, Steps p.tables e below (s₁.setTop (mkF m 0 #[.val (.ref a1), .val (.int p2), .val (.int p3), .val (.ref a4)] [])) t → Steps p.tables e below (s₁.setTop (entryFrame m #[(.ref a1), (.int p2), (.int p3), (.ref a4)] 4)) t := fun t k => castTop (ef_4 m a1 p2 p3 a4) k
  have pre101 : ∀ t, Steps p.tables e below (s₁.setTop (mkF m 1 #[.val (.ref a1), .val (.int p2), .val (.int p3), .val (.ref a4)] [(.int p2)])) t → Steps p.tables e below (s₁.setTop (entryFrame m #[(.ref a1), (.int p2), (.int p3), (.ref a4)] 4)) t := fun t kt => by
    refine pre0 t ?_
    show Steps p.tables e below (s₁.setTop (mkF m 0 #[.val (.ref a1), .val (.int p2), .val (.int p3), .val (.ref a4)] [])) _
    refine XS.iloadN X0.here hx rfl (hb hby d4_0) rfl ?_
    show Steps p.tables e below (s₁.setTop (mkF m 1 #[.val (.ref a1), .val (.int p2), .val (.int p3), .val (.ref a4)] [(.int p2)])) _
    exact kt
  by_cases hc1_102 : p2 = (0 : Int32)
  · skip
    obtain ⟨cq103, kq103, q103a, q103b, q103c⟩ := isOf hZ e0 H0
    obtain ⟨_, _, ⟨T103, L103, k103, n103⟩, -, X103, ⟨Lc103, hQ103, l103, y103, z103⟩, st103⟩ := X0.virtualBack hx (y := (⟨"com/example/rouse/rouse/shell/CommandLine", "append", "(C)V"⟩ : MethodName)) (z := (⟨"com/example/rouse/rouse/shell/CommandLine", "append", "(C)V"⟩ : MethodName)) hown (mvT hZ (hw _ (List.mem_of_getElem? (i := 32) rfl))) (mvT hZ (hw _ (List.mem_of_getElem? (i := 33) rfl))) (notFace_of_selects (args := #[]) (mvT hZ (hw _ (List.mem_of_getElem? (i := 35) rfl)))) (mvT hZ (hw _ (List.mem_of_getElem? (i := 35) rfl))) (mvT hZ (hw _ (List.mem_of_getElem? (i := 34) rfl))) (by decide) (backOf (W := 0) (rm5 l Z a0 hw [] a1 (p3.toUInt32.toUInt16.toUInt32.toInt32) w cs n cb ck cvs wb h0 n0 Z0 H0 H1 H2 H3 H4 H5 H6 H9 H10 (own_in_of H18.2.2.2.2.1 H18.2.2.2.2.2 H19) H16) hZ (hw _ (List.mem_of_getElem? (i := 36) rfl)) (hw _ (List.mem_of_getElem? (i := 2) rfl)) (by decide) (by decide)) q103a q103c (g := (mkF m 7 #[.val (.ref a1), .val (.int p2), .val (.int p3), .val (.ref a4)] [(.int (p3.toUInt32.toUInt16.toUInt32.toInt32)), (.ref a1)])) rfl (by rw [hml]; rfl) (Steps.refl _) (argsL := [(.int (p3.toUInt32.toUInt16.toUInt32.toInt32))]) (rest := []) (lenOf pd_0 rfl) rfl (by show 2 * 0 + _ ≤ _; exact Nat.le_of_eq rfl) (hb hby d4_7) (fun _ _ => ⟨rfl, e0, (by decide : 0 + 0 ≤ _), (by decide : 0 + 0 ≤ _)⟩)
    dsimp only [Pt.U, Pt.locs, Pt.cells, Pt.slots] at X103 l103 y103 z103 st103 hQ103
    subst l103 y103 z103
    obtain ⟨cvx103, rfl, Nq103, K103, R103_1, R103_2, R103_3, R103_4, R103_5, R103_6, R103_7⟩ := hQ103
    have N103 := Fr.app N0 Nq103
    have z105 : n0 ≤ T103.heap.size := (Nat.le_trans Z0 K103.1)
    have f106 : Exa Z T103.heap a1 "com/example/rouse/rouse/shell/CommandLine" := (H0.keep K103)
    obtain ⟨cq104, kq104, q104a, q104b, q104c⟩ := isOf hZ rfl f106
    obtain ⟨_, _, ⟨T104, L104, k104, n104⟩, -, X104, ⟨Lc104, hQ104, l104, y104, z104⟩, st104⟩ := X103.virtualBack hx (y := (⟨"com/example/rouse/rouse/shell/CommandLine", "commandHasWords", "()Z"⟩ : MethodName)) (z := (⟨"com/example/rouse/rouse/shell/CommandLine", "commandHasWords", "()Z"⟩ : MethodName)) hown (mvT hZ (hw _ (List.mem_of_getElem? (i := 19) rfl))) (mvT hZ (hw _ (List.mem_of_getElem? (i := 20) rfl))) (notFace_of_selects (args := #[]) (mvT hZ (hw _ (List.mem_of_getElem? (i := 22) rfl)))) (mvT hZ (hw _ (List.mem_of_getElem? (i := 22) rfl))) (mvT hZ (hw _ (List.mem_of_getElem? (i := 21) rfl))) (by decide) (backOf (W := 0) (rm3 l Z a0 hw [] a1 w cs T103.heap n0 z105 R103_1 R103_2) hZ (hw _ (List.mem_of_getElem? (i := 23) rfl)) (hw _ (List.mem_of_getElem? (i := 2) rfl)) (by decide) (by decide)) q104a q104c (g := (mkF m 53 #[.val (.ref a1), .val (.int p2), .val (.int p3), .val (.ref a4)] [(.ref a1)])) rfl (by rw [hml]; rfl) (Steps.refl _) (argsL := []) (rest := []) (lenOf pd_1 rfl) rfl (by show 2 * 0 + _ ≤ _; exact Nat.le_of_eq rfl) (hb hby d4_53) (fun _ _ => ⟨rfl, rfl, (by decide : 0 + 0 ≤ _), (by decide : 0 + 0 ≤ _)⟩)
    dsimp only [Pt.U, Pt.locs, Pt.cells, Pt.slots] at X104 l104 y104 z104 st104 hQ104
    subst l104 y104 z104
    obtain ⟨rfl, Nq104, Heq104⟩ := hQ104
    have N104 := Fr.app N103 Nq104
    have ne107 : a1 ≠ a4 := Exa.neArv H0 H8 (hw _ (List.mem_of_getElem? (i := 1) rfl))
    have f108 : Arv Z T103.heap a4 mk .int (2 : Int32) [(.int w), (.int cs)] (.int (0 : Int32)) := (H8.keep K103 (ninS (Ne.symm ne107) (ninS (Ne.symm H14) nin0)))
    obtain ⟨cl109, Ar109, qc109, S109, M109, Hh109, G109⟩ := id f108
    have hin109 : ¬ ((0 : Int32) < 0 ∨ cl109.slots.size ≤ ((0 : Int32)).toNatClampNeg) := inb_of S109 ⟨by decide, by decide⟩
    obtain ⟨cl110, Ar110, qc110, S110, M110, Hh110, G110⟩ := id f108
    have hin110 : ¬ ((1 : Int32) < 0 ∨ cl110.slots.size ≤ ((1 : Int32)).toNatClampNeg) := inb_of S110 ⟨by decide, by decide⟩
    have pre111 : ∀ t, Steps p.tables e below (T104.setTop (mkF m 62 #[.val (.ref a1), .val (.int p2), .val (.int p3), .val (.ref a4)] [(.int cs), (.int w), (.int (own_b cs w))])) t → Steps p.tables e below (s₁.setTop (entryFrame m #[(.ref a1), (.int p2), (.int p3), (.ref a4)] 4)) t := fun t kt => by
      refine pre101 t ?_
      show Steps p.tables e below (s₁.setTop (mkF m 1 #[.val (.ref a1), .val (.int p2), .val (.int p3), .val (.ref a4)] [(.int p2)])) _
      refine XS.ifNo X0.here hx rfl (hb hby d4_1) rfl ((if0 _ _).trans (teq (hc1_102 : p2 = (0 : Int32))).2) ?_
      show Steps p.tables e below (s₁.setTop (mkF m 4 #[.val (.ref a1), .val (.int p2), .val (.int p3), .val (.ref a4)] [])) _
      refine XS.aloadN X0.here hx rfl (hb hby d4_4) rfl rfl ?_
      show Steps p.tables e below (s₁.setTop (mkF m 5 #[.val (.ref a1), .val (.int p2), .val (.int p3), .val (.ref a4)] [(.ref a1)])) _
      refine XS.iloadN X0.here hx rfl (hb hby d4_5) rfl ?_
      show Steps p.tables e below (s₁.setTop (mkF m 6 #[.val (.ref a1), .val (.int p2), .val (.int p3), .val (.ref a4)] [(.int p3), (.ref a1)])) _
      refine XS.i2c X0.here hx rfl (hb hby d4_6) rfl ?_
      show Steps p.tables e below (s₁.setTop (mkF m 7 #[.val (.ref a1), .val (.int p2), .val (.int p3), .val (.ref a4)] [(.int (p3.toUInt32.toUInt16.toUInt32.toInt32)), (.ref a1)])) _
      refine st103.trans ?_
      show Steps p.tables e below (T103.setTop (mkF m 10 #[.val (.ref a1), .val (.int p2), .val (.int p3), .val (.ref a4)] [])) _
      refine XS.goto X103.here hx rfl (pc0 := 10) (pc' := 52) rfl (hb hby d4_10) (by decide) (by decide) ?_
      show Steps p.tables e below (T103.setTop (mkF m 52 #[.val (.ref a1), .val (.int p2), .val (.int p3), .val (.ref a4)] [])) _
      refine XS.aloadN X103.here hx rfl (hb hby d4_52) rfl rfl ?_
      show Steps p.tables e below (T103.setTop (mkF m 53 #[.val (.ref a1), .val (.int p2), .val (.int p3), .val (.ref a4)] [(.ref a1)])) _
      refine st104.trans ?_
      show Steps p.tables e below (T104.setTop (mkF m 56 #[.val (.ref a1), .val (.int p2), .val (.int p3), .val (.ref a4)] [(.int (own_b cs w))])) _
      refine XS.aloadN X104.here hx rfl (hb hby d4_56) rfl rfl ?_
      show Steps p.tables e below (T104.setTop (mkF m 57 #[.val (.ref a1), .val (.int p2), .val (.int p3), .val (.ref a4)] [(.ref a4), (.int (own_b cs w))])) _
      refine XS.iconst X104.here hx rfl (hb hby d4_57) ?_
      show Steps p.tables e below (T104.setTop (mkF m 58 #[.val (.ref a1), .val (.int p2), .val (.int p3), .val (.ref a4)] [(.int (0 : Int32)), (.ref a4), (.int (own_b cs w))])) _
      refine X104.iaload hx (j := (0 : Int32)) (v := (.int w)) (by rw [Heq104]; exact Ar109.1) (State.isArrayOf_alike hZ.alike Ar109.2.1) Ar109.2.2 hin109 (Hh109.at hin109 (rfl)) (g := (mkF m 58 #[.val (.ref a1), .val (.int p2), .val (.int p3), .val (.ref a4)] [(.int (0 : Int32)), (.ref a4), (.int (own_b cs w))])) rfl rfl (hb hby d4_58) _ ?_
      show Steps p.tables e below (T104.setTop (mkF m 59 #[.val (.ref a1), .val (.int p2), .val (.int p3), .val (.ref a4)] [(.int w), (.int (own_b cs w))])) _
      refine XS.aloadN X104.here hx rfl (hb hby d4_59) rfl rfl ?_
      show Steps p.tables e below (T104.setTop (mkF m 60 #[.val (.ref a1), .val (.int p2), .val (.int p3), .val (.ref a4)] [(.ref a4), (.int w), (.int (own_b cs w))])) _
      refine XS.iconst X104.here hx rfl (hb hby d4_60) ?_
      show Steps p.tables e below (T104.setTop (mkF m 61 #[.val (.ref a1), .val (.int p2), .val (.int p3), .val (.ref a4)] [(.int (1 : Int32)), (.ref a4), (.int w), (.int (own_b cs w))])) _
      refine X104.iaload hx (j := (1 : Int32)) (v := (.int cs)) (by rw [Heq104]; exact Ar110.1) (State.isArrayOf_alike hZ.alike Ar110.2.1) Ar110.2.2 hin110 (Hh110.at hin110 (rfl)) (g := (mkF m 61 #[.val (.ref a1), .val (.int p2), .val (.int p3), .val (.ref a4)] [(.int (1 : Int32)), (.ref a4), (.int w), (.int (own_b cs w))])) rfl rfl (hb hby d4_61) _ ?_
      show Steps p.tables e below (T104.setTop (mkF m 62 #[.val (.ref a1), .val (.int p2), .val (.int p3), .val (.ref a4)] [(.int cs), (.int w), (.int (own_b cs w))])) _
      exact kt
    by_cases hc62_112 : cs < w
    · skip
      have ne113 : a1 ≠ wb := Exa.neArv H0 H7 (hw _ (List.mem_of_getElem? (i := 1) rfl))
      have f114 : Arv Z T103.heap wb wk .int (16 : Int32) wvs (.int (0 : Int32)) := (H7.keep K103 (ninS (Ne.symm ne113) (ninS (Ne.symm H13) nin0)))
      obtain ⟨fs, hr, hrun, hended, hW, hsame⟩ := X104.leave (v := some (.int (1 : Int32))) (fun h => by rw [Bd.returns] at h; cases h)
      refine ⟨_, _, pre111 _ ?_, hrun, hended, _, _, rfl, ?_, ⟨_, rfl⟩, hW, hsame.mono (by decide) (by decide)⟩
      · skip
        show Steps p.tables e below (T104.setTop (mkF m 62 #[.val (.ref a1), .val (.int p2), .val (.int p3), .val (.ref a4)] [(.int cs), (.int w), (.int (own_b cs w))])) _
        refine XS.icmpNo X104.here hx rfl (hb hby d4_62) rfl (tlt (hc62_112 : cs < w)).2.2.2 ?_
        show Steps p.tables e below (T104.setTop (mkF m 65 #[.val (.ref a1), .val (.int p2), .val (.int p3), .val (.ref a4)] [(.int (own_b cs w))])) _
        refine XS.iconst X104.here hx rfl (hb hby d4_65) ?_
        show Steps p.tables e below (T104.setTop (mkF m 66 #[.val (.ref a1), .val (.int p2), .val (.int p3), .val (.ref a4)] [(.int (1 : Int32)), (.int (own_b cs w))])) _
        refine XS.goto X104.here hx rfl (pc0 := 66) (pc' := 70) rfl (hb hby d4_66) (by decide) (by decide) ?_
        show Steps p.tables e below (T104.setTop (mkF m 70 #[.val (.ref a1), .val (.int p2), .val (.int p3), .val (.ref a4)] [(.int (1 : Int32)), (.int (own_b cs w))])) _
        refine XS.icmpNo X104.here hx rfl (hb hby d4_70) rfl (teq (if_pos hc62_112 : (own_b cs w) = (1 : Int32))).2 ?_
        show Steps p.tables e below (T104.setTop (mkF m 73 #[.val (.ref a1), .val (.int p2), .val (.int p3), .val (.ref a4)] [])) _
        refine XS.iconst X104.here hx rfl (hb hby d4_73) ?_
        show Steps p.tables e below (T104.setTop (mkF m 74 #[.val (.ref a1), .val (.int p2), .val (.int p3), .val (.ref a4)] [(.int (1 : Int32))])) _
        refine XS.goto X104.here hx rfl (pc0 := 74) (pc' := 78) rfl (hb hby d4_74) (by decide) (by decide) ?_
        show Steps p.tables e below (T104.setTop (mkF m 78 #[.val (.ref a1), .val (.int p2), .val (.int p3), .val (.ref a4)] [(.int (1 : Int32))])) _
        exact retN X104 hx (t := .boolean) Bd.returns (by simp) (hb hby d4_78) hr
      · show Q4 Z a1 p2 p3 a4 w cs n cb ck cvs wb wk wvs mk k h0 n0 _ T104.heap _
        rw [Heq104]
        exact ⟨w, cs, (n + (1 : Int32)), cvx103, wvs, rfl, N104, ((Keep.refl h0 [a1, cb, wb, a4]).trans K103 (allS (P := (fun x => x ∈ [a1, cb, wb, a4] ∨ h0.size ≤ x)) (Or.inl (List.mem_of_getElem? (i := 0) rfl)) (allS (P := (fun x => x ∈ [a1, cb, wb, a4] ∨ h0.size ≤ x)) (Or.inl (List.mem_of_getElem? (i := 1) rfl)) all0))), R103_1, R103_2, R103_3, R103_4, R103_5, R103_6, f114, f108, R103_7, H17, (by obtain ⟨o1, o2, o3, o4, o5, o6⟩ := H18; have i1 := own_inc o1 o2 H19; have i2 := own_inc o5 o6 H19; exact ⟨by omega, by omega, by omega, by omega, by omega, by omega⟩)⟩
    · skip
      have ne115 : a1 ≠ wb := Exa.neArv H0 H7 (hw _ (List.mem_of_getElem? (i := 1) rfl))
      have f116 : Arv Z T103.heap wb wk .int (16 : Int32) wvs (.int (0 : Int32)) := (H7.keep K103 (ninS (Ne.symm ne115) (ninS (Ne.symm H13) nin0)))
      obtain ⟨fs, hr, hrun, hended, hW, hsame⟩ := X104.leave (v := some (.int (1 : Int32))) (fun h => by rw [Bd.returns] at h; cases h)
      refine ⟨_, _, pre111 _ ?_, hrun, hended, _, _, rfl, ?_, ⟨_, rfl⟩, hW, hsame.mono (by decide) (by decide)⟩
      · skip
        show Steps p.tables e below (T104.setTop (mkF m 62 #[.val (.ref a1), .val (.int p2), .val (.int p3), .val (.ref a4)] [(.int cs), (.int w), (.int (own_b cs w))])) _
        refine XS.icmpYes X104.here hx rfl (pc0 := 62) (pc' := 69) rfl (hb hby d4_62) rfl (flt (hc62_112 : ¬ (cs < w))).2.2.2 (by decide) (by decide) ?_
        show Steps p.tables e below (T104.setTop (mkF m 69 #[.val (.ref a1), .val (.int p2), .val (.int p3), .val (.ref a4)] [(.int (own_b cs w))])) _
        refine XS.iconst X104.here hx rfl (hb hby d4_69) ?_
        show Steps p.tables e below (T104.setTop (mkF m 70 #[.val (.ref a1), .val (.int p2), .val (.int p3), .val (.ref a4)] [(.int (0 : Int32)), (.int (own_b cs w))])) _
        refine XS.icmpNo X104.here hx rfl (hb hby d4_70) rfl (teq (if_neg hc62_112 : (own_b cs w) = (0 : Int32))).2 ?_
        show Steps p.tables e below (T104.setTop (mkF m 73 #[.val (.ref a1), .val (.int p2), .val (.int p3), .val (.ref a4)] [])) _
        refine XS.iconst X104.here hx rfl (hb hby d4_73) ?_
        show Steps p.tables e below (T104.setTop (mkF m 74 #[.val (.ref a1), .val (.int p2), .val (.int p3), .val (.ref a4)] [(.int (1 : Int32))])) _
        refine XS.goto X104.here hx rfl (pc0 := 74) (pc' := 78) rfl (hb hby d4_74) (by decide) (by decide) ?_
        show Steps p.tables e below (T104.setTop (mkF m 78 #[.val (.ref a1), .val (.int p2), .val (.int p3), .val (.ref a4)] [(.int (1 : Int32))])) _
        exact retN X104 hx (t := .boolean) Bd.returns (by simp) (hb hby d4_78) hr
      · show Q4 Z a1 p2 p3 a4 w cs n cb ck cvs wb wk wvs mk k h0 n0 _ T104.heap _
        rw [Heq104]
        exact ⟨w, cs, (n + (1 : Int32)), cvx103, wvs, rfl, N104, ((Keep.refl h0 [a1, cb, wb, a4]).trans K103 (allS (P := (fun x => x ∈ [a1, cb, wb, a4] ∨ h0.size ≤ x)) (Or.inl (List.mem_of_getElem? (i := 0) rfl)) (allS (P := (fun x => x ∈ [a1, cb, wb, a4] ∨ h0.size ≤ x)) (Or.inl (List.mem_of_getElem? (i := 1) rfl)) all0))), R103_1, R103_2, R103_3, R103_4, R103_5, R103_6, f116, f108, R103_7, H17, (by obtain ⟨o1, o2, o3, o4, o5, o6⟩ := H18; have i1 := own_inc o1 o2 H19; have i2 := own_inc o5 o6 H19; exact ⟨by omega, by omega, by omega, by omega, by omega, by omega⟩)⟩
  · skip
    have pre117 : ∀ t, Steps p.tables e below (s₁.setTop (mkF m 15 #[.val (.ref a1), .val (.int p2), .val (.int p3), .val (.ref a4)] [(.int (2 : Int32)), (.int p2)])) t → Steps p.tables e below (s₁.setTop (entryFrame m #[(.ref a1), (.int p2), (.int p3), (.ref a4)] 4)) t := fun t kt => by
      refine pre101 t ?_
      show Steps p.tables e below (s₁.setTop (mkF m 1 #[.val (.ref a1), .val (.int p2), .val (.int p3), .val (.ref a4)] [(.int p2)])) _
      refine XS.ifYes X0.here hx rfl (pc0 := 1) (pc' := 13) rfl (hb hby d4_1) rfl ((if0 _ _).trans (feq (hc1_102 : ¬ (p2 = (0 : Int32)))).2) (by decide) (by decide) ?_
      show Steps p.tables e below (s₁.setTop (mkF m 13 #[.val (.ref a1), .val (.int p2), .val (.int p3), .val (.ref a4)] [])) _
      refine XS.iloadN X0.here hx rfl (hb hby d4_13) rfl ?_
      show Steps p.tables e below (s₁.setTop (mkF m 14 #[.val (.ref a1), .val (.int p2), .val (.int p3), .val (.ref a4)] [(.int p2)])) _
      refine XS.iconst X0.here hx rfl (hb hby d4_14) ?_
      show Steps p.tables e below (s₁.setTop (mkF m 15 #[.val (.ref a1), .val (.int p2), .val (.int p3), .val (.ref a4)] [(.int (2 : Int32)), (.int p2)])) _
      exact kt
    by_cases hc15_118 : p2 = (2 : Int32)
    · skip
      obtain ⟨cl119, Ar119, qc119, S119, M119, Hh119, G119⟩ := id H8
      have hin119 : ¬ ((0 : Int32) < 0 ∨ cl119.slots.size ≤ ((0 : Int32)).toNatClampNeg) := inb_of S119 ⟨by decide, by decide⟩
      obtain ⟨cl120, Ar120, qc120, S120, M120, Hh120, G120⟩ := id H8
      have hin120 : ¬ ((1 : Int32) < 0 ∨ cl120.slots.size ≤ ((1 : Int32)).toNatClampNeg) := inb_of S120 ⟨by decide, by decide⟩
      have pre121 : ∀ t, Steps p.tables e below (s₁.setTop (mkF m 24 #[.val (.ref a1), .val (.int p2), .val (.int p3), .val (.ref a4)] [(.int cs), (.int w)])) t → Steps p.tables e below (s₁.setTop (entryFrame m #[(.ref a1), (.int p2), (.int p3), (.ref a4)] 4)) t := fun t kt => by
        refine pre117 t ?_
        show Steps p.tables e below (s₁.setTop (mkF m 15 #[.val (.ref a1), .val (.int p2), .val (.int p3), .val (.ref a4)] [(.int (2 : Int32)), (.int p2)])) _
        refine XS.icmpNo X0.here hx rfl (hb hby d4_15) rfl (teq (hc15_118 : p2 = (2 : Int32))).2 ?_
        show Steps p.tables e below (s₁.setTop (mkF m 18 #[.val (.ref a1), .val (.int p2), .val (.int p3), .val (.ref a4)] [])) _
        refine XS.aloadN X0.here hx rfl (hb hby d4_18) rfl rfl ?_
        show Steps p.tables e below (s₁.setTop (mkF m 19 #[.val (.ref a1), .val (.int p2), .val (.int p3), .val (.ref a4)] [(.ref a4)])) _
        refine XS.iconst X0.here hx rfl (hb hby d4_19) ?_
        show Steps p.tables e below (s₁.setTop (mkF m 20 #[.val (.ref a1), .val (.int p2), .val (.int p3), .val (.ref a4)] [(.int (0 : Int32)), (.ref a4)])) _
        refine X0.iaload hx (j := (0 : Int32)) (v := (.int w)) (by rw [e0]; exact Ar119.1) (State.isArrayOf_alike hZ.alike Ar119.2.1) Ar119.2.2 hin119 (Hh119.at hin119 (rfl)) (g := (mkF m 20 #[.val (.ref a1), .val (.int p2), .val (.int p3), .val (.ref a4)] [(.int (0 : Int32)), (.ref a4)])) rfl rfl (hb hby d4_20) _ ?_
        show Steps p.tables e below (s₁.setTop (mkF m 21 #[.val (.ref a1), .val (.int p2), .val (.int p3), .val (.ref a4)] [(.int w)])) _
        refine XS.aloadN X0.here hx rfl (hb hby d4_21) rfl rfl ?_
        show Steps p.tables e below (s₁.setTop (mkF m 22 #[.val (.ref a1), .val (.int p2), .val (.int p3), .val (.ref a4)] [(.ref a4), (.int w)])) _
        refine XS.iconst X0.here hx rfl (hb hby d4_22) ?_
        show Steps p.tables e below (s₁.setTop (mkF m 23 #[.val (.ref a1), .val (.int p2), .val (.int p3), .val (.ref a4)] [(.int (1 : Int32)), (.ref a4), (.int w)])) _
        refine X0.iaload hx (j := (1 : Int32)) (v := (.int cs)) (by rw [e0]; exact Ar120.1) (State.isArrayOf_alike hZ.alike Ar120.2.1) Ar120.2.2 hin120 (Hh120.at hin120 (rfl)) (g := (mkF m 23 #[.val (.ref a1), .val (.int p2), .val (.int p3), .val (.ref a4)] [(.int (1 : Int32)), (.ref a4), (.int w)])) rfl rfl (hb hby d4_23) _ ?_
        show Steps p.tables e below (s₁.setTop (mkF m 24 #[.val (.ref a1), .val (.int p2), .val (.int p3), .val (.ref a4)] [(.int cs), (.int w)])) _
        exact kt
      by_cases hc24_122 : cs < w
      · skip
        obtain ⟨cq123, kq123, q123a, q123b, q123c⟩ := isOf hZ e0 H0
        obtain ⟨_, _, ⟨T123, L123, k123, n123⟩, -, X123, ⟨Lc123, hQ123, l123, y123, z123⟩, st123⟩ := X0.virtualBack hx (y := (⟨"com/example/rouse/rouse/shell/CommandLine", "endCommand", "()V"⟩ : MethodName)) (z := (⟨"com/example/rouse/rouse/shell/CommandLine", "endCommand", "()V"⟩ : MethodName)) hown (mvT hZ (hw _ (List.mem_of_getElem? (i := 44) rfl))) (mvT hZ (hw _ (List.mem_of_getElem? (i := 45) rfl))) (notFace_of_selects (args := #[]) (mvT hZ (hw _ (List.mem_of_getElem? (i := 47) rfl)))) (mvT hZ (hw _ (List.mem_of_getElem? (i := 47) rfl))) (mvT hZ (hw _ (List.mem_of_getElem? (i := 46) rfl))) (by decide) (backOf (W := 0) (rm7 l Z a0 hw [] a1 w cs n cb wb wk wvs h0 n0 Z0 H0 H1 H2 H3 H4 H5 H7 H9 H11 (own_dec H18.2.2.1 hc24_122 H18.2.1 H19) H17) hZ (hw _ (List.mem_of_getElem? (i := 48) rfl)) (hw _ (List.mem_of_getElem? (i := 2) rfl)) (by decide) (by decide)) q123a q123c (g := (mkF m 28 #[.val (.ref a1), .val (.int p2), .val (.int p3), .val (.ref a4)] [(.ref a1)])) rfl (by rw [hml]; rfl) (Steps.refl _) (argsL := []) (rest := []) (lenOf pd_2 rfl) rfl (by show 2 * 0 + _ ≤ _; exact Nat.le_of_eq rfl) (hb hby d4_28) (fun _ _ => ⟨rfl, e0, (by decide : 0 + 0 ≤ _), (by decide : 0 + 0 ≤ _)⟩)
        dsimp only [Pt.U, Pt.locs, Pt.cells, Pt.slots] at X123 l123 y123 z123 st123 hQ123
        subst l123 y123 z123
        obtain ⟨wvx123, rfl, Nq123, K123, R123_1, R123_2, R123_3, R123_4, R123_5, R123_6, R123_7⟩ := hQ123
        have N123 := Fr.app N0 Nq123
        have ne124 : a1 ≠ a4 := Exa.neArv H0 H8 (hw _ (List.mem_of_getElem? (i := 1) rfl))
        have f125 : Arv Z T123.heap a4 mk .int (2 : Int32) [(.int w), (.int cs)] (.int (0 : Int32)) := (H8.keep K123 (ninS (Ne.symm ne124) (ninS (Ne.symm H15) nin0)))
        obtain ⟨cl126, Ar126, qc126, S126, M126, Hh126, G126⟩ := id f125
        have hin126 : ¬ ((0 : Int32) < 0 ∨ cl126.slots.size ≤ ((0 : Int32)).toNatClampNeg) := inb_of S126 ⟨by decide, by decide⟩
        obtain ⟨cl127, Ar127, qc127, S127, M127, Hh127, G127⟩ := id f125
        have hin127 : ¬ ((1 : Int32) < 0 ∨ cl127.slots.size ≤ ((1 : Int32)).toNatClampNeg) := inb_of S127 ⟨by decide, by decide⟩
        obtain ⟨T127, h127, X127, e127, W127, st127⟩ := stI X123 hx hZ rfl Ar127 (j := (1 : Int32)) hin127 (g := (mkF m 36 #[.val (.ref a1), .val (.int p2), .val (.int p3), .val (.ref a4)] [(.int w), (.int (1 : Int32)), (.ref a4)])) rfl rfl (hb hby d4_36)
        have V127 : Arv Z h127 a4 mk .int (2 : Int32) [(.int w), (.int w)] (.int (0 : Int32)) := Arv.set Ar127 qc127 S127 M127 Hh127 G127 rfl W127 1 rfl (by first | decide | (simp; done))
        have N127 := Fr.snoc X127 N123 H12
        have f128 : Fld Z h127 a1 "com/example/rouse/rouse/shell/CommandLine" "words" "I" (.int w) := (R123_1.other W127 (Or.inl ne124))
        have f129 : Fld Z h127 a1 "com/example/rouse/rouse/shell/CommandLine" "commandStart" "I" (.int w) := (R123_2.other W127 (Or.inl ne124))
        have z131 : n0 ≤ h127.size := (Nat.le_trans (Nat.le_trans Z0 K123.1) (Nat.le_of_eq W127.size.symm))
        have f132 : Exa Z h127 a1 "com/example/rouse/rouse/shell/CommandLine" := ((H0.keep K123).wr W127)
        obtain ⟨cq130, kq130, q130a, q130b, q130c⟩ := isOf hZ e127 f132
        obtain ⟨_, _, ⟨T130, L130, k130, n130⟩, -, X130, ⟨Lc130, hQ130, l130, y130, z130⟩, st130⟩ := X127.virtualBack hx (y := (⟨"com/example/rouse/rouse/shell/CommandLine", "commandHasWords", "()Z"⟩ : MethodName)) (z := (⟨"com/example/rouse/rouse/shell/CommandLine", "commandHasWords", "()Z"⟩ : MethodName)) hown (mvT hZ (hw _ (List.mem_of_getElem? (i := 19) rfl))) (mvT hZ (hw _ (List.mem_of_getElem? (i := 20) rfl))) (notFace_of_selects (args := #[]) (mvT hZ (hw _ (List.mem_of_getElem? (i := 22) rfl)))) (mvT hZ (hw _ (List.mem_of_getElem? (i := 22) rfl))) (mvT hZ (hw _ (List.mem_of_getElem? (i := 21) rfl))) (by decide) (backOf (W := 0) (rm3 l Z a0 hw [] a1 w w h127 n0 z131 f128 f129) hZ (hw _ (List.mem_of_getElem? (i := 23) rfl)) (hw _ (List.mem_of_getElem? (i := 2) rfl)) (by decide) (by decide)) q130a q130c (g := (mkF m 53 #[.val (.ref a1), .val (.int p2), .val (.int p3), .val (.ref a4)] [(.ref a1)])) rfl (by rw [hml]; rfl) (Steps.refl _) (argsL := []) (rest := []) (lenOf pd_1 rfl) rfl (by show 2 * 0 + _ ≤ _; exact Nat.le_of_eq rfl) (hb hby d4_53) (fun _ _ => ⟨rfl, e127, (by decide : 0 + 0 ≤ _), (by decide : 0 + 0 ≤ _)⟩)
        dsimp only [Pt.U, Pt.locs, Pt.cells, Pt.slots] at X130 l130 y130 z130 st130 hQ130
        subst l130 y130 z130
        obtain ⟨rfl, Nq130, Heq130⟩ := hQ130
        have N130 := Fr.app N127 Nq130
        obtain ⟨cl133, Ar133, qc133, S133, M133, Hh133, G133⟩ := id V127
        have hin133 : ¬ ((0 : Int32) < 0 ∨ cl133.slots.size ≤ ((0 : Int32)).toNatClampNeg) := inb_of S133 ⟨by decide, by decide⟩
        obtain ⟨cl134, Ar134, qc134, S134, M134, Hh134, G134⟩ := id V127
        have hin134 : ¬ ((1 : Int32) < 0 ∨ cl134.slots.size ≤ ((1 : Int32)).toNatClampNeg) := inb_of S134 ⟨by decide, by decide⟩
        have f135 : Fld Z h127 a1 "com/example/rouse/rouse/shell/CommandLine" "length" "I" (.int n) := (R123_3.other W127 (Or.inl ne124))
        have f136 : Fld Z h127 a1 "com/example/rouse/rouse/shell/CommandLine" "characters" "[C" (.ref cb) := (R123_4.other W127 (Or.inl ne124))
        have f137 : Fld Z h127 a1 "com/example/rouse/rouse/shell/CommandLine" "wordEnds" "[I" (.ref wb) := (R123_5.other W127 (Or.inl ne124))
        have ne138 : a1 ≠ cb := Exa.neArv H0 H6 (hw _ (List.mem_of_getElem? (i := 1) rfl))
        have f139 : Arv Z h127 cb ck .char (16 : Int32) cvs (.int (0 : Int32)) := ((H6.keep K123 (ninS (Ne.symm ne138) (ninS H13 nin0))).other W127 H14)
        have f140 : Arv Z h127 wb wk .int (16 : Int32) wvx123 (.int (0 : Int32)) := (R123_6.other W127 H15)
        obtain ⟨fs, hr, hrun, hended, hW, hsame⟩ := X130.leave (v := some (.int (1 : Int32))) (fun h => by rw [Bd.returns] at h; cases h)
        refine ⟨_, _, pre121 _ ?_, hrun, hended, _, _, rfl, ?_, ⟨_, rfl⟩, hW, hsame.mono (by decide) (by decide)⟩
        · skip
          show Steps p.tables e below (s₁.setTop (mkF m 24 #[.val (.ref a1), .val (.int p2), .val (.int p3), .val (.ref a4)] [(.int cs), (.int w)])) _
          refine XS.icmpNo X0.here hx rfl (hb hby d4_24) rfl (tlt (hc24_122 : cs < w)).2.2.2 ?_
          show Steps p.tables e below (s₁.setTop (mkF m 27 #[.val (.ref a1), .val (.int p2), .val (.int p3), .val (.ref a4)] [])) _
          refine XS.aloadN X0.here hx rfl (hb hby d4_27) rfl rfl ?_
          show Steps p.tables e below (s₁.setTop (mkF m 28 #[.val (.ref a1), .val (.int p2), .val (.int p3), .val (.ref a4)] [(.ref a1)])) _
          refine st123.trans ?_
          show Steps p.tables e below (T123.setTop (mkF m 31 #[.val (.ref a1), .val (.int p2), .val (.int p3), .val (.ref a4)] [])) _
          refine XS.aloadN X123.here hx rfl (hb hby d4_31) rfl rfl ?_
          show Steps p.tables e below (T123.setTop (mkF m 32 #[.val (.ref a1), .val (.int p2), .val (.int p3), .val (.ref a4)] [(.ref a4)])) _
          refine XS.iconst X123.here hx rfl (hb hby d4_32) ?_
          show Steps p.tables e below (T123.setTop (mkF m 33 #[.val (.ref a1), .val (.int p2), .val (.int p3), .val (.ref a4)] [(.int (1 : Int32)), (.ref a4)])) _
          refine XS.aloadN X123.here hx rfl (hb hby d4_33) rfl rfl ?_
          show Steps p.tables e below (T123.setTop (mkF m 34 #[.val (.ref a1), .val (.int p2), .val (.int p3), .val (.ref a4)] [(.ref a4), (.int (1 : Int32)), (.ref a4)])) _
          refine XS.iconst X123.here hx rfl (hb hby d4_34) ?_
          show Steps p.tables e below (T123.setTop (mkF m 35 #[.val (.ref a1), .val (.int p2), .val (.int p3), .val (.ref a4)] [(.int (0 : Int32)), (.ref a4), (.int (1 : Int32)), (.ref a4)])) _
          refine X123.iaload hx (j := (0 : Int32)) (v := (.int w)) Ar126.1 (State.isArrayOf_alike hZ.alike Ar126.2.1) Ar126.2.2 hin126 (Hh126.at hin126 (rfl)) (g := (mkF m 35 #[.val (.ref a1), .val (.int p2), .val (.int p3), .val (.ref a4)] [(.int (0 : Int32)), (.ref a4), (.int (1 : Int32)), (.ref a4)])) rfl rfl (hb hby d4_35) _ ?_
          show Steps p.tables e below (T123.setTop (mkF m 36 #[.val (.ref a1), .val (.int p2), .val (.int p3), .val (.ref a4)] [(.int w), (.int (1 : Int32)), (.ref a4)])) _
          refine st127 _ ?_
          show Steps p.tables e below (T127.setTop (mkF m 37 #[.val (.ref a1), .val (.int p2), .val (.int p3), .val (.ref a4)] [])) _
          refine XS.goto X127.here hx rfl (pc0 := 37) (pc' := 52) rfl (hb hby d4_37) (by decide) (by decide) ?_
          show Steps p.tables e below (T127.setTop (mkF m 52 #[.val (.ref a1), .val (.int p2), .val (.int p3), .val (.ref a4)] [])) _
          refine XS.aloadN X127.here hx rfl (hb hby d4_52) rfl rfl ?_
          show Steps p.tables e below (T127.setTop (mkF m 53 #[.val (.ref a1), .val (.int p2), .val (.int p3), .val (.ref a4)] [(.ref a1)])) _
          refine st130.trans ?_
          show Steps p.tables e below (T130.setTop (mkF m 56 #[.val (.ref a1), .val (.int p2), .val (.int p3), .val (.ref a4)] [(.int (own_b w w))])) _
          refine XS.aloadN X130.here hx rfl (hb hby d4_56) rfl rfl ?_
          show Steps p.tables e below (T130.setTop (mkF m 57 #[.val (.ref a1), .val (.int p2), .val (.int p3), .val (.ref a4)] [(.ref a4), (.int (own_b w w))])) _
          refine XS.iconst X130.here hx rfl (hb hby d4_57) ?_
          show Steps p.tables e below (T130.setTop (mkF m 58 #[.val (.ref a1), .val (.int p2), .val (.int p3), .val (.ref a4)] [(.int (0 : Int32)), (.ref a4), (.int (own_b w w))])) _
          refine X130.iaload hx (j := (0 : Int32)) (v := (.int w)) (by rw [Heq130]; exact Ar133.1) (State.isArrayOf_alike hZ.alike Ar133.2.1) Ar133.2.2 hin133 (Hh133.at hin133 (rfl)) (g := (mkF m 58 #[.val (.ref a1), .val (.int p2), .val (.int p3), .val (.ref a4)] [(.int (0 : Int32)), (.ref a4), (.int (own_b w w))])) rfl rfl (hb hby d4_58) _ ?_
          show Steps p.tables e below (T130.setTop (mkF m 59 #[.val (.ref a1), .val (.int p2), .val (.int p3), .val (.ref a4)] [(.int w), (.int (own_b w w))])) _
          refine XS.aloadN X130.here hx rfl (hb hby d4_59) rfl rfl ?_
          show Steps p.tables e below (T130.setTop (mkF m 60 #[.val (.ref a1), .val (.int p2), .val (.int p3), .val (.ref a4)] [(.ref a4), (.int w), (.int (own_b w w))])) _
          refine XS.iconst X130.here hx rfl (hb hby d4_60) ?_
          show Steps p.tables e below (T130.setTop (mkF m 61 #[.val (.ref a1), .val (.int p2), .val (.int p3), .val (.ref a4)] [(.int (1 : Int32)), (.ref a4), (.int w), (.int (own_b w w))])) _
          refine X130.iaload hx (j := (1 : Int32)) (v := (.int w)) (by rw [Heq130]; exact Ar134.1) (State.isArrayOf_alike hZ.alike Ar134.2.1) Ar134.2.2 hin134 (Hh134.at hin134 (rfl)) (g := (mkF m 61 #[.val (.ref a1), .val (.int p2), .val (.int p3), .val (.ref a4)] [(.int (1 : Int32)), (.ref a4), (.int w), (.int (own_b w w))])) rfl rfl (hb hby d4_61) _ ?_
          show Steps p.tables e below (T130.setTop (mkF m 62 #[.val (.ref a1), .val (.int p2), .val (.int p3), .val (.ref a4)] [(.int w), (.int w), (.int (own_b w w))])) _
          refine XS.icmpYes X130.here hx rfl (pc0 := 62) (pc' := 69) rfl (hb hby d4_62) rfl (flt (own_irr _ : ¬ (w < w))).2.2.2 (by decide) (by decide) ?_
          show Steps p.tables e below (T130.setTop (mkF m 69 #[.val (.ref a1), .val (.int p2), .val (.int p3), .val (.ref a4)] [(.int (own_b w w))])) _
          refine XS.iconst X130.here hx rfl (hb hby d4_69) ?_
          show Steps p.tables e below (T130.setTop (mkF m 70 #[.val (.ref a1), .val (.int p2), .val (.int p3), .val (.ref a4)] [(.int (0 : Int32)), (.int (own_b w w))])) _
          refine XS.icmpNo X130.here hx rfl (hb hby d4_70) rfl (teq (if_neg (own_irr _) : (own_b w w) = (0 : Int32))).2 ?_
          show Steps p.tables e below (T130.setTop (mkF m 73 #[.val (.ref a1), .val (.int p2), .val (.int p3), .val (.ref a4)] [])) _
          refine XS.iconst X130.here hx rfl (hb hby d4_73) ?_
          show Steps p.tables e below (T130.setTop (mkF m 74 #[.val (.ref a1), .val (.int p2), .val (.int p3), .val (.ref a4)] [(.int (1 : Int32))])) _
          refine XS.goto X130.here hx rfl (pc0 := 74) (pc' := 78) rfl (hb hby d4_74) (by decide) (by decide) ?_
          show Steps p.tables e below (T130.setTop (mkF m 78 #[.val (.ref a1), .val (.int p2), .val (.int p3), .val (.ref a4)] [(.int (1 : Int32))])) _
          exact retN X130 hx (t := .boolean) Bd.returns (by simp) (hb hby d4_78) hr
        · show Q4 Z a1 p2 p3 a4 w cs n cb ck cvs wb wk wvs mk k h0 n0 _ T130.heap _
          rw [Heq130]
          exact ⟨w, w, n, cvs, wvx123, rfl, N130, (((Keep.refl h0 [a1, cb, wb, a4]).trans K123 (allS (P := (fun x => x ∈ [a1, cb, wb, a4] ∨ h0.size ≤ x)) (Or.inl (List.mem_of_getElem? (i := 0) rfl)) (allS (P := (fun x => x ∈ [a1, cb, wb, a4] ∨ h0.size ≤ x)) (Or.inl (List.mem_of_getElem? (i := 2) rfl)) all0))).wr W127 (Or.inl (List.mem_of_getElem? (i := 3) rfl))), f128, f129, f135, f136, f137, f139, f140, V127, H16, R123_7, (by obtain ⟨o1, o2, o3, o4, o5, o6⟩ := H18; have i1 := own_inc o1 o2 H19; have i2 := own_inc o5 o6 H19; exact ⟨by omega, by omega, by omega, by omega, by omega, by omega⟩)⟩
      · skip
        obtain ⟨cq141, kq141, q141a, q141b, q141c⟩ := isOf hZ e0 H0
        obtain ⟨_, _, ⟨T141, L141, k141, n141⟩, -, X141, ⟨Lc141, hQ141, l141, y141, z141⟩, st141⟩ := X0.virtualBack hx (y := (⟨"com/example/rouse/rouse/shell/CommandLine", "endWord", "()V"⟩ : MethodName)) (z := (⟨"com/example/rouse/rouse/shell/CommandLine", "endWord", "()V"⟩ : MethodName)) hown (mvT hZ (hw _ (List.mem_of_getElem? (i := 39) rfl))) (mvT hZ (hw _ (List.mem_of_getElem? (i := 40) rfl))) (notFace_of_selects (args := #[]) (mvT hZ (hw _ (List.mem_of_getElem? (i := 42) rfl)))) (mvT hZ (hw _ (List.mem_of_getElem? (i := 42) rfl))) (mvT hZ (hw _ (List.mem_of_getElem? (i := 41) rfl))) (by decide) (backOf (W := 0) (rm6 l Z a0 hw [] a1 w cs n cb wb wk wvs h0 n0 Z0 H0 H1 H2 H3 H4 H5 H7 H9 H11 (own_in_of H18.1 H18.2.1 H19) H17) hZ (hw _ (List.mem_of_getElem? (i := 43) rfl)) (hw _ (List.mem_of_getElem? (i := 2) rfl)) (by decide) (by decide)) q141a q141c (g := (mkF m 41 #[.val (.ref a1), .val (.int p2), .val (.int p3), .val (.ref a4)] [(.ref a1)])) rfl (by rw [hml]; rfl) (Steps.refl _) (argsL := []) (rest := []) (lenOf pd_2 rfl) rfl (by show 2 * 0 + _ ≤ _; exact Nat.le_of_eq rfl) (hb hby d4_41) (fun _ _ => ⟨rfl, e0, (by decide : 0 + 0 ≤ _), (by decide : 0 + 0 ≤ _)⟩)
        dsimp only [Pt.U, Pt.locs, Pt.cells, Pt.slots] at X141 l141 y141 z141 st141 hQ141
        subst l141 y141 z141
        obtain ⟨wvx141, rfl, Nq141, K141, R141_1, R141_2, R141_3, R141_4, R141_5, R141_6, R141_7⟩ := hQ141
        have N141 := Fr.app N0 Nq141
        have ne142 : a1 ≠ a4 := Exa.neArv H0 H8 (hw _ (List.mem_of_getElem? (i := 1) rfl))
        have f143 : Arv Z T141.heap a4 mk .int (2 : Int32) [(.int w), (.int cs)] (.int (0 : Int32)) := (H8.keep K141 (ninS (Ne.symm ne142) (ninS (Ne.symm H15) nin0)))
        obtain ⟨cl144, Ar144, qc144, S144, M144, Hh144, G144⟩ := id f143
        have hin144 : ¬ ((0 : Int32) < 0 ∨ cl144.slots.size ≤ ((0 : Int32)).toNatClampNeg) := inb_of S144 ⟨by decide, by decide⟩
        obtain ⟨cl145, Ar145, qc145, S145, M145, Hh145, G145⟩ := id f143
        have hin145 : ¬ ((0 : Int32) < 0 ∨ cl145.slots.size ≤ ((0 : Int32)).toNatClampNeg) := inb_of S145 ⟨by decide, by decide⟩
        obtain ⟨T145, h145, X145, e145, W145, st145⟩ := stI X141 hx hZ rfl Ar145 (j := (0 : Int32)) hin145 (g := (mkF m 51 #[.val (.ref a1), .val (.int p2), .val (.int p3), .val (.ref a4)] [(.int (w + (1 : Int32))), (.int (0 : Int32)), (.ref a4)])) rfl rfl (hb hby d4_51)
        have V145 : Arv Z h145 a4 mk .int (2 : Int32) [(.int (w + (1 : Int32))), (.int cs)] (.int (0 : Int32)) := Arv.set Ar145 qc145 S145 M145 Hh145 G145 rfl W145 0 rfl (by first | decide | (simp; done))
        have N145 := Fr.snoc X145 N141 H12
        have f146 : Fld Z h145 a1 "com/example/rouse/rouse/shell/CommandLine" "words" "I" (.int (w + (1 : Int32))) := (R141_1.other W145 (Or.inl ne142))
        have f147 : Fld Z h145 a1 "com/example/rouse/rouse/shell/CommandLine" "commandStart" "I" (.int cs) := (R141_2.other W145 (Or.inl ne142))
        have z149 : n0 ≤ h145.size := (Nat.le_trans (Nat.le_trans Z0 K141.1) (Nat.le_of_eq W145.size.symm))
        have f150 : Exa Z h145 a1 "com/example/rouse/rouse/shell/CommandLine" := ((H0.keep K141).wr W145)
        obtain ⟨cq148, kq148, q148a, q148b, q148c⟩ := isOf hZ e145 f150
        obtain ⟨_, _, ⟨T148, L148, k148, n148⟩, -, X148, ⟨Lc148, hQ148, l148, y148, z148⟩, st148⟩ := X145.virtualBack hx (y := (⟨"com/example/rouse/rouse/shell/CommandLine", "commandHasWords", "()Z"⟩ : MethodName)) (z := (⟨"com/example/rouse/rouse/shell/CommandLine", "commandHasWords", "()Z"⟩ : MethodName)) hown (mvT hZ (hw _ (List.mem_of_getElem? (i := 19) rfl))) (mvT hZ (hw _ (List.mem_of_getElem? (i := 20) rfl))) (notFace_of_selects (args := #[]) (mvT hZ (hw _ (List.mem_of_getElem? (i := 22) rfl)))) (mvT hZ (hw _ (List.mem_of_getElem? (i := 22) rfl))) (mvT hZ (hw _ (List.mem_of_getElem? (i := 21) rfl))) (by decide) (backOf (W := 0) (rm3 l Z a0 hw [] a1 (w + (1 : Int32)) cs h145 n0 z149 f146 f147) hZ (hw _ (List.mem_of_getElem? (i := 23) rfl)) (hw _ (List.mem_of_getElem? (i := 2) rfl)) (by decide) (by decide)) q148a q148c (g := (mkF m 53 #[.val (.ref a1), .val (.int p2), .val (.int p3), .val (.ref a4)] [(.ref a1)])) rfl (by rw [hml]; rfl) (Steps.refl _) (argsL := []) (rest := []) (lenOf pd_1 rfl) rfl (by show 2 * 0 + _ ≤ _; exact Nat.le_of_eq rfl) (hb hby d4_53) (fun _ _ => ⟨rfl, e145, (by decide : 0 + 0 ≤ _), (by decide : 0 + 0 ≤ _)⟩)
        dsimp only [Pt.U, Pt.locs, Pt.cells, Pt.slots] at X148 l148 y148 z148 st148 hQ148
        subst l148 y148 z148
        obtain ⟨rfl, Nq148, Heq148⟩ := hQ148
        have N148 := Fr.app N145 Nq148
        obtain ⟨cl151, Ar151, qc151, S151, M151, Hh151, G151⟩ := id V145
        have hin151 : ¬ ((0 : Int32) < 0 ∨ cl151.slots.size ≤ ((0 : Int32)).toNatClampNeg) := inb_of S151 ⟨by decide, by decide⟩
        obtain ⟨cl152, Ar152, qc152, S152, M152, Hh152, G152⟩ := id V145
        have hin152 : ¬ ((1 : Int32) < 0 ∨ cl152.slots.size ≤ ((1 : Int32)).toNatClampNeg) := inb_of S152 ⟨by decide, by decide⟩
        have pre153 : ∀ t, Steps p.tables e below (T148.setTop (mkF m 62 #[.val (.ref a1), .val (.int p2), .val (.int p3), .val (.ref a4)] [(.int cs), (.int (w + (1 : Int32))), (.int (own_b cs (w + (1 : Int32))))])) t → Steps p.tables e below (s₁.setTop (entryFrame m #[(.ref a1), (.int p2), (.int p3), (.ref a4)] 4)) t := fun t kt => by
          refine pre121 t ?_
          show Steps p.tables e below (s₁.setTop (mkF m 24 #[.val (.ref a1), .val (.int p2), .val (.int p3), .val (.ref a4)] [(.int cs), (.int w)])) _
          refine XS.icmpYes X0.here hx rfl (pc0 := 24) (pc' := 40) rfl (hb hby d4_24) rfl (flt (hc24_122 : ¬ (cs < w))).2.2.2 (by decide) (by decide) ?_
          show Steps p.tables e below (s₁.setTop (mkF m 40 #[.val (.ref a1), .val (.int p2), .val (.int p3), .val (.ref a4)] [])) _
          refine XS.aloadN X0.here hx rfl (hb hby d4_40) rfl rfl ?_
          show Steps p.tables e below (s₁.setTop (mkF m 41 #[.val (.ref a1), .val (.int p2), .val (.int p3), .val (.ref a4)] [(.ref a1)])) _
          refine st141.trans ?_
          show Steps p.tables e below (T141.setTop (mkF m 44 #[.val (.ref a1), .val (.int p2), .val (.int p3), .val (.ref a4)] [])) _
          refine XS.aloadN X141.here hx rfl (hb hby d4_44) rfl rfl ?_
          show Steps p.tables e below (T141.setTop (mkF m 45 #[.val (.ref a1), .val (.int p2), .val (.int p3), .val (.ref a4)] [(.ref a4)])) _
          refine XS.iconst X141.here hx rfl (hb hby d4_45) ?_
          show Steps p.tables e below (T141.setTop (mkF m 46 #[.val (.ref a1), .val (.int p2), .val (.int p3), .val (.ref a4)] [(.int (0 : Int32)), (.ref a4)])) _
          refine XS.aloadN X141.here hx rfl (hb hby d4_46) rfl rfl ?_
          show Steps p.tables e below (T141.setTop (mkF m 47 #[.val (.ref a1), .val (.int p2), .val (.int p3), .val (.ref a4)] [(.ref a4), (.int (0 : Int32)), (.ref a4)])) _
          refine XS.iconst X141.here hx rfl (hb hby d4_47) ?_
          show Steps p.tables e below (T141.setTop (mkF m 48 #[.val (.ref a1), .val (.int p2), .val (.int p3), .val (.ref a4)] [(.int (0 : Int32)), (.ref a4), (.int (0 : Int32)), (.ref a4)])) _
          refine X141.iaload hx (j := (0 : Int32)) (v := (.int w)) Ar144.1 (State.isArrayOf_alike hZ.alike Ar144.2.1) Ar144.2.2 hin144 (Hh144.at hin144 (rfl)) (g := (mkF m 48 #[.val (.ref a1), .val (.int p2), .val (.int p3), .val (.ref a4)] [(.int (0 : Int32)), (.ref a4), (.int (0 : Int32)), (.ref a4)])) rfl rfl (hb hby d4_48) _ ?_
          show Steps p.tables e below (T141.setTop (mkF m 49 #[.val (.ref a1), .val (.int p2), .val (.int p3), .val (.ref a4)] [(.int w), (.int (0 : Int32)), (.ref a4)])) _
          refine XS.iconst X141.here hx rfl (hb hby d4_49) ?_
          show Steps p.tables e below (T141.setTop (mkF m 50 #[.val (.ref a1), .val (.int p2), .val (.int p3), .val (.ref a4)] [(.int (1 : Int32)), (.int w), (.int (0 : Int32)), (.ref a4)])) _
          refine XS.iadd X141.here hx rfl (hb hby d4_50) rfl ?_
          show Steps p.tables e below (T141.setTop (mkF m 51 #[.val (.ref a1), .val (.int p2), .val (.int p3), .val (.ref a4)] [(.int (w + (1 : Int32))), (.int (0 : Int32)), (.ref a4)])) _
          refine st145 _ ?_
          show Steps p.tables e below (T145.setTop (mkF m 52 #[.val (.ref a1), .val (.int p2), .val (.int p3), .val (.ref a4)] [])) _
          refine XS.aloadN X145.here hx rfl (hb hby d4_52) rfl rfl ?_
          show Steps p.tables e below (T145.setTop (mkF m 53 #[.val (.ref a1), .val (.int p2), .val (.int p3), .val (.ref a4)] [(.ref a1)])) _
          refine st148.trans ?_
          show Steps p.tables e below (T148.setTop (mkF m 56 #[.val (.ref a1), .val (.int p2), .val (.int p3), .val (.ref a4)] [(.int (own_b cs (w + (1 : Int32))))])) _
          refine XS.aloadN X148.here hx rfl (hb hby d4_56) rfl rfl ?_
          show Steps p.tables e below (T148.setTop (mkF m 57 #[.val (.ref a1), .val (.int p2), .val (.int p3), .val (.ref a4)] [(.ref a4), (.int (own_b cs (w + (1 : Int32))))])) _
          refine XS.iconst X148.here hx rfl (hb hby d4_57) ?_
          show Steps p.tables e below (T148.setTop (mkF m 58 #[.val (.ref a1), .val (.int p2), .val (.int p3), .val (.ref a4)] [(.int (0 : Int32)), (.ref a4), (.int (own_b cs (w + (1 : Int32))))])) _
          refine X148.iaload hx (j := (0 : Int32)) (v := (.int (w + (1 : Int32)))) (by rw [Heq148]; exact Ar151.1) (State.isArrayOf_alike hZ.alike Ar151.2.1) Ar151.2.2 hin151 (Hh151.at hin151 (rfl)) (g := (mkF m 58 #[.val (.ref a1), .val (.int p2), .val (.int p3), .val (.ref a4)] [(.int (0 : Int32)), (.ref a4), (.int (own_b cs (w + (1 : Int32))))])) rfl rfl (hb hby d4_58) _ ?_
          show Steps p.tables e below (T148.setTop (mkF m 59 #[.val (.ref a1), .val (.int p2), .val (.int p3), .val (.ref a4)] [(.int (w + (1 : Int32))), (.int (own_b cs (w + (1 : Int32))))])) _
          refine XS.aloadN X148.here hx rfl (hb hby d4_59) rfl rfl ?_
          show Steps p.tables e below (T148.setTop (mkF m 60 #[.val (.ref a1), .val (.int p2), .val (.int p3), .val (.ref a4)] [(.ref a4), (.int (w + (1 : Int32))), (.int (own_b cs (w + (1 : Int32))))])) _
          refine XS.iconst X148.here hx rfl (hb hby d4_60) ?_
          show Steps p.tables e below (T148.setTop (mkF m 61 #[.val (.ref a1), .val (.int p2), .val (.int p3), .val (.ref a4)] [(.int (1 : Int32)), (.ref a4), (.int (w + (1 : Int32))), (.int (own_b cs (w + (1 : Int32))))])) _
          refine X148.iaload hx (j := (1 : Int32)) (v := (.int cs)) (by rw [Heq148]; exact Ar152.1) (State.isArrayOf_alike hZ.alike Ar152.2.1) Ar152.2.2 hin152 (Hh152.at hin152 (rfl)) (g := (mkF m 61 #[.val (.ref a1), .val (.int p2), .val (.int p3), .val (.ref a4)] [(.int (1 : Int32)), (.ref a4), (.int (w + (1 : Int32))), (.int (own_b cs (w + (1 : Int32))))])) rfl rfl (hb hby d4_61) _ ?_
          show Steps p.tables e below (T148.setTop (mkF m 62 #[.val (.ref a1), .val (.int p2), .val (.int p3), .val (.ref a4)] [(.int cs), (.int (w + (1 : Int32))), (.int (own_b cs (w + (1 : Int32))))])) _
          exact kt
        by_cases hc62_154 : cs < (w + (1 : Int32))
        · skip
          have f155 : Fld Z h145 a1 "com/example/rouse/rouse/shell/CommandLine" "length" "I" (.int n) := (R141_3.other W145 (Or.inl ne142))
          have f156 : Fld Z h145 a1 "com/example/rouse/rouse/shell/CommandLine" "characters" "[C" (.ref cb) := (R141_4.other W145 (Or.inl ne142))
          have f157 : Fld Z h145 a1 "com/example/rouse/rouse/shell/CommandLine" "wordEnds" "[I" (.ref wb) := (R141_5.other W145 (Or.inl ne142))
          have ne158 : a1 ≠ cb := Exa.neArv H0 H6 (hw _ (List.mem_of_getElem? (i := 1) rfl))
          have f159 : Arv Z h145 cb ck .char (16 : Int32) cvs (.int (0 : Int32)) := ((H6.keep K141 (ninS (Ne.symm ne158) (ninS H13 nin0))).other W145 H14)
          have f160 : Arv Z h145 wb wk .int (16 : Int32) wvx141 (.int (0 : Int32)) := (R141_6.other W145 H15)
          obtain ⟨fs, hr, hrun, hended, hW, hsame⟩ := X148.leave (v := some (.int (1 : Int32))) (fun h => by rw [Bd.returns] at h; cases h)
          refine ⟨_, _, pre153 _ ?_, hrun, hended, _, _, rfl, ?_, ⟨_, rfl⟩, hW, hsame.mono (by decide) (by decide)⟩
          · skip
            show Steps p.tables e below (T148.setTop (mkF m 62 #[.val (.ref a1), .val (.int p2), .val (.int p3), .val (.ref a4)] [(.int cs), (.int (w + (1 : Int32))), (.int (own_b cs (w + (1 : Int32))))])) _
            refine XS.icmpNo X148.here hx rfl (hb hby d4_62) rfl (tlt (hc62_154 : cs < (w + (1 : Int32)))).2.2.2 ?_
            show Steps p.tables e below (T148.setTop (mkF m 65 #[.val (.ref a1), .val (.int p2), .val (.int p3), .val (.ref a4)] [(.int (own_b cs (w + (1 : Int32))))])) _
            refine XS.iconst X148.here hx rfl (hb hby d4_65) ?_
            show Steps p.tables e below (T148.setTop (mkF m 66 #[.val (.ref a1), .val (.int p2), .val (.int p3), .val (.ref a4)] [(.int (1 : Int32)), (.int (own_b cs (w + (1 : Int32))))])) _
            refine XS.goto X148.here hx rfl (pc0 := 66) (pc' := 70) rfl (hb hby d4_66) (by decide) (by decide) ?_
            show Steps p.tables e below (T148.setTop (mkF m 70 #[.val (.ref a1), .val (.int p2), .val (.int p3), .val (.ref a4)] [(.int (1 : Int32)), (.int (own_b cs (w + (1 : Int32))))])) _
            refine XS.icmpNo X148.here hx rfl (hb hby d4_70) rfl (teq (if_pos hc62_154 : (own_b cs (w + (1 : Int32))) = (1 : Int32))).2 ?_
            show Steps p.tables e below (T148.setTop (mkF m 73 #[.val (.ref a1), .val (.int p2), .val (.int p3), .val (.ref a4)] [])) _
            refine XS.iconst X148.here hx rfl (hb hby d4_73) ?_
            show Steps p.tables e below (T148.setTop (mkF m 74 #[.val (.ref a1), .val (.int p2), .val (.int p3), .val (.ref a4)] [(.int (1 : Int32))])) _
            refine XS.goto X148.here hx rfl (pc0 := 74) (pc' := 78) rfl (hb hby d4_74) (by decide) (by decide) ?_
            show Steps p.tables e below (T148.setTop (mkF m 78 #[.val (.ref a1), .val (.int p2), .val (.int p3), .val (.ref a4)] [(.int (1 : Int32))])) _
            exact retN X148 hx (t := .boolean) Bd.returns (by simp) (hb hby d4_78) hr
          · show Q4 Z a1 p2 p3 a4 w cs n cb ck cvs wb wk wvs mk k h0 n0 _ T148.heap _
            rw [Heq148]
            exact ⟨(w + (1 : Int32)), cs, n, cvs, wvx141, rfl, N148, (((Keep.refl h0 [a1, cb, wb, a4]).trans K141 (allS (P := (fun x => x ∈ [a1, cb, wb, a4] ∨ h0.size ≤ x)) (Or.inl (List.mem_of_getElem? (i := 0) rfl)) (allS (P := (fun x => x ∈ [a1, cb, wb, a4] ∨ h0.size ≤ x)) (Or.inl (List.mem_of_getElem? (i := 2) rfl)) all0))).wr W145 (Or.inl (List.mem_of_getElem? (i := 3) rfl))), f146, f147, f155, f156, f157, f159, f160, V145, H16, R141_7, (by obtain ⟨o1, o2, o3, o4, o5, o6⟩ := H18; have i1 := own_inc o1 o2 H19; have i2 := own_inc o5 o6 H19; exact ⟨by omega, by omega, by omega, by omega, by omega, by omega⟩)⟩
        · skip
          have f161 : Fld Z h145 a1 "com/example/rouse/rouse/shell/CommandLine" "length" "I" (.int n) := (R141_3.other W145 (Or.inl ne142))
          have f162 : Fld Z h145 a1 "com/example/rouse/rouse/shell/CommandLine" "characters" "[C" (.ref cb) := (R141_4.other W145 (Or.inl ne142))
          have f163 : Fld Z h145 a1 "com/example/rouse/rouse/shell/CommandLine" "wordEnds" "[I" (.ref wb) := (R141_5.other W145 (Or.inl ne142))
          have ne164 : a1 ≠ cb := Exa.neArv H0 H6 (hw _ (List.mem_of_getElem? (i := 1) rfl))
          have f165 : Arv Z h145 cb ck .char (16 : Int32) cvs (.int (0 : Int32)) := ((H6.keep K141 (ninS (Ne.symm ne164) (ninS H13 nin0))).other W145 H14)
          have f166 : Arv Z h145 wb wk .int (16 : Int32) wvx141 (.int (0 : Int32)) := (R141_6.other W145 H15)
          obtain ⟨fs, hr, hrun, hended, hW, hsame⟩ := X148.leave (v := some (.int (1 : Int32))) (fun h => by rw [Bd.returns] at h; cases h)
          refine ⟨_, _, pre153 _ ?_, hrun, hended, _, _, rfl, ?_, ⟨_, rfl⟩, hW, hsame.mono (by decide) (by decide)⟩
          · skip
            show Steps p.tables e below (T148.setTop (mkF m 62 #[.val (.ref a1), .val (.int p2), .val (.int p3), .val (.ref a4)] [(.int cs), (.int (w + (1 : Int32))), (.int (own_b cs (w + (1 : Int32))))])) _
            refine XS.icmpYes X148.here hx rfl (pc0 := 62) (pc' := 69) rfl (hb hby d4_62) rfl (flt (hc62_154 : ¬ (cs < (w + (1 : Int32))))).2.2.2 (by decide) (by decide) ?_
            show Steps p.tables e below (T148.setTop (mkF m 69 #[.val (.ref a1), .val (.int p2), .val (.int p3), .val (.ref a4)] [(.int (own_b cs (w + (1 : Int32))))])) _
            refine XS.iconst X148.here hx rfl (hb hby d4_69) ?_
            show Steps p.tables e below (T148.setTop (mkF m 70 #[.val (.ref a1), .val (.int p2), .val (.int p3), .val (.ref a4)] [(.int (0 : Int32)), (.int (own_b cs (w + (1 : Int32))))])) _
            refine XS.icmpNo X148.here hx rfl (hb hby d4_70) rfl (teq (if_neg hc62_154 : (own_b cs (w + (1 : Int32))) = (0 : Int32))).2 ?_
            show Steps p.tables e below (T148.setTop (mkF m 73 #[.val (.ref a1), .val (.int p2), .val (.int p3), .val (.ref a4)] [])) _
            refine XS.iconst X148.here hx rfl (hb hby d4_73) ?_
            show Steps p.tables e below (T148.setTop (mkF m 74 #[.val (.ref a1), .val (.int p2), .val (.int p3), .val (.ref a4)] [(.int (1 : Int32))])) _
            refine XS.goto X148.here hx rfl (pc0 := 74) (pc' := 78) rfl (hb hby d4_74) (by decide) (by decide) ?_
            show Steps p.tables e below (T148.setTop (mkF m 78 #[.val (.ref a1), .val (.int p2), .val (.int p3), .val (.ref a4)] [(.int (1 : Int32))])) _
            exact retN X148 hx (t := .boolean) Bd.returns (by simp) (hb hby d4_78) hr
          · show Q4 Z a1 p2 p3 a4 w cs n cb ck cvs wb wk wvs mk k h0 n0 _ T148.heap _
            rw [Heq148]
            exact ⟨(w + (1 : Int32)), cs, n, cvs, wvx141, rfl, N148, (((Keep.refl h0 [a1, cb, wb, a4]).trans K141 (allS (P := (fun x => x ∈ [a1, cb, wb, a4] ∨ h0.size ≤ x)) (Or.inl (List.mem_of_getElem? (i := 0) rfl)) (allS (P := (fun x => x ∈ [a1, cb, wb, a4] ∨ h0.size ≤ x)) (Or.inl (List.mem_of_getElem? (i := 2) rfl)) all0))).wr W145 (Or.inl (List.mem_of_getElem? (i := 3) rfl))), f146, f147, f161, f162, f163, f165, f166, V145, H16, R141_7, (by obtain ⟨o1, o2, o3, o4, o5, o6⟩ := H18; have i1 := own_inc o1 o2 H19; have i2 := own_inc o5 o6 H19; exact ⟨by omega, by omega, by omega, by omega, by omega, by omega⟩)⟩
    · skip
      obtain ⟨cq167, kq167, q167a, q167b, q167c⟩ := isOf hZ e0 H0
      obtain ⟨_, _, ⟨T167, L167, k167, n167⟩, -, X167, ⟨Lc167, hQ167, l167, y167, z167⟩, st167⟩ := X0.virtualBack hx (y := (⟨"com/example/rouse/rouse/shell/CommandLine", "endWord", "()V"⟩ : MethodName)) (z := (⟨"com/example/rouse/rouse/shell/CommandLine", "endWord", "()V"⟩ : MethodName)) hown (mvT hZ (hw _ (List.mem_of_getElem? (i := 39) rfl))) (mvT hZ (hw _ (List.mem_of_getElem? (i := 40) rfl))) (notFace_of_selects (args := #[]) (mvT hZ (hw _ (List.mem_of_getElem? (i := 42) rfl)))) (mvT hZ (hw _ (List.mem_of_getElem? (i := 42) rfl))) (mvT hZ (hw _ (List.mem_of_getElem? (i := 41) rfl))) (by decide) (backOf (W := 0) (rm6 l Z a0 hw [] a1 w cs n cb wb wk wvs h0 n0 Z0 H0 H1 H2 H3 H4 H5 H7 H9 H11 (own_in_of H18.1 H18.2.1 H19) H17) hZ (hw _ (List.mem_of_getElem? (i := 43) rfl)) (hw _ (List.mem_of_getElem? (i := 2) rfl)) (by decide) (by decide)) q167a q167c (g := (mkF m 41 #[.val (.ref a1), .val (.int p2), .val (.int p3), .val (.ref a4)] [(.ref a1)])) rfl (by rw [hml]; rfl) (Steps.refl _) (argsL := []) (rest := []) (lenOf pd_2 rfl) rfl (by show 2 * 0 + _ ≤ _; exact Nat.le_of_eq rfl) (hb hby d4_41) (fun _ _ => ⟨rfl, e0, (by decide : 0 + 0 ≤ _), (by decide : 0 + 0 ≤ _)⟩)
      dsimp only [Pt.U, Pt.locs, Pt.cells, Pt.slots] at X167 l167 y167 z167 st167 hQ167
      subst l167 y167 z167
      obtain ⟨wvx167, rfl, Nq167, K167, R167_1, R167_2, R167_3, R167_4, R167_5, R167_6, R167_7⟩ := hQ167
      have N167 := Fr.app N0 Nq167
      have ne168 : a1 ≠ a4 := Exa.neArv H0 H8 (hw _ (List.mem_of_getElem? (i := 1) rfl))
      have f169 : Arv Z T167.heap a4 mk .int (2 : Int32) [(.int w), (.int cs)] (.int (0 : Int32)) := (H8.keep K167 (ninS (Ne.symm ne168) (ninS (Ne.symm H15) nin0)))
      obtain ⟨cl170, Ar170, qc170, S170, M170, Hh170, G170⟩ := id f169
      have hin170 : ¬ ((0 : Int32) < 0 ∨ cl170.slots.size ≤ ((0 : Int32)).toNatClampNeg) := inb_of S170 ⟨by decide, by decide⟩
      obtain ⟨cl171, Ar171, qc171, S171, M171, Hh171, G171⟩ := id f169
      have hin171 : ¬ ((0 : Int32) < 0 ∨ cl171.slots.size ≤ ((0 : Int32)).toNatClampNeg) := inb_of S171 ⟨by decide, by decide⟩
      obtain ⟨T171, h171, X171, e171, W171, st171⟩ := stI X167 hx hZ rfl Ar171 (j := (0 : Int32)) hin171 (g := (mkF m 51 #[.val (.ref a1), .val (.int p2), .val (.int p3), .val (.ref a4)] [(.int (w + (1 : Int32))), (.int (0 : Int32)), (.ref a4)])) rfl rfl (hb hby d4_51)
      have V171 : Arv Z h171 a4 mk .int (2 : Int32) [(.int (w + (1 : Int32))), (.int cs)] (.int (0 : Int32)) := Arv.set Ar171 qc171 S171 M171 Hh171 G171 rfl W171 0 rfl (by first | decide | (simp; done))
      have N171 := Fr.snoc X171 N167 H12
      have f172 : Fld Z h171 a1 "com/example/rouse/rouse/shell/CommandLine" "words" "I" (.int (w + (1 : Int32))) := (R167_1.other W171 (Or.inl ne168))
      have f173 : Fld Z h171 a1 "com/example/rouse/rouse/shell/CommandLine" "commandStart" "I" (.int cs) := (R167_2.other W171 (Or.inl ne168))
      have z175 : n0 ≤ h171.size := (Nat.le_trans (Nat.le_trans Z0 K167.1) (Nat.le_of_eq W171.size.symm))
      have f176 : Exa Z h171 a1 "com/example/rouse/rouse/shell/CommandLine" := ((H0.keep K167).wr W171)
      obtain ⟨cq174, kq174, q174a, q174b, q174c⟩ := isOf hZ e171 f176
      obtain ⟨_, _, ⟨T174, L174, k174, n174⟩, -, X174, ⟨Lc174, hQ174, l174, y174, z174⟩, st174⟩ := X171.virtualBack hx (y := (⟨"com/example/rouse/rouse/shell/CommandLine", "commandHasWords", "()Z"⟩ : MethodName)) (z := (⟨"com/example/rouse/rouse/shell/CommandLine", "commandHasWords", "()Z"⟩ : MethodName)) hown (mvT hZ (hw _ (List.mem_of_getElem? (i := 19) rfl))) (mvT hZ (hw _ (List.mem_of_getElem? (i := 20) rfl))) (notFace_of_selects (args := #[]) (mvT hZ (hw _ (List.mem_of_getElem? (i := 22) rfl)))) (mvT hZ (hw _ (List.mem_of_getElem? (i := 22) rfl))) (mvT hZ (hw _ (List.mem_of_getElem? (i := 21) rfl))) (by decide) (backOf (W := 0) (rm3 l Z a0 hw [] a1 (w + (1 : Int32)) cs h171 n0 z175 f172 f173) hZ (hw _ (List.mem_of_getElem? (i := 23) rfl)) (hw _ (List.mem_of_getElem? (i := 2) rfl)) (by decide) (by decide)) q174a q174c (g := (mkF m 53 #[.val (.ref a1), .val (.int p2), .val (.int p3), .val (.ref a4)] [(.ref a1)])) rfl (by rw [hml]; rfl) (Steps.refl _) (argsL := []) (rest := []) (lenOf pd_1 rfl) rfl (by show 2 * 0 + _ ≤ _; exact Nat.le_of_eq rfl) (hb hby d4_53) (fun _ _ => ⟨rfl, e171, (by decide : 0 + 0 ≤ _), (by decide : 0 + 0 ≤ _)⟩)
      dsimp only [Pt.U, Pt.locs, Pt.cells, Pt.slots] at X174 l174 y174 z174 st174 hQ174
      subst l174 y174 z174
      obtain ⟨rfl, Nq174, Heq174⟩ := hQ174
      have N174 := Fr.app N171 Nq174
      obtain ⟨cl177, Ar177, qc177, S177, M177, Hh177, G177⟩ := id V171
      have hin177 : ¬ ((0 : Int32) < 0 ∨ cl177.slots.size ≤ ((0 : Int32)).toNatClampNeg) := inb_of S177 ⟨by decide, by decide⟩
      obtain ⟨cl178, Ar178, qc178, S178, M178, Hh178, G178⟩ := id V171
      have hin178 : ¬ ((1 : Int32) < 0 ∨ cl178.slots.size ≤ ((1 : Int32)).toNatClampNeg) := inb_of S178 ⟨by decide, by decide⟩
      have pre179 : ∀ t, Steps p.tables e below (T174.setTop (mkF m 62 #[.val (.ref a1), .val (.int p2), .val (.int p3), .val (.ref a4)] [(.int cs), (.int (w + (1 : Int32))), (.int (own_b cs (w + (1 : Int32))))])) t → Steps p.tables e below (s₁.setTop (entryFrame m #[(.ref a1), (.int p2), (.int p3), (.ref a4)] 4)) t := fun t kt => by
        refine pre117 t ?_
        show Steps p.tables e below (s₁.setTop (mkF m 15 #[.val (.ref a1), .val (.int p2), .val (.int p3), .val (.ref a4)] [(.int (2 : Int32)), (.int p2)])) _
        refine XS.icmpYes X0.here hx rfl (pc0 := 15) (pc' := 40) rfl (hb hby d4_15) rfl (feq (hc15_118 : ¬ (p2 = (2 : Int32)))).2 (by decide) (by decide) ?_
        show Steps p.tables e below (s₁.setTop (mkF m 40 #[.val (.ref a1), .val (.int p2), .val (.int p3), .val (.ref a4)] [])) _
        refine XS.aloadN X0.here hx rfl (hb hby d4_40) rfl rfl ?_
        show Steps p.tables e below (s₁.setTop (mkF m 41 #[.val (.ref a1), .val (.int p2), .val (.int p3), .val (.ref a4)] [(.ref a1)])) _
        refine st167.trans ?_
        show Steps p.tables e below (T167.setTop (mkF m 44 #[.val (.ref a1), .val (.int p2), .val (.int p3), .val (.ref a4)] [])) _
        refine XS.aloadN X167.here hx rfl (hb hby d4_44) rfl rfl ?_
        show Steps p.tables e below (T167.setTop (mkF m 45 #[.val (.ref a1), .val (.int p2), .val (.int p3), .val (.ref a4)] [(.ref a4)])) _
        refine XS.iconst X167.here hx rfl (hb hby d4_45) ?_
        show Steps p.tables e below (T167.setTop (mkF m 46 #[.val (.ref a1), .val (.int p2), .val (.int p3), .val (.ref a4)] [(.int (0 : Int32)), (.ref a4)])) _
        refine XS.aloadN X167.here hx rfl (hb hby d4_46) rfl rfl ?_
        show Steps p.tables e below (T167.setTop (mkF m 47 #[.val (.ref a1), .val (.int p2), .val (.int p3), .val (.ref a4)] [(.ref a4), (.int (0 : Int32)), (.ref a4)])) _
        refine XS.iconst X167.here hx rfl (hb hby d4_47) ?_
        show Steps p.tables e below (T167.setTop (mkF m 48 #[.val (.ref a1), .val (.int p2), .val (.int p3), .val (.ref a4)] [(.int (0 : Int32)), (.ref a4), (.int (0 : Int32)), (.ref a4)])) _
        refine X167.iaload hx (j := (0 : Int32)) (v := (.int w)) Ar170.1 (State.isArrayOf_alike hZ.alike Ar170.2.1) Ar170.2.2 hin170 (Hh170.at hin170 (rfl)) (g := (mkF m 48 #[.val (.ref a1), .val (.int p2), .val (.int p3), .val (.ref a4)] [(.int (0 : Int32)), (.ref a4), (.int (0 : Int32)), (.ref a4)])) rfl rfl (hb hby d4_48) _ ?_
        show Steps p.tables e below (T167.setTop (mkF m 49 #[.val (.ref a1), .val (.int p2), .val (.int p3), .val (.ref a4)] [(.int w), (.int (0 : Int32)), (.ref a4)])) _
        refine XS.iconst X167.here hx rfl (hb hby d4_49) ?_
        show Steps p.tables e below (T167.setTop (mkF m 50 #[.val (.ref a1), .val (.int p2), .val (.int p3), .val (.ref a4)] [(.int (1 : Int32)), (.int w), (.int (0 : Int32)), (.ref a4)])) _
        refine XS.iadd X167.here hx rfl (hb hby d4_50) rfl ?_
        show Steps p.tables e below (T167.setTop (mkF m 51 #[.val (.ref a1), .val (.int p2), .val (.int p3), .val (.ref a4)] [(.int (w + (1 : Int32))), (.int (0 : Int32)), (.ref a4)])) _
        refine st171 _ ?_
        show Steps p.tables e below (T171.setTop (mkF m 52 #[.val (.ref a1), .val (.int p2), .val (.int p3), .val (.ref a4)] [])) _
        refine XS.aloadN X171.here hx rfl (hb hby d4_52) rfl rfl ?_
        show Steps p.tables e below (T171.setTop (mkF m 53 #[.val (.ref a1), .val (.int p2), .val (.int p3), .val (.ref a4)] [(.ref a1)])) _
        refine st174.trans ?_
        show Steps p.tables e below (T174.setTop (mkF m 56 #[.val (.ref a1), .val (.int p2), .val (.int p3), .val (.ref a4)] [(.int (own_b cs (w + (1 : Int32))))])) _
        refine XS.aloadN X174.here hx rfl (hb hby d4_56) rfl rfl ?_
        show Steps p.tables e below (T174.setTop (mkF m 57 #[.val (.ref a1), .val (.int p2), .val (.int p3), .val (.ref a4)] [(.ref a4), (.int (own_b cs (w + (1 : Int32))))])) _
        refine XS.iconst X174.here hx rfl (hb hby d4_57) ?_
        show Steps p.tables e below (T174.setTop (mkF m 58 #[.val (.ref a1), .val (.int p2), .val (.int p3), .val (.ref a4)] [(.int (0 : Int32)), (.ref a4), (.int (own_b cs (w + (1 : Int32))))])) _
        refine X174.iaload hx (j := (0 : Int32)) (v := (.int (w + (1 : Int32)))) (by rw [Heq174]; exact Ar177.1) (State.isArrayOf_alike hZ.alike Ar177.2.1) Ar177.2.2 hin177 (Hh177.at hin177 (rfl)) (g := (mkF m 58 #[.val (.ref a1), .val (.int p2), .val (.int p3), .val (.ref a4)] [(.int (0 : Int32)), (.ref a4), (.int (own_b cs (w + (1 : Int32))))])) rfl rfl (hb hby d4_58) _ ?_
        show Steps p.tables e below (T174.setTop (mkF m 59 #[.val (.ref a1), .val (.int p2), .val (.int p3), .val (.ref a4)] [(.int (w + (1 : Int32))), (.int (own_b cs (w + (1 : Int32))))])) _
        refine XS.aloadN X174.here hx rfl (hb hby d4_59) rfl rfl ?_
        show Steps p.tables e below (T174.setTop (mkF m 60 #[.val (.ref a1), .val (.int p2), .val (.int p3), .val (.ref a4)] [(.ref a4), (.int (w + (1 : Int32))), (.int (own_b cs (w + (1 : Int32))))])) _
        refine XS.iconst X174.here hx rfl (hb hby d4_60) ?_
        show Steps p.tables e below (T174.setTop (mkF m 61 #[.val (.ref a1), .val (.int p2), .val (.int p3), .val (.ref a4)] [(.int (1 : Int32)), (.ref a4), (.int (w + (1 : Int32))), (.int (own_b cs (w + (1 : Int32))))])) _
        refine X174.iaload hx (j := (1 : Int32)) (v := (.int cs)) (by rw [Heq174]; exact Ar178.1) (State.isArrayOf_alike hZ.alike Ar178.2.1) Ar178.2.2 hin178 (Hh178.at hin178 (rfl)) (g := (mkF m 61 #[.val (.ref a1), .val (.int p2), .val (.int p3), .val (.ref a4)] [(.int (1 : Int32)), (.ref a4), (.int (w + (1 : Int32))), (.int (own_b cs (w + (1 : Int32))))])) rfl rfl (hb hby d4_61) _ ?_
        show Steps p.tables e below (T174.setTop (mkF m 62 #[.val (.ref a1), .val (.int p2), .val (.int p3), .val (.ref a4)] [(.int cs), (.int (w + (1 : Int32))), (.int (own_b cs (w + (1 : Int32))))])) _
        exact kt
      by_cases hc62_180 : cs < (w + (1 : Int32))
      · skip
        have f181 : Fld Z h171 a1 "com/example/rouse/rouse/shell/CommandLine" "length" "I" (.int n) := (R167_3.other W171 (Or.inl ne168))
        have f182 : Fld Z h171 a1 "com/example/rouse/rouse/shell/CommandLine" "characters" "[C" (.ref cb) := (R167_4.other W171 (Or.inl ne168))
        have f183 : Fld Z h171 a1 "com/example/rouse/rouse/shell/CommandLine" "wordEnds" "[I" (.ref wb) := (R167_5.other W171 (Or.inl ne168))
        have ne184 : a1 ≠ cb := Exa.neArv H0 H6 (hw _ (List.mem_of_getElem? (i := 1) rfl))
        have f185 : Arv Z h171 cb ck .char (16 : Int32) cvs (.int (0 : Int32)) := ((H6.keep K167 (ninS (Ne.symm ne184) (ninS H13 nin0))).other W171 H14)
        have f186 : Arv Z h171 wb wk .int (16 : Int32) wvx167 (.int (0 : Int32)) := (R167_6.other W171 H15)
        obtain ⟨fs, hr, hrun, hended, hW, hsame⟩ := X174.leave (v := some (.int (1 : Int32))) (fun h => by rw [Bd.returns] at h; cases h)
        refine ⟨_, _, pre179 _ ?_, hrun, hended, _, _, rfl, ?_, ⟨_, rfl⟩, hW, hsame.mono (by decide) (by decide)⟩
        · skip
          show Steps p.tables e below (T174.setTop (mkF m 62 #[.val (.ref a1), .val (.int p2), .val (.int p3), .val (.ref a4)] [(.int cs), (.int (w + (1 : Int32))), (.int (own_b cs (w + (1 : Int32))))])) _
          refine XS.icmpNo X174.here hx rfl (hb hby d4_62) rfl (tlt (hc62_180 : cs < (w + (1 : Int32)))).2.2.2 ?_
          show Steps p.tables e below (T174.setTop (mkF m 65 #[.val (.ref a1), .val (.int p2), .val (.int p3), .val (.ref a4)] [(.int (own_b cs (w + (1 : Int32))))])) _
          refine XS.iconst X174.here hx rfl (hb hby d4_65) ?_
          show Steps p.tables e below (T174.setTop (mkF m 66 #[.val (.ref a1), .val (.int p2), .val (.int p3), .val (.ref a4)] [(.int (1 : Int32)), (.int (own_b cs (w + (1 : Int32))))])) _
          refine XS.goto X174.here hx rfl (pc0 := 66) (pc' := 70) rfl (hb hby d4_66) (by decide) (by decide) ?_
          show Steps p.tables e below (T174.setTop (mkF m 70 #[.val (.ref a1), .val (.int p2), .val (.int p3), .val (.ref a4)] [(.int (1 : Int32)), (.int (own_b cs (w + (1 : Int32))))])) _
          refine XS.icmpNo X174.here hx rfl (hb hby d4_70) rfl (teq (if_pos hc62_180 : (own_b cs (w + (1 : Int32))) = (1 : Int32))).2 ?_
          show Steps p.tables e below (T174.setTop (mkF m 73 #[.val (.ref a1), .val (.int p2), .val (.int p3), .val (.ref a4)] [])) _
          refine XS.iconst X174.here hx rfl (hb hby d4_73) ?_
          show Steps p.tables e below (T174.setTop (mkF m 74 #[.val (.ref a1), .val (.int p2), .val (.int p3), .val (.ref a4)] [(.int (1 : Int32))])) _
          refine XS.goto X174.here hx rfl (pc0 := 74) (pc' := 78) rfl (hb hby d4_74) (by decide) (by decide) ?_
          show Steps p.tables e below (T174.setTop (mkF m 78 #[.val (.ref a1), .val (.int p2), .val (.int p3), .val (.ref a4)] [(.int (1 : Int32))])) _
          exact retN X174 hx (t := .boolean) Bd.returns (by simp) (hb hby d4_78) hr
        · show Q4 Z a1 p2 p3 a4 w cs n cb ck cvs wb wk wvs mk k h0 n0 _ T174.heap _
          rw [Heq174]
          exact ⟨(w + (1 : Int32)), cs, n, cvs, wvx167, rfl, N174, (((Keep.refl h0 [a1, cb, wb, a4]).trans K167 (allS (P := (fun x => x ∈ [a1, cb, wb, a4] ∨ h0.size ≤ x)) (Or.inl (List.mem_of_getElem? (i := 0) rfl)) (allS (P := (fun x => x ∈ [a1, cb, wb, a4] ∨ h0.size ≤ x)) (Or.inl (List.mem_of_getElem? (i := 2) rfl)) all0))).wr W171 (Or.inl (List.mem_of_getElem? (i := 3) rfl))), f172, f173, f181, f182, f183, f185, f186, V171, H16, R167_7, (by obtain ⟨o1, o2, o3, o4, o5, o6⟩ := H18; have i1 := own_inc o1 o2 H19; have i2 := own_inc o5 o6 H19; exact ⟨by omega, by omega, by omega, by omega, by omega, by omega⟩)⟩
      · skip
        have f187 : Fld Z h171 a1 "com/example/rouse/rouse/shell/CommandLine" "length" "I" (.int n) := (R167_3.other W171 (Or.inl ne168))
        have f188 : Fld Z h171 a1 "com/example/rouse/rouse/shell/CommandLine" "characters" "[C" (.ref cb) := (R167_4.other W171 (Or.inl ne168))
        have f189 : Fld Z h171 a1 "com/example/rouse/rouse/shell/CommandLine" "wordEnds" "[I" (.ref wb) := (R167_5.other W171 (Or.inl ne168))
        have ne190 : a1 ≠ cb := Exa.neArv H0 H6 (hw _ (List.mem_of_getElem? (i := 1) rfl))
        have f191 : Arv Z h171 cb ck .char (16 : Int32) cvs (.int (0 : Int32)) := ((H6.keep K167 (ninS (Ne.symm ne190) (ninS H13 nin0))).other W171 H14)
        have f192 : Arv Z h171 wb wk .int (16 : Int32) wvx167 (.int (0 : Int32)) := (R167_6.other W171 H15)
        obtain ⟨fs, hr, hrun, hended, hW, hsame⟩ := X174.leave (v := some (.int (1 : Int32))) (fun h => by rw [Bd.returns] at h; cases h)
        refine ⟨_, _, pre179 _ ?_, hrun, hended, _, _, rfl, ?_, ⟨_, rfl⟩, hW, hsame.mono (by decide) (by decide)⟩
        · skip
          show Steps p.tables e below (T174.setTop (mkF m 62 #[.val (.ref a1), .val (.int p2), .val (.int p3), .val (.ref a4)] [(.int cs), (.int (w + (1 : Int32))), (.int (own_b cs (w + (1 : Int32))))])) _
          refine XS.icmpYes X174.here hx rfl (pc0 := 62) (pc' := 69) rfl (hb hby d4_62) rfl (flt (hc62_180 : ¬ (cs < (w + (1 : Int32))))).2.2.2 (by decide) (by decide) ?_
          show Steps p.tables e below (T174.setTop (mkF m 69 #[.val (.ref a1), .val (.int p2), .val (.int p3), .val (.ref a4)] [(.int (own_b cs (w + (1 : Int32))))])) _
          refine XS.iconst X174.here hx rfl (hb hby d4_69) ?_
          show Steps p.tables e below (T174.setTop (mkF m 70 #[.val (.ref a1), .val (.int p2), .val (.int p3), .val (.ref a4)] [(.int (0 : Int32)), (.int (own_b cs (w + (1 : Int32))))])) _
          refine XS.icmpNo X174.here hx rfl (hb hby d4_70) rfl (teq (if_neg hc62_180 : (own_b cs (w + (1 : Int32))) = (0 : Int32))).2 ?_
          show Steps p.tables e below (T174.setTop (mkF m 73 #[.val (.ref a1), .val (.int p2), .val (.int p3), .val (.ref a4)] [])) _
          refine XS.iconst X174.here hx rfl (hb hby d4_73) ?_
          show Steps p.tables e below (T174.setTop (mkF m 74 #[.val (.ref a1), .val (.int p2), .val (.int p3), .val (.ref a4)] [(.int (1 : Int32))])) _
          refine XS.goto X174.here hx rfl (pc0 := 74) (pc' := 78) rfl (hb hby d4_74) (by decide) (by decide) ?_
          show Steps p.tables e below (T174.setTop (mkF m 78 #[.val (.ref a1), .val (.int p2), .val (.int p3), .val (.ref a4)] [(.int (1 : Int32))])) _
          exact retN X174 hx (t := .boolean) Bd.returns (by simp) (hb hby d4_78) hr
        · show Q4 Z a1 p2 p3 a4 w cs n cb ck cvs wb wk wvs mk k h0 n0 _ T174.heap _
          rw [Heq174]
          exact ⟨(w + (1 : Int32)), cs, n, cvs, wvx167, rfl, N174, (((Keep.refl h0 [a1, cb, wb, a4]).trans K167 (allS (P := (fun x => x ∈ [a1, cb, wb, a4] ∨ h0.size ≤ x)) (Or.inl (List.mem_of_getElem? (i := 0) rfl)) (allS (P := (fun x => x ∈ [a1, cb, wb, a4] ∨ h0.size ≤ x)) (Or.inl (List.mem_of_getElem? (i := 2) rfl)) all0))).wr W171 (Or.inl (List.mem_of_getElem? (i := 3) rfl))), f172, f173, f187, f188, f189, f191, f192, V171, H16, R167_7, (by obtain ⟨o1, o2, o3, o4, o5, o6⟩ := H18; have i1 := own_inc o1 o2 H19; have i2 := own_inc o5 o6 H19; exact ⟨by omega, by omega, by omega, by omega, by omega, by omega⟩)⟩
theorem pd_3 : parseMethodDescriptor "(II)V" = some ⟨[.int, .int], none⟩ := by decide +kernel
theorem pd_4 : parseMethodDescriptor "(Lcom/example/rouse/rouse/shell/CommandLine;II[I)Z" = some ⟨[(.object "com/example/rouse/rouse/shell/CommandLine"), .int, .int, (.array .int)], some .boolean⟩ := by decide +kernel
theorem ef_0 (m : MethodId) (p1 : Int32) (p2 : Int32) : entryFrame m #[(.int p1), (.int p2)] maxLocals = mkF m 0 #[.val (.int p1), .val (.int p2), .unset, .unset, .unset] [] := by first | (simp [entryFrame, mkF, argsToLocals, Value.category, maxLocals]; done) | rfl
def Q0 (Z : State) (p1 : Int32) (p2 : Int32) (h0 : Heap) (n0 : Nat) (v : Option Value) (h : Heap) (L : List Loc) : Prop := v = some (.int (1 : Int32)) ∧ Fr n0 L
set_option maxRecDepth 65536 in
set_option maxHeartbeats 40000000 in
theorem rm0 (l : Launch) (Z : State) (a0 : Array Value) (hw : ∀ d ∈ tables_1, d.before a0 Z = true) (ws : List Jvm.Cond) (p1 : Int32) (p2 : Int32) (h0 : Heap) (n0 : Nat) (Z0 : n0 ≤ h0.size) :
    MetFree l x (head1 (Jvm.Cond.code x code maxLocals ret :: ws) room_1) (fun a U => a = #[(.int p1), (.int p2)] ∧ Z.Warmed39 U.vm ∧ U.heap = h0) (fun _ _ _ _ _ => True) (fun _ U o U' => ∃ v L, o = .returned v ∧ Q0 Z p1 p2 h0 n0 v U'.heap L ∧ FrameEnd U o U' L room_1.cells room_1.slots) := by
  refine MetFree.of_bodySF (plainFor_of_name pn_com_example_rouse_rouse_shell_CommandLineCommandHasWordsPinLaw) hisR ?_
  intro p e s m args below meth c s₁ Bd hml0 hP hK
  obtain ⟨rfl, hZ, hh⟩ := hP
  have hx := Bd.exec
  have hby := Bd.bytes
  have hml : c.maxLocals = 5 := hml0
  have hown : s.vm.findClass "com/example/rouse/rouse/shell/CommandLineCommandHasWordsPinLaw" = some m.cls := findClass_of_methodNamed Bd.named
  have hnm := (name_of_methodNamed Bd.named Bd.method).1
  have X0 : Stand p l e room_1 s m #[(.int p1), (.int p2)] below meth c s₁ [] 0 0 := Stand.of_body Bd
  have e0 : s₁.heap = h0 := by rw [← hh, Bd.state]; rfl
  have N0 := Fr.nil n0
  have pre0 : ∀ t, Steps p.tables e below (s₁.setTop (mkF m 0 #[.val (.int p1), .val (.int p2), .unset, .unset, .unset] [])) t → Steps p.tables e below (s₁.setTop (entryFrame m #[(.int p1), (.int p2)] maxLocals)) t := fun t k => castTop (ef_0 m p1 p2) k
  obtain ⟨T101, h101, X101, e101, E101, A101, D101, -, st101⟩ := newO X0 hx hZ hown (hw _ (List.mem_of_getElem? (i := 0) rfl)) (hw _ (List.mem_of_getElem? (i := 1) rfl)) (hw _ (List.mem_of_getElem? (i := 2) rfl)) e0 (g := (mkF m 0 #[.val (.int p1), .val (.int p2), .unset, .unset, .unset] [])) rfl (hb hby at_0) (by decide) (by decide)
  obtain ⟨b101, g101⟩ : ∃ z, z = h0.size := ⟨_, rfl⟩
  rw [← g101] at A101 D101 st101
  have F102 : Fld Z h101 b101 "com/example/rouse/rouse/shell/CommandLine" "characters" "[C" .null := D101 (Or.inl (hw _ (List.mem_of_getElem? (i := 11) rfl))) (ty := (.array .char)) (by decide)
  have F103 : Fld Z h101 b101 "com/example/rouse/rouse/shell/CommandLine" "wordEnds" "[I" .null := D101 (Or.inl (hw _ (List.mem_of_getElem? (i := 14) rfl))) (ty := (.array .int)) (by decide)
  have F104 : Fld Z h101 b101 "com/example/rouse/rouse/shell/CommandLine" "maxCharacters" "I" (.int (0 : Int32)) := D101 (Or.inr (hw _ (List.mem_of_getElem? (i := 16) rfl))) (ty := .int) (by decide)
  have F105 : Fld Z h101 b101 "com/example/rouse/rouse/shell/CommandLine" "maxWords" "I" (.int (0 : Int32)) := D101 (Or.inr (hw _ (List.mem_of_getElem? (i := 18) rfl))) (ty := .int) (by decide)
  have F106 : Fld Z h101 b101 "com/example/rouse/rouse/shell/CommandLine" "words" "I" (.int (0 : Int32)) := D101 (Or.inl (hw _ (List.mem_of_getElem? (i := 25) rfl))) (ty := .int) (by decide)
  have F107 : Fld Z h101 b101 "com/example/rouse/rouse/shell/CommandLine" "commandStart" "I" (.int (0 : Int32)) := D101 (Or.inl (hw _ (List.mem_of_getElem? (i := 27) rfl))) (ty := .int) (by decide)
  have F108 : Fld Z h101 b101 "com/example/rouse/rouse/shell/CommandLine" "length" "I" (.int (0 : Int32)) := D101 (Or.inl (hw _ (List.mem_of_getElem? (i := 38) rfl))) (ty := .int) (by decide)
  have g109 : n0 ≤ b101 := Nat.le_trans Z0 (Nat.le_of_eq g101.symm)
  have z111 : n0 ≤ h101.size := (Nat.le_trans Z0 E101.1)
  obtain ⟨_, _, ⟨T110, L110, k110, n110⟩, -, X110, ⟨Lc110, hQ110, l110, y110, z110⟩, st110⟩ := X101.specialBack hx (y := (⟨"com/example/rouse/rouse/shell/CommandLine", "<init>", "(II)V"⟩ : MethodName)) rfl hown (mvT hZ (hw _ (List.mem_of_getElem? (i := 3) rfl))) (mvT hZ (hw _ (List.mem_of_getElem? (i := 4) rfl))) (mvT hZ (hw _ (List.mem_of_getElem? (i := 5) rfl))) (by decide) (backOf (W := 1) (rm1 l Z a0 hw [] b101 (64 : Int32) (64 : Int32) .null .null (.int (0 : Int32)) (.int (0 : Int32)) h101 n0 z111 A101 F102 F103 F104 F105 F108 F106 F107 g109) hZ (hw _ (List.mem_of_getElem? (i := 5) rfl)) (hw _ (List.mem_of_getElem? (i := 2) rfl)) (by decide) (by decide)) (g := (mkF m 8 #[.val (.int p1), .val (.int p2), .unset, .unset, .unset] [(.int (64 : Int32)), (.int (64 : Int32)), (.ref b101), (.ref b101)])) rfl (by rw [hml]; rfl) (Steps.refl _) (a := b101) (argsL := [(.int (64 : Int32)), (.int (64 : Int32))]) (rest := [(.ref b101)]) (lenOf pd_3 rfl) rfl (by show 2 * 0 + _ ≤ _; exact Nat.le_of_eq rfl) (hb hby at_8) (fun _ _ => ⟨rfl, e101, (by decide : 1 + 2 ≤ _), (by decide : 7 + 32 ≤ _)⟩)
  dsimp only [Pt.U, Pt.locs, Pt.cells, Pt.slots] at X110 l110 y110 z110 st110 hQ110
  subst l110 y110 z110
  obtain ⟨cb110, ck110, cvs110, wb110, wk110, wvs110, rfl, Nq110, K110, R110_1, R110_2, R110_3, R110_4, R110_5, R110_6, R110_7, R110_8, R110_9, R110_10, R110_11, R110_12⟩ := hQ110
  have N110 := Fr.app N0 Nq110
  obtain ⟨T112, h112, k112, X112, e112, E112, A112, Qe112, st112⟩ := newPE X110 hx hZ (hw _ (List.mem_of_getElem? (i := 12) rfl)) rfl (g := (mkF m 13 #[.val (.int p1), .val (.int p2), .val (.ref b101), .unset, .unset] [(.int (2 : Int32))])) rfl (hb hby at_13) rfl (by decide) (cap := 2) (by decide) (by decide) (by decide) (by decide) (ad := "[I") (by decide)
  obtain ⟨b112, g112⟩ : ∃ z, z = T110.heap.size := ⟨_, rfl⟩
  rw [← g112] at A112 Qe112 st112
  have V112 : Arv Z h112 b112 k112 .int (2 : Int32) [(.int (0 : Int32)), (.int (0 : Int32))] (.int (0 : Int32)) := (Arv.new A112 (by decide)).pad (pad_rep [] (.int (0 : Int32)) 2)
  have f113 : Fld Z h112 b101 "com/example/rouse/rouse/shell/CommandLine" "words" "I" (.int (0 : Int32)) := (R110_4.ext E112)
  have f114 : Fld Z h112 b101 "com/example/rouse/rouse/shell/CommandLine" "commandStart" "I" (.int (0 : Int32)) := (R110_5.ext E112)
  have z116 : n0 ≤ h112.size := (Nat.le_trans (Nat.le_trans z111 K110.1) E112.1)
  have f117 : Exa Z h112 b101 "com/example/rouse/rouse/shell/CommandLine" := ((A101.keep K110).ext E112)
  obtain ⟨cq115, kq115, q115a, q115b, q115c⟩ := isOf hZ e112 f117
  obtain ⟨_, _, ⟨T115, L115, k115, n115⟩, -, X115, ⟨Lc115, hQ115, l115, y115, z115⟩, st115⟩ := X112.virtualBack hx (y := (⟨"com/example/rouse/rouse/shell/CommandLine", "commandHasWords", "()Z"⟩ : MethodName)) (z := (⟨"com/example/rouse/rouse/shell/CommandLine", "commandHasWords", "()Z"⟩ : MethodName)) hown (mvT hZ (hw _ (List.mem_of_getElem? (i := 19) rfl))) (mvT hZ (hw _ (List.mem_of_getElem? (i := 20) rfl))) (notFace_of_selects (args := #[]) (mvT hZ (hw _ (List.mem_of_getElem? (i := 22) rfl)))) (mvT hZ (hw _ (List.mem_of_getElem? (i := 22) rfl))) (mvT hZ (hw _ (List.mem_of_getElem? (i := 21) rfl))) (by decide) (backOf (W := 0) (rm3 l Z a0 hw [] b101 (0 : Int32) (0 : Int32) h112 n0 z116 f113 f114) hZ (hw _ (List.mem_of_getElem? (i := 23) rfl)) (hw _ (List.mem_of_getElem? (i := 2) rfl)) (by decide) (by decide)) q115a q115c (g := (mkF m 17 #[.val (.int p1), .val (.int p2), .val (.ref b101), .val (.ref b112), .unset] [(.ref b101)])) rfl (by rw [hml]; rfl) (Steps.refl _) (argsL := []) (rest := []) (lenOf pd_1 rfl) rfl (by show 2 * 0 + _ ≤ _; exact Nat.le_of_eq rfl) (hb hby at_17) (fun _ _ => ⟨rfl, e112, (by decide : 4 + 0 ≤ _), (by decide : 41 + 0 ≤ _)⟩)
  dsimp only [Pt.U, Pt.locs, Pt.cells, Pt.slots] at X115 l115 y115 z115 st115 hQ115
  subst l115 y115 z115
  obtain ⟨rfl, Nq115, Heq115⟩ := hQ115
  have N115 := Fr.app N110 Nq115
  have f118 : Fld Z h112 b101 "com/example/rouse/rouse/shell/CommandLine" "length" "I" (.int (0 : Int32)) := (R110_3.ext E112)
  have f119 : Fld Z h112 b101 "com/example/rouse/rouse/shell/CommandLine" "characters" "[C" (.ref cb110) := (R110_1.ext E112)
  have f120 : Fld Z h112 b101 "com/example/rouse/rouse/shell/CommandLine" "wordEnds" "[I" (.ref wb110) := (R110_2.ext E112)
  have f121 : Arv Z h112 cb110 ck110 .char (16 : Int32) cvs110 (.int (0 : Int32)) := (R110_9.ext E112)
  have f122 : Arv Z h112 wb110 wk110 .int (16 : Int32) wvs110 (.int (0 : Int32)) := (R110_10.ext E112)
  have g123 : n0 ≤ cb110 := Nat.le_trans (Nat.le_trans Z0 E101.1) R110_6
  have g124 : n0 ≤ wb110 := Nat.le_trans (Nat.le_trans Z0 E101.1) R110_7
  have g125 : n0 ≤ b112 := Nat.le_trans (Nat.le_trans (Nat.le_trans Z0 E101.1) K110.1) (Nat.le_of_eq g112.symm)
  have ne126 : cb110 ≠ b112 := (Nat.ne_of_lt (Nat.lt_of_lt_of_le R110_9.lt (Nat.le_of_eq g112.symm)))
  have ne127 : wb110 ≠ b112 := (Nat.ne_of_lt (Nat.lt_of_lt_of_le R110_10.lt (Nat.le_of_eq g112.symm)))
  obtain ⟨_, _, ⟨T128, L128, k128, n128⟩, -, X128, ⟨Lc128, hQ128, l128, y128, z128⟩, st128⟩ := Jvm.LawKit.callS X115 hx (y := (⟨"com/example/rouse/rouse/shell/CommandLineCommandHasWordsPinLaw", "step", "(Lcom/example/rouse/rouse/shell/CommandLine;II[I)Z"⟩ : MethodName)) hown (mvT hZ (hw _ (List.mem_of_getElem? (i := 28) rfl))) (mvT hZ (hw _ (List.mem_of_getElem? (i := 29) rfl))) (mvT hZ (hw _ (List.mem_of_getElem? (i := 30) rfl))) (mvT hZ (hw _ (List.mem_of_getElem? (i := 31) rfl))) (by decide) (backOf (W := 1) (rm4 l Z a0 hw [] b101 (p1 &&& (3 : Int32)) (p2 &&& (255 : Int32)) b112 (0 : Int32) (0 : Int32) (0 : Int32) cb110 ck110 cvs110 wb110 wk110 wvs110 k112 0 h112 n0 z116 f117 f113 f114 f118 f119 f120 f121 f122 V112 g109 g123 g124 g125 R110_8 ne126 ne127 R110_11 R110_12 (by first | assumption | decide) (by first | assumption | decide)) hZ (hw _ (List.mem_of_getElem? (i := 31) rfl)) (hw _ (List.mem_of_getElem? (i := 30) rfl)) (by decide) (by decide)) (g := (mkF m 42 #[.val (.int p1), .val (.int p2), .val (.ref b101), .val (.ref b112), .val (.int (1 : Int32))] [(.ref b112), (.int (p2 &&& (255 : Int32))), (.int (p1 &&& (3 : Int32))), (.ref b101), (.int (1 : Int32))])) rfl (by rw [hml]; rfl) (argsL := [(.ref b101), (.int (p1 &&& (3 : Int32))), (.int (p2 &&& (255 : Int32))), (.ref b112)]) (rest := [(.int (1 : Int32))]) (lenOf pd_4 rfl) rfl (by show 2 * 0 + _ ≤ _; exact Nat.le_of_eq rfl) (hb hby at_42) (fun _ _ => ⟨rfl, Heq115, (by decide : 4 + 0 ≤ _), (by decide : 41 + 0 ≤ _)⟩)
  dsimp only [Pt.U, Pt.locs, Pt.cells, Pt.slots] at X128 l128 y128 z128 st128 hQ128
  subst l128 y128 z128
  obtain ⟨wx128, cx128, nx128, cvx128, wvx128, rfl, Nq128, K128, R128_1, R128_2, R128_3, R128_4, R128_5, R128_6, R128_7, R128_8, R128_9, R128_10, R128_11⟩ := hQ128
  have N128 := Fr.app N115 Nq128
  have f129 : Exa Z T128.heap b101 "com/example/rouse/rouse/shell/CommandLine" := (f117.keep K128)
  have z131 : n0 ≤ T128.heap.size := (Nat.le_trans z116 K128.1)
  obtain ⟨_, _, ⟨T130, L130, k130, n130⟩, -, X130, ⟨Lc130, hQ130, l130, y130, z130⟩, st130⟩ := Jvm.LawKit.callS X128 hx (y := (⟨"com/example/rouse/rouse/shell/CommandLineCommandHasWordsPinLaw", "step", "(Lcom/example/rouse/rouse/shell/CommandLine;II[I)Z"⟩ : MethodName)) hown (mvT hZ (hw _ (List.mem_of_getElem? (i := 28) rfl))) (mvT hZ (hw _ (List.mem_of_getElem? (i := 29) rfl))) (mvT hZ (hw _ (List.mem_of_getElem? (i := 30) rfl))) (mvT hZ (hw _ (List.mem_of_getElem? (i := 31) rfl))) (by decide) (backOf (W := 1) (rm4 l Z a0 hw [] b101 (((p1.toUInt32 >>> ((2 : Int32) &&& 31).toUInt32).toInt32) &&& (3 : Int32)) (((p2.toUInt32 >>> ((8 : Int32) &&& 31).toUInt32).toInt32) &&& (255 : Int32)) b112 wx128 cx128 nx128 cb110 ck110 cvx128 wb110 wk110 wvx128 k112 (0 + 1) T128.heap n0 z131 f129 R128_1 R128_2 R128_3 R128_4 R128_5 R128_6 R128_7 R128_8 g109 g123 g124 g125 R110_8 ne126 ne127 R128_9 R128_10 R128_11 (by first | assumption | decide)) hZ (hw _ (List.mem_of_getElem? (i := 31) rfl)) (hw _ (List.mem_of_getElem? (i := 30) rfl)) (by decide) (by decide)) (g := (mkF m 65 #[.val (.int p1), .val (.int p2), .val (.ref b101), .val (.ref b112), .val (.int (1 : Int32))] [(.ref b112), (.int (((p2.toUInt32 >>> ((8 : Int32) &&& 31).toUInt32).toInt32) &&& (255 : Int32))), (.int (((p1.toUInt32 >>> ((2 : Int32) &&& 31).toUInt32).toInt32) &&& (3 : Int32))), (.ref b101), (.int (1 : Int32))])) rfl (by rw [hml]; rfl) (argsL := [(.ref b101), (.int (((p1.toUInt32 >>> ((2 : Int32) &&& 31).toUInt32).toInt32) &&& (3 : Int32))), (.int (((p2.toUInt32 >>> ((8 : Int32) &&& 31).toUInt32).toInt32) &&& (255 : Int32))), (.ref b112)]) (rest := [(.int (1 : Int32))]) (lenOf pd_4 rfl) rfl (by show 2 * 0 + _ ≤ _; exact Nat.le_of_eq rfl) (hb hby at_65) (fun _ _ => ⟨rfl, rfl, (by decide : 4 + 0 ≤ _), (by decide : 41 + 0 ≤ _)⟩)
  dsimp only [Pt.U, Pt.locs, Pt.cells, Pt.slots] at X130 l130 y130 z130 st130 hQ130
  subst l130 y130 z130
  obtain ⟨wx130, cx130, nx130, cvx130, wvx130, rfl, Nq130, K130, R130_1, R130_2, R130_3, R130_4, R130_5, R130_6, R130_7, R130_8, R130_9, R130_10, R130_11⟩ := hQ130
  have N130 := Fr.app N128 Nq130
  have f132 : Exa Z T130.heap b101 "com/example/rouse/rouse/shell/CommandLine" := (f129.keep K130)
  have z134 : n0 ≤ T130.heap.size := (Nat.le_trans z131 K130.1)
  obtain ⟨_, _, ⟨T133, L133, k133, n133⟩, -, X133, ⟨Lc133, hQ133, l133, y133, z133⟩, st133⟩ := Jvm.LawKit.callS X130 hx (y := (⟨"com/example/rouse/rouse/shell/CommandLineCommandHasWordsPinLaw", "step", "(Lcom/example/rouse/rouse/shell/CommandLine;II[I)Z"⟩ : MethodName)) hown (mvT hZ (hw _ (List.mem_of_getElem? (i := 28) rfl))) (mvT hZ (hw _ (List.mem_of_getElem? (i := 29) rfl))) (mvT hZ (hw _ (List.mem_of_getElem? (i := 30) rfl))) (mvT hZ (hw _ (List.mem_of_getElem? (i := 31) rfl))) (by decide) (backOf (W := 1) (rm4 l Z a0 hw [] b101 (((p1.toUInt32 >>> ((4 : Int32) &&& 31).toUInt32).toInt32) &&& (3 : Int32)) (((p2.toUInt32 >>> ((16 : Int32) &&& 31).toUInt32).toInt32) &&& (255 : Int32)) b112 wx130 cx130 nx130 cb110 ck110 cvx130 wb110 wk110 wvx130 k112 ((0 + 1) + 1) T130.heap n0 z134 f132 R130_1 R130_2 R130_3 R130_4 R130_5 R130_6 R130_7 R130_8 g109 g123 g124 g125 R110_8 ne126 ne127 R130_9 R130_10 R130_11 (by first | assumption | decide)) hZ (hw _ (List.mem_of_getElem? (i := 31) rfl)) (hw _ (List.mem_of_getElem? (i := 30) rfl)) (by decide) (by decide)) (g := (mkF m 88 #[.val (.int p1), .val (.int p2), .val (.ref b101), .val (.ref b112), .val (.int (1 : Int32))] [(.ref b112), (.int (((p2.toUInt32 >>> ((16 : Int32) &&& 31).toUInt32).toInt32) &&& (255 : Int32))), (.int (((p1.toUInt32 >>> ((4 : Int32) &&& 31).toUInt32).toInt32) &&& (3 : Int32))), (.ref b101), (.int (1 : Int32))])) rfl (by rw [hml]; rfl) (argsL := [(.ref b101), (.int (((p1.toUInt32 >>> ((4 : Int32) &&& 31).toUInt32).toInt32) &&& (3 : Int32))), (.int (((p2.toUInt32 >>> ((16 : Int32) &&& 31).toUInt32).toInt32) &&& (255 : Int32))), (.ref b112)]) (rest := [(.int (1 : Int32))]) (lenOf pd_4 rfl) rfl (by show 2 * 0 + _ ≤ _; exact Nat.le_of_eq rfl) (hb hby at_88) (fun _ _ => ⟨rfl, rfl, (by decide : 4 + 0 ≤ _), (by decide : 41 + 0 ≤ _)⟩)
  dsimp only [Pt.U, Pt.locs, Pt.cells, Pt.slots] at X133 l133 y133 z133 st133 hQ133
  subst l133 y133 z133
  obtain ⟨wx133, cx133, nx133, cvx133, wvx133, rfl, Nq133, K133, R133_1, R133_2, R133_3, R133_4, R133_5, R133_6, R133_7, R133_8, R133_9, R133_10, R133_11⟩ := hQ133
  have N133 := Fr.app N130 Nq133
  have f135 : Exa Z T133.heap b101 "com/example/rouse/rouse/shell/CommandLine" := (f132.keep K133)
  have z137 : n0 ≤ T133.heap.size := (Nat.le_trans z134 K133.1)
  obtain ⟨_, _, ⟨T136, L136, k136, n136⟩, -, X136, ⟨Lc136, hQ136, l136, y136, z136⟩, st136⟩ := Jvm.LawKit.callS X133 hx (y := (⟨"com/example/rouse/rouse/shell/CommandLineCommandHasWordsPinLaw", "step", "(Lcom/example/rouse/rouse/shell/CommandLine;II[I)Z"⟩ : MethodName)) hown (mvT hZ (hw _ (List.mem_of_getElem? (i := 28) rfl))) (mvT hZ (hw _ (List.mem_of_getElem? (i := 29) rfl))) (mvT hZ (hw _ (List.mem_of_getElem? (i := 30) rfl))) (mvT hZ (hw _ (List.mem_of_getElem? (i := 31) rfl))) (by decide) (backOf (W := 1) (rm4 l Z a0 hw [] b101 (((p1.toUInt32 >>> ((6 : Int32) &&& 31).toUInt32).toInt32) &&& (3 : Int32)) (((p2.toUInt32 >>> ((24 : Int32) &&& 31).toUInt32).toInt32) &&& (255 : Int32)) b112 wx133 cx133 nx133 cb110 ck110 cvx133 wb110 wk110 wvx133 k112 (((0 + 1) + 1) + 1) T133.heap n0 z137 f135 R133_1 R133_2 R133_3 R133_4 R133_5 R133_6 R133_7 R133_8 g109 g123 g124 g125 R110_8 ne126 ne127 R133_9 R133_10 R133_11 (by first | assumption | decide)) hZ (hw _ (List.mem_of_getElem? (i := 31) rfl)) (hw _ (List.mem_of_getElem? (i := 30) rfl)) (by decide) (by decide)) (g := (mkF m 112 #[.val (.int p1), .val (.int p2), .val (.ref b101), .val (.ref b112), .val (.int (1 : Int32))] [(.ref b112), (.int (((p2.toUInt32 >>> ((24 : Int32) &&& 31).toUInt32).toInt32) &&& (255 : Int32))), (.int (((p1.toUInt32 >>> ((6 : Int32) &&& 31).toUInt32).toInt32) &&& (3 : Int32))), (.ref b101), (.int (1 : Int32))])) rfl (by rw [hml]; rfl) (argsL := [(.ref b101), (.int (((p1.toUInt32 >>> ((6 : Int32) &&& 31).toUInt32).toInt32) &&& (3 : Int32))), (.int (((p2.toUInt32 >>> ((24 : Int32) &&& 31).toUInt32).toInt32) &&& (255 : Int32))), (.ref b112)]) (rest := [(.int (1 : Int32))]) (lenOf pd_4 rfl) rfl (by show 2 * 0 + _ ≤ _; exact Nat.le_of_eq rfl) (hb hby at_112) (fun _ _ => ⟨rfl, rfl, (by decide : 4 + 0 ≤ _), (by decide : 41 + 0 ≤ _)⟩)
  dsimp only [Pt.U, Pt.locs, Pt.cells, Pt.slots] at X136 l136 y136 z136 st136 hQ136
  subst l136 y136 z136
  obtain ⟨wx136, cx136, nx136, cvx136, wvx136, rfl, Nq136, K136, R136_1, R136_2, R136_3, R136_4, R136_5, R136_6, R136_7, R136_8, R136_9, R136_10, R136_11⟩ := hQ136
  have N136 := Fr.app N133 Nq136
  obtain ⟨fs, hr, hrun, hended, hW, hsame⟩ := X136.leave (v := some (.int (1 : Int32))) (fun h => by rw [Bd.returns] at h; cases h)
  refine ⟨_, _, pre0 _ ?_, hrun, hended, _, _, rfl, ?_, ⟨_, rfl⟩, hW, hsame.mono (by decide) (by decide)⟩
  · skip
    show Steps p.tables e below (s₁.setTop (mkF m 0 #[.val (.int p1), .val (.int p2), .unset, .unset, .unset] [])) _
    refine st101 _ ?_
    show Steps p.tables e below (T101.setTop (mkF m 3 #[.val (.int p1), .val (.int p2), .unset, .unset, .unset] [(.ref b101)])) _
    refine XS.dup X101.here hx rfl (hb hby at_3) rfl rfl ?_
    show Steps p.tables e below (T101.setTop (mkF m 4 #[.val (.int p1), .val (.int p2), .unset, .unset, .unset] [(.ref b101), (.ref b101)])) _
    refine XS.bipush X101.here hx rfl (hb hby at_4) ?_
    show Steps p.tables e below (T101.setTop (mkF m 6 #[.val (.int p1), .val (.int p2), .unset, .unset, .unset] [(.int (64 : Int32)), (.ref b101), (.ref b101)])) _
    refine XS.bipush X101.here hx rfl (hb hby at_6) ?_
    show Steps p.tables e below (T101.setTop (mkF m 8 #[.val (.int p1), .val (.int p2), .unset, .unset, .unset] [(.int (64 : Int32)), (.int (64 : Int32)), (.ref b101), (.ref b101)])) _
    refine st110.trans ?_
    show Steps p.tables e below (T110.setTop (mkF m 11 #[.val (.int p1), .val (.int p2), .unset, .unset, .unset] [(.ref b101)])) _
    refine XS.astoreN X110.here hx rfl (hb hby at_11) rfl rfl (l' := #[.val (.int p1), .val (.int p2), .val (.ref b101), .unset, .unset]) rfl ?_
    show Steps p.tables e below (T110.setTop (mkF m 12 #[.val (.int p1), .val (.int p2), .val (.ref b101), .unset, .unset] [])) _
    refine XS.iconst X110.here hx rfl (hb hby at_12) ?_
    show Steps p.tables e below (T110.setTop (mkF m 13 #[.val (.int p1), .val (.int p2), .val (.ref b101), .unset, .unset] [(.int (2 : Int32))])) _
    refine st112 _ ?_
    show Steps p.tables e below (T112.setTop (mkF m 15 #[.val (.int p1), .val (.int p2), .val (.ref b101), .unset, .unset] [(.ref b112)])) _
    refine XS.astoreN X112.here hx rfl (hb hby at_15) rfl rfl (l' := #[.val (.int p1), .val (.int p2), .val (.ref b101), .val (.ref b112), .unset]) rfl ?_
    show Steps p.tables e below (T112.setTop (mkF m 16 #[.val (.int p1), .val (.int p2), .val (.ref b101), .val (.ref b112), .unset] [])) _
    refine XS.aloadN X112.here hx rfl (hb hby at_16) rfl rfl ?_
    show Steps p.tables e below (T112.setTop (mkF m 17 #[.val (.int p1), .val (.int p2), .val (.ref b101), .val (.ref b112), .unset] [(.ref b101)])) _
    refine st115.trans ?_
    show Steps p.tables e below (T115.setTop (mkF m 20 #[.val (.int p1), .val (.int p2), .val (.ref b101), .val (.ref b112), .unset] [(.int (own_b (0 : Int32) (0 : Int32)))])) _
    refine XS.ifNo X115.here hx rfl (hb hby at_20) rfl ((if0 _ _).trans (teq (by decide : (own_b (0 : Int32) (0 : Int32)) = (0 : Int32))).2) ?_
    show Steps p.tables e below (T115.setTop (mkF m 23 #[.val (.int p1), .val (.int p2), .val (.ref b101), .val (.ref b112), .unset] [])) _
    refine XS.iconst X115.here hx rfl (hb hby at_23) ?_
    show Steps p.tables e below (T115.setTop (mkF m 24 #[.val (.int p1), .val (.int p2), .val (.ref b101), .val (.ref b112), .unset] [(.int (1 : Int32))])) _
    refine XS.goto X115.here hx rfl (pc0 := 24) (pc' := 28) rfl (hb hby at_24) (by decide) (by decide) ?_
    show Steps p.tables e below (T115.setTop (mkF m 28 #[.val (.int p1), .val (.int p2), .val (.ref b101), .val (.ref b112), .unset] [(.int (1 : Int32))])) _
    refine XS.istore X115.here hx rfl (hb hby at_28) rfl (l' := #[.val (.int p1), .val (.int p2), .val (.ref b101), .val (.ref b112), .val (.int (1 : Int32))]) rfl ?_
    show Steps p.tables e below (T115.setTop (mkF m 30 #[.val (.int p1), .val (.int p2), .val (.ref b101), .val (.ref b112), .val (.int (1 : Int32))] [])) _
    refine XS.iload X115.here hx rfl (hb hby at_30) rfl ?_
    show Steps p.tables e below (T115.setTop (mkF m 32 #[.val (.int p1), .val (.int p2), .val (.ref b101), .val (.ref b112), .val (.int (1 : Int32))] [(.int (1 : Int32))])) _
    refine XS.aloadN X115.here hx rfl (hb hby at_32) rfl rfl ?_
    show Steps p.tables e below (T115.setTop (mkF m 33 #[.val (.int p1), .val (.int p2), .val (.ref b101), .val (.ref b112), .val (.int (1 : Int32))] [(.ref b101), (.int (1 : Int32))])) _
    refine XS.iloadN X115.here hx rfl (hb hby at_33) rfl ?_
    show Steps p.tables e below (T115.setTop (mkF m 34 #[.val (.int p1), .val (.int p2), .val (.ref b101), .val (.ref b112), .val (.int (1 : Int32))] [(.int p1), (.ref b101), (.int (1 : Int32))])) _
    refine XS.iconst X115.here hx rfl (hb hby at_34) ?_
    show Steps p.tables e below (T115.setTop (mkF m 35 #[.val (.int p1), .val (.int p2), .val (.ref b101), .val (.ref b112), .val (.int (1 : Int32))] [(.int (3 : Int32)), (.int p1), (.ref b101), (.int (1 : Int32))])) _
    refine XS.iand X115.here hx rfl (hb hby at_35) rfl ?_
    show Steps p.tables e below (T115.setTop (mkF m 36 #[.val (.int p1), .val (.int p2), .val (.ref b101), .val (.ref b112), .val (.int (1 : Int32))] [(.int (p1 &&& (3 : Int32))), (.ref b101), (.int (1 : Int32))])) _
    refine XS.iloadN X115.here hx rfl (hb hby at_36) rfl ?_
    show Steps p.tables e below (T115.setTop (mkF m 37 #[.val (.int p1), .val (.int p2), .val (.ref b101), .val (.ref b112), .val (.int (1 : Int32))] [(.int p2), (.int (p1 &&& (3 : Int32))), (.ref b101), (.int (1 : Int32))])) _
    refine XS.sipush X115.here hx rfl (hb hby at_37) ?_
    show Steps p.tables e below (T115.setTop (mkF m 40 #[.val (.int p1), .val (.int p2), .val (.ref b101), .val (.ref b112), .val (.int (1 : Int32))] [(.int (255 : Int32)), (.int p2), (.int (p1 &&& (3 : Int32))), (.ref b101), (.int (1 : Int32))])) _
    refine XS.iand X115.here hx rfl (hb hby at_40) rfl ?_
    show Steps p.tables e below (T115.setTop (mkF m 41 #[.val (.int p1), .val (.int p2), .val (.ref b101), .val (.ref b112), .val (.int (1 : Int32))] [(.int (p2 &&& (255 : Int32))), (.int (p1 &&& (3 : Int32))), (.ref b101), (.int (1 : Int32))])) _
    refine XS.aloadN X115.here hx rfl (hb hby at_41) rfl rfl ?_
    show Steps p.tables e below (T115.setTop (mkF m 42 #[.val (.int p1), .val (.int p2), .val (.ref b101), .val (.ref b112), .val (.int (1 : Int32))] [(.ref b112), (.int (p2 &&& (255 : Int32))), (.int (p1 &&& (3 : Int32))), (.ref b101), (.int (1 : Int32))])) _
    refine st128 _ ?_
    show Steps p.tables e below (T128.setTop (mkF m 45 #[.val (.int p1), .val (.int p2), .val (.ref b101), .val (.ref b112), .val (.int (1 : Int32))] [(.int (1 : Int32)), (.int (1 : Int32))])) _
    refine XS.iand X128.here hx rfl (hb hby at_45) rfl ?_
    show Steps p.tables e below (T128.setTop (mkF m 46 #[.val (.int p1), .val (.int p2), .val (.ref b101), .val (.ref b112), .val (.int (1 : Int32))] [(.int ((1 : Int32) &&& (1 : Int32)))])) _
    rw [show ((1 : Int32) &&& (1 : Int32)) = (1 : Int32) from by decide]
    show Steps p.tables e below (T128.setTop (mkF m 46 #[.val (.int p1), .val (.int p2), .val (.ref b101), .val (.ref b112), .val (.int (1 : Int32))] [(.int (1 : Int32))])) _
    refine XS.istore X128.here hx rfl (hb hby at_46) rfl (l' := #[.val (.int p1), .val (.int p2), .val (.ref b101), .val (.ref b112), .val (.int (1 : Int32))]) rfl ?_
    show Steps p.tables e below (T128.setTop (mkF m 48 #[.val (.int p1), .val (.int p2), .val (.ref b101), .val (.ref b112), .val (.int (1 : Int32))] [])) _
    refine XS.iload X128.here hx rfl (hb hby at_48) rfl ?_
    show Steps p.tables e below (T128.setTop (mkF m 50 #[.val (.int p1), .val (.int p2), .val (.ref b101), .val (.ref b112), .val (.int (1 : Int32))] [(.int (1 : Int32))])) _
    refine XS.aloadN X128.here hx rfl (hb hby at_50) rfl rfl ?_
    show Steps p.tables e below (T128.setTop (mkF m 51 #[.val (.int p1), .val (.int p2), .val (.ref b101), .val (.ref b112), .val (.int (1 : Int32))] [(.ref b101), (.int (1 : Int32))])) _
    refine XS.iloadN X128.here hx rfl (hb hby at_51) rfl ?_
    show Steps p.tables e below (T128.setTop (mkF m 52 #[.val (.int p1), .val (.int p2), .val (.ref b101), .val (.ref b112), .val (.int (1 : Int32))] [(.int p1), (.ref b101), (.int (1 : Int32))])) _
    refine XS.iconst X128.here hx rfl (hb hby at_52) ?_
    show Steps p.tables e below (T128.setTop (mkF m 53 #[.val (.int p1), .val (.int p2), .val (.ref b101), .val (.ref b112), .val (.int (1 : Int32))] [(.int (2 : Int32)), (.int p1), (.ref b101), (.int (1 : Int32))])) _
    refine XS.iushr X128.here hx rfl (hb hby at_53) rfl ?_
    show Steps p.tables e below (T128.setTop (mkF m 54 #[.val (.int p1), .val (.int p2), .val (.ref b101), .val (.ref b112), .val (.int (1 : Int32))] [(.int ((p1.toUInt32 >>> ((2 : Int32) &&& 31).toUInt32).toInt32)), (.ref b101), (.int (1 : Int32))])) _
    refine XS.iconst X128.here hx rfl (hb hby at_54) ?_
    show Steps p.tables e below (T128.setTop (mkF m 55 #[.val (.int p1), .val (.int p2), .val (.ref b101), .val (.ref b112), .val (.int (1 : Int32))] [(.int (3 : Int32)), (.int ((p1.toUInt32 >>> ((2 : Int32) &&& 31).toUInt32).toInt32)), (.ref b101), (.int (1 : Int32))])) _
    refine XS.iand X128.here hx rfl (hb hby at_55) rfl ?_
    show Steps p.tables e below (T128.setTop (mkF m 56 #[.val (.int p1), .val (.int p2), .val (.ref b101), .val (.ref b112), .val (.int (1 : Int32))] [(.int (((p1.toUInt32 >>> ((2 : Int32) &&& 31).toUInt32).toInt32) &&& (3 : Int32))), (.ref b101), (.int (1 : Int32))])) _
    refine XS.iloadN X128.here hx rfl (hb hby at_56) rfl ?_
    show Steps p.tables e below (T128.setTop (mkF m 57 #[.val (.int p1), .val (.int p2), .val (.ref b101), .val (.ref b112), .val (.int (1 : Int32))] [(.int p2), (.int (((p1.toUInt32 >>> ((2 : Int32) &&& 31).toUInt32).toInt32) &&& (3 : Int32))), (.ref b101), (.int (1 : Int32))])) _
    refine XS.bipush X128.here hx rfl (hb hby at_57) ?_
    show Steps p.tables e below (T128.setTop (mkF m 59 #[.val (.int p1), .val (.int p2), .val (.ref b101), .val (.ref b112), .val (.int (1 : Int32))] [(.int (8 : Int32)), (.int p2), (.int (((p1.toUInt32 >>> ((2 : Int32) &&& 31).toUInt32).toInt32) &&& (3 : Int32))), (.ref b101), (.int (1 : Int32))])) _
    refine XS.iushr X128.here hx rfl (hb hby at_59) rfl ?_
    show Steps p.tables e below (T128.setTop (mkF m 60 #[.val (.int p1), .val (.int p2), .val (.ref b101), .val (.ref b112), .val (.int (1 : Int32))] [(.int ((p2.toUInt32 >>> ((8 : Int32) &&& 31).toUInt32).toInt32)), (.int (((p1.toUInt32 >>> ((2 : Int32) &&& 31).toUInt32).toInt32) &&& (3 : Int32))), (.ref b101), (.int (1 : Int32))])) _
    refine XS.sipush X128.here hx rfl (hb hby at_60) ?_
    show Steps p.tables e below (T128.setTop (mkF m 63 #[.val (.int p1), .val (.int p2), .val (.ref b101), .val (.ref b112), .val (.int (1 : Int32))] [(.int (255 : Int32)), (.int ((p2.toUInt32 >>> ((8 : Int32) &&& 31).toUInt32).toInt32)), (.int (((p1.toUInt32 >>> ((2 : Int32) &&& 31).toUInt32).toInt32) &&& (3 : Int32))), (.ref b101), (.int (1 : Int32))])) _
    refine XS.iand X128.here hx rfl (hb hby at_63) rfl ?_
    show Steps p.tables e below (T128.setTop (mkF m 64 #[.val (.int p1), .val (.int p2), .val (.ref b101), .val (.ref b112), .val (.int (1 : Int32))] [(.int (((p2.toUInt32 >>> ((8 : Int32) &&& 31).toUInt32).toInt32) &&& (255 : Int32))), (.int (((p1.toUInt32 >>> ((2 : Int32) &&& 31).toUInt32).toInt32) &&& (3 : Int32))), (.ref b101), (.int (1 : Int32))])) _
    refine XS.aloadN X128.here hx rfl (hb hby at_64) rfl rfl ?_
    show Steps p.tables e below (T128.setTop (mkF m 65 #[.val (.int p1), .val (.int p2), .val (.ref b101), .val (.ref b112), .val (.int (1 : Int32))] [(.ref b112), (.int (((p2.toUInt32 >>> ((8 : Int32) &&& 31).toUInt32).toInt32) &&& (255 : Int32))), (.int (((p1.toUInt32 >>> ((2 : Int32) &&& 31).toUInt32).toInt32) &&& (3 : Int32))), (.ref b101), (.int (1 : Int32))])) _
    refine st130 _ ?_
    show Steps p.tables e below (T130.setTop (mkF m 68 #[.val (.int p1), .val (.int p2), .val (.ref b101), .val (.ref b112), .val (.int (1 : Int32))] [(.int (1 : Int32)), (.int (1 : Int32))])) _
    refine XS.iand X130.here hx rfl (hb hby at_68) rfl ?_
    show Steps p.tables e below (T130.setTop (mkF m 69 #[.val (.int p1), .val (.int p2), .val (.ref b101), .val (.ref b112), .val (.int (1 : Int32))] [(.int ((1 : Int32) &&& (1 : Int32)))])) _
    rw [show ((1 : Int32) &&& (1 : Int32)) = (1 : Int32) from by decide]
    show Steps p.tables e below (T130.setTop (mkF m 69 #[.val (.int p1), .val (.int p2), .val (.ref b101), .val (.ref b112), .val (.int (1 : Int32))] [(.int (1 : Int32))])) _
    refine XS.istore X130.here hx rfl (hb hby at_69) rfl (l' := #[.val (.int p1), .val (.int p2), .val (.ref b101), .val (.ref b112), .val (.int (1 : Int32))]) rfl ?_
    show Steps p.tables e below (T130.setTop (mkF m 71 #[.val (.int p1), .val (.int p2), .val (.ref b101), .val (.ref b112), .val (.int (1 : Int32))] [])) _
    refine XS.iload X130.here hx rfl (hb hby at_71) rfl ?_
    show Steps p.tables e below (T130.setTop (mkF m 73 #[.val (.int p1), .val (.int p2), .val (.ref b101), .val (.ref b112), .val (.int (1 : Int32))] [(.int (1 : Int32))])) _
    refine XS.aloadN X130.here hx rfl (hb hby at_73) rfl rfl ?_
    show Steps p.tables e below (T130.setTop (mkF m 74 #[.val (.int p1), .val (.int p2), .val (.ref b101), .val (.ref b112), .val (.int (1 : Int32))] [(.ref b101), (.int (1 : Int32))])) _
    refine XS.iloadN X130.here hx rfl (hb hby at_74) rfl ?_
    show Steps p.tables e below (T130.setTop (mkF m 75 #[.val (.int p1), .val (.int p2), .val (.ref b101), .val (.ref b112), .val (.int (1 : Int32))] [(.int p1), (.ref b101), (.int (1 : Int32))])) _
    refine XS.iconst X130.here hx rfl (hb hby at_75) ?_
    show Steps p.tables e below (T130.setTop (mkF m 76 #[.val (.int p1), .val (.int p2), .val (.ref b101), .val (.ref b112), .val (.int (1 : Int32))] [(.int (4 : Int32)), (.int p1), (.ref b101), (.int (1 : Int32))])) _
    refine XS.iushr X130.here hx rfl (hb hby at_76) rfl ?_
    show Steps p.tables e below (T130.setTop (mkF m 77 #[.val (.int p1), .val (.int p2), .val (.ref b101), .val (.ref b112), .val (.int (1 : Int32))] [(.int ((p1.toUInt32 >>> ((4 : Int32) &&& 31).toUInt32).toInt32)), (.ref b101), (.int (1 : Int32))])) _
    refine XS.iconst X130.here hx rfl (hb hby at_77) ?_
    show Steps p.tables e below (T130.setTop (mkF m 78 #[.val (.int p1), .val (.int p2), .val (.ref b101), .val (.ref b112), .val (.int (1 : Int32))] [(.int (3 : Int32)), (.int ((p1.toUInt32 >>> ((4 : Int32) &&& 31).toUInt32).toInt32)), (.ref b101), (.int (1 : Int32))])) _
    refine XS.iand X130.here hx rfl (hb hby at_78) rfl ?_
    show Steps p.tables e below (T130.setTop (mkF m 79 #[.val (.int p1), .val (.int p2), .val (.ref b101), .val (.ref b112), .val (.int (1 : Int32))] [(.int (((p1.toUInt32 >>> ((4 : Int32) &&& 31).toUInt32).toInt32) &&& (3 : Int32))), (.ref b101), (.int (1 : Int32))])) _
    refine XS.iloadN X130.here hx rfl (hb hby at_79) rfl ?_
    show Steps p.tables e below (T130.setTop (mkF m 80 #[.val (.int p1), .val (.int p2), .val (.ref b101), .val (.ref b112), .val (.int (1 : Int32))] [(.int p2), (.int (((p1.toUInt32 >>> ((4 : Int32) &&& 31).toUInt32).toInt32) &&& (3 : Int32))), (.ref b101), (.int (1 : Int32))])) _
    refine XS.bipush X130.here hx rfl (hb hby at_80) ?_
    show Steps p.tables e below (T130.setTop (mkF m 82 #[.val (.int p1), .val (.int p2), .val (.ref b101), .val (.ref b112), .val (.int (1 : Int32))] [(.int (16 : Int32)), (.int p2), (.int (((p1.toUInt32 >>> ((4 : Int32) &&& 31).toUInt32).toInt32) &&& (3 : Int32))), (.ref b101), (.int (1 : Int32))])) _
    refine XS.iushr X130.here hx rfl (hb hby at_82) rfl ?_
    show Steps p.tables e below (T130.setTop (mkF m 83 #[.val (.int p1), .val (.int p2), .val (.ref b101), .val (.ref b112), .val (.int (1 : Int32))] [(.int ((p2.toUInt32 >>> ((16 : Int32) &&& 31).toUInt32).toInt32)), (.int (((p1.toUInt32 >>> ((4 : Int32) &&& 31).toUInt32).toInt32) &&& (3 : Int32))), (.ref b101), (.int (1 : Int32))])) _
    refine XS.sipush X130.here hx rfl (hb hby at_83) ?_
    show Steps p.tables e below (T130.setTop (mkF m 86 #[.val (.int p1), .val (.int p2), .val (.ref b101), .val (.ref b112), .val (.int (1 : Int32))] [(.int (255 : Int32)), (.int ((p2.toUInt32 >>> ((16 : Int32) &&& 31).toUInt32).toInt32)), (.int (((p1.toUInt32 >>> ((4 : Int32) &&& 31).toUInt32).toInt32) &&& (3 : Int32))), (.ref b101), (.int (1 : Int32))])) _
    refine XS.iand X130.here hx rfl (hb hby at_86) rfl ?_
    show Steps p.tables e below (T130.setTop (mkF m 87 #[.val (.int p1), .val (.int p2), .val (.ref b101), .val (.ref b112), .val (.int (1 : Int32))] [(.int (((p2.toUInt32 >>> ((16 : Int32) &&& 31).toUInt32).toInt32) &&& (255 : Int32))), (.int (((p1.toUInt32 >>> ((4 : Int32) &&& 31).toUInt32).toInt32) &&& (3 : Int32))), (.ref b101), (.int (1 : Int32))])) _
    refine XS.aloadN X130.here hx rfl (hb hby at_87) rfl rfl ?_
    show Steps p.tables e below (T130.setTop (mkF m 88 #[.val (.int p1), .val (.int p2), .val (.ref b101), .val (.ref b112), .val (.int (1 : Int32))] [(.ref b112), (.int (((p2.toUInt32 >>> ((16 : Int32) &&& 31).toUInt32).toInt32) &&& (255 : Int32))), (.int (((p1.toUInt32 >>> ((4 : Int32) &&& 31).toUInt32).toInt32) &&& (3 : Int32))), (.ref b101), (.int (1 : Int32))])) _
    refine st133 _ ?_
    show Steps p.tables e below (T133.setTop (mkF m 91 #[.val (.int p1), .val (.int p2), .val (.ref b101), .val (.ref b112), .val (.int (1 : Int32))] [(.int (1 : Int32)), (.int (1 : Int32))])) _
    refine XS.iand X133.here hx rfl (hb hby at_91) rfl ?_
    show Steps p.tables e below (T133.setTop (mkF m 92 #[.val (.int p1), .val (.int p2), .val (.ref b101), .val (.ref b112), .val (.int (1 : Int32))] [(.int ((1 : Int32) &&& (1 : Int32)))])) _
    rw [show ((1 : Int32) &&& (1 : Int32)) = (1 : Int32) from by decide]
    show Steps p.tables e below (T133.setTop (mkF m 92 #[.val (.int p1), .val (.int p2), .val (.ref b101), .val (.ref b112), .val (.int (1 : Int32))] [(.int (1 : Int32))])) _
    refine XS.istore X133.here hx rfl (hb hby at_92) rfl (l' := #[.val (.int p1), .val (.int p2), .val (.ref b101), .val (.ref b112), .val (.int (1 : Int32))]) rfl ?_
    show Steps p.tables e below (T133.setTop (mkF m 94 #[.val (.int p1), .val (.int p2), .val (.ref b101), .val (.ref b112), .val (.int (1 : Int32))] [])) _
    refine XS.iload X133.here hx rfl (hb hby at_94) rfl ?_
    show Steps p.tables e below (T133.setTop (mkF m 96 #[.val (.int p1), .val (.int p2), .val (.ref b101), .val (.ref b112), .val (.int (1 : Int32))] [(.int (1 : Int32))])) _
    refine XS.aloadN X133.here hx rfl (hb hby at_96) rfl rfl ?_
    show Steps p.tables e below (T133.setTop (mkF m 97 #[.val (.int p1), .val (.int p2), .val (.ref b101), .val (.ref b112), .val (.int (1 : Int32))] [(.ref b101), (.int (1 : Int32))])) _
    refine XS.iloadN X133.here hx rfl (hb hby at_97) rfl ?_
    show Steps p.tables e below (T133.setTop (mkF m 98 #[.val (.int p1), .val (.int p2), .val (.ref b101), .val (.ref b112), .val (.int (1 : Int32))] [(.int p1), (.ref b101), (.int (1 : Int32))])) _
    refine XS.bipush X133.here hx rfl (hb hby at_98) ?_
    show Steps p.tables e below (T133.setTop (mkF m 100 #[.val (.int p1), .val (.int p2), .val (.ref b101), .val (.ref b112), .val (.int (1 : Int32))] [(.int (6 : Int32)), (.int p1), (.ref b101), (.int (1 : Int32))])) _
    refine XS.iushr X133.here hx rfl (hb hby at_100) rfl ?_
    show Steps p.tables e below (T133.setTop (mkF m 101 #[.val (.int p1), .val (.int p2), .val (.ref b101), .val (.ref b112), .val (.int (1 : Int32))] [(.int ((p1.toUInt32 >>> ((6 : Int32) &&& 31).toUInt32).toInt32)), (.ref b101), (.int (1 : Int32))])) _
    refine XS.iconst X133.here hx rfl (hb hby at_101) ?_
    show Steps p.tables e below (T133.setTop (mkF m 102 #[.val (.int p1), .val (.int p2), .val (.ref b101), .val (.ref b112), .val (.int (1 : Int32))] [(.int (3 : Int32)), (.int ((p1.toUInt32 >>> ((6 : Int32) &&& 31).toUInt32).toInt32)), (.ref b101), (.int (1 : Int32))])) _
    refine XS.iand X133.here hx rfl (hb hby at_102) rfl ?_
    show Steps p.tables e below (T133.setTop (mkF m 103 #[.val (.int p1), .val (.int p2), .val (.ref b101), .val (.ref b112), .val (.int (1 : Int32))] [(.int (((p1.toUInt32 >>> ((6 : Int32) &&& 31).toUInt32).toInt32) &&& (3 : Int32))), (.ref b101), (.int (1 : Int32))])) _
    refine XS.iloadN X133.here hx rfl (hb hby at_103) rfl ?_
    show Steps p.tables e below (T133.setTop (mkF m 104 #[.val (.int p1), .val (.int p2), .val (.ref b101), .val (.ref b112), .val (.int (1 : Int32))] [(.int p2), (.int (((p1.toUInt32 >>> ((6 : Int32) &&& 31).toUInt32).toInt32) &&& (3 : Int32))), (.ref b101), (.int (1 : Int32))])) _
    refine XS.bipush X133.here hx rfl (hb hby at_104) ?_
    show Steps p.tables e below (T133.setTop (mkF m 106 #[.val (.int p1), .val (.int p2), .val (.ref b101), .val (.ref b112), .val (.int (1 : Int32))] [(.int (24 : Int32)), (.int p2), (.int (((p1.toUInt32 >>> ((6 : Int32) &&& 31).toUInt32).toInt32) &&& (3 : Int32))), (.ref b101), (.int (1 : Int32))])) _
    refine XS.iushr X133.here hx rfl (hb hby at_106) rfl ?_
    show Steps p.tables e below (T133.setTop (mkF m 107 #[.val (.int p1), .val (.int p2), .val (.ref b101), .val (.ref b112), .val (.int (1 : Int32))] [(.int ((p2.toUInt32 >>> ((24 : Int32) &&& 31).toUInt32).toInt32)), (.int (((p1.toUInt32 >>> ((6 : Int32) &&& 31).toUInt32).toInt32) &&& (3 : Int32))), (.ref b101), (.int (1 : Int32))])) _
    refine XS.sipush X133.here hx rfl (hb hby at_107) ?_
    show Steps p.tables e below (T133.setTop (mkF m 110 #[.val (.int p1), .val (.int p2), .val (.ref b101), .val (.ref b112), .val (.int (1 : Int32))] [(.int (255 : Int32)), (.int ((p2.toUInt32 >>> ((24 : Int32) &&& 31).toUInt32).toInt32)), (.int (((p1.toUInt32 >>> ((6 : Int32) &&& 31).toUInt32).toInt32) &&& (3 : Int32))), (.ref b101), (.int (1 : Int32))])) _
    refine XS.iand X133.here hx rfl (hb hby at_110) rfl ?_
    show Steps p.tables e below (T133.setTop (mkF m 111 #[.val (.int p1), .val (.int p2), .val (.ref b101), .val (.ref b112), .val (.int (1 : Int32))] [(.int (((p2.toUInt32 >>> ((24 : Int32) &&& 31).toUInt32).toInt32) &&& (255 : Int32))), (.int (((p1.toUInt32 >>> ((6 : Int32) &&& 31).toUInt32).toInt32) &&& (3 : Int32))), (.ref b101), (.int (1 : Int32))])) _
    refine XS.aloadN X133.here hx rfl (hb hby at_111) rfl rfl ?_
    show Steps p.tables e below (T133.setTop (mkF m 112 #[.val (.int p1), .val (.int p2), .val (.ref b101), .val (.ref b112), .val (.int (1 : Int32))] [(.ref b112), (.int (((p2.toUInt32 >>> ((24 : Int32) &&& 31).toUInt32).toInt32) &&& (255 : Int32))), (.int (((p1.toUInt32 >>> ((6 : Int32) &&& 31).toUInt32).toInt32) &&& (3 : Int32))), (.ref b101), (.int (1 : Int32))])) _
    refine st136 _ ?_
    show Steps p.tables e below (T136.setTop (mkF m 115 #[.val (.int p1), .val (.int p2), .val (.ref b101), .val (.ref b112), .val (.int (1 : Int32))] [(.int (1 : Int32)), (.int (1 : Int32))])) _
    refine XS.iand X136.here hx rfl (hb hby at_115) rfl ?_
    show Steps p.tables e below (T136.setTop (mkF m 116 #[.val (.int p1), .val (.int p2), .val (.ref b101), .val (.ref b112), .val (.int (1 : Int32))] [(.int ((1 : Int32) &&& (1 : Int32)))])) _
    rw [show ((1 : Int32) &&& (1 : Int32)) = (1 : Int32) from by decide]
    show Steps p.tables e below (T136.setTop (mkF m 116 #[.val (.int p1), .val (.int p2), .val (.ref b101), .val (.ref b112), .val (.int (1 : Int32))] [(.int (1 : Int32))])) _
    refine XS.istore X136.here hx rfl (hb hby at_116) rfl (l' := #[.val (.int p1), .val (.int p2), .val (.ref b101), .val (.ref b112), .val (.int (1 : Int32))]) rfl ?_
    show Steps p.tables e below (T136.setTop (mkF m 118 #[.val (.int p1), .val (.int p2), .val (.ref b101), .val (.ref b112), .val (.int (1 : Int32))] [])) _
    refine XS.iload X136.here hx rfl (hb hby at_118) rfl ?_
    show Steps p.tables e below (T136.setTop (mkF m 120 #[.val (.int p1), .val (.int p2), .val (.ref b101), .val (.ref b112), .val (.int (1 : Int32))] [(.int (1 : Int32))])) _
    exact retN X136 hx (t := .boolean) Bd.returns (by simp) (hb hby at_120) hr
  · show Q0 Z p1 p2 h0 n0 _ T136.heap _
    exact ⟨rfl, N136⟩
set_option maxRecDepth 65536 in
set_option maxHeartbeats 40000000 in
theorem comes_1 {Post : Tables → Env → Array Value → State → Outcome → State → Prop} (hpost : ∀ tb e args s v u, (limb_1_1.after args s (.returned v) u = true ∧ limb_1_2.after args s (.returned v) u = true ∧ True) → FrameEnd s (.returned v) u (Jvm.fieldLocs frame_1_writes args s ++ Jvm.arrayLocs frame_1_arrays args s ++ Jvm.staticLocs frame_1_statics s) 16 192 → Post tb e args s (.returned v) u) :
    ArmFor flags0 classFile x code maxLocals ret World_1 tables_1 room_1 Calls_1 rest_1 Pre_1 Post := by
  intro l hfl _ _ p e ha hc hk s m args below hf hA hF happ hP
  obtain ⟨hcalls, hrest, hpre⟩ := hP
  obtain ⟨-, -, -, hnamed, -, -, -, hat⟩ := (Spec.applies_iff hf).mp happ
  obtain ⟨hg, hn⟩ := and_e (Cond.before_iff.mp (show (Jvm.Cond.and given_1 narrow_1).before args s = true from hpre))
  obtain ⟨gc, ga0⟩ := and_e hg
  obtain ⟨gv0, ga1⟩ := and_e ga0
  obtain ⟨w0, w1, rfl⟩ : ∃ w0 w1 : Value, args = #[w0, w1] := by
    have hs : args.size = 2 := by simpa [Cond.value, given_1] using gc
    obtain ⟨L⟩ := args
    match L, hs with
    | [w0, w1], _ => exact ⟨w0, w1, rfl⟩
  have hw := fun d (hd : d ∈ tables_1) => atoms_spec (ws := Jvm.Cond.code x code maxLocals ret :: tables_1) hat d (List.mem_cons_of_mem _ hd)
  have hfit : Fit s := fun {y c} hc i hi => by
    obtain ⟨ha, rfl⟩ := Array.getElem?_eq_some_iff.mp hc
    have q := List.all_eq_true.mp ((Array.all_eq_true_iff_forall_mem.mp hF) _ (Array.getElem_mem ha)) i (List.mem_range.mpr hi)
    simpa [Array.getElem?_eq_getElem hi] using q
  obtain ⟨i0, ei0⟩ := is_v gv0
  obtain rfl : w0 = (.int i0) := Option.some.inj ei0
  obtain ⟨i1, ei1⟩ := is_v ga1
  obtain rfl : w1 = (.int i1) := Option.some.inj ei1
  obtain ⟨n, o, h1, h2, h3, _, L, rfl, ⟨rfl, N⟩, hq⟩ := rm0 l s _ hw tables_1 i0 i1 s.heap s.heap.size (Nat.le_refl _)  p e ha hc hk s m _ below hf ((Spec.applies_iff_loose hf).mp happ).1 ⟨rfl, State.Warmed39.refl s, rfl⟩ trivial
  refine ⟨n, _, h1, h2, h3, hpost _ _ _ _ _ _ ⟨Cond.after_iff.mpr rfl, Cond.after_iff.mpr (eq_i res_at (Term.int_eval (1)) rfl), trivial⟩ ⟨hq.1, hq.2.1, (hq.2.2.sift fun y hy => Or.inr (N y hy)).mono (by decide) (by decide)⟩⟩
theorem main_1_1 : Claimed_1_1 := comes_1 fun _ _ _ _ _ _ h hF => ⟨h.1, hF⟩
theorem main_1_2 : Claimed_1_2 := comes_1 fun _ _ _ _ _ _ h hF => ⟨h.2.1, hF⟩
end Jvm.Pilot.@@N@@
namespace Jvm.Pilot.@@N@@
open Jvm Jvm.ClassFile Sem Op Lib Jvm.Free Jvm.Stand Jvm.Pilot.@@N@@.Jvm.D
/-! MADE BY PROGRAM (witnessworld.py) out of the Statement's table words and the real class files: 12 classes; the members and pool entries that the words name. The judged class is class 1, her method 1. -/
namespace start1
open Jvm.ClassFile
def u (s : String) : CpInfo := .utf8 (stringToUtf16 s)
/-- a pool by its gaps: so many unusable entries, then the entry; so many at the end -/
def gap : Nat → List CpInfo → List CpInfo
  | 0, r => r
  | n + 1, r => .unusable :: gap n r
def poolList (es : List (Nat × CpInfo)) (last : Nat) : List CpInfo := es.foldr (fun e r => gap e.1 (e.2 :: r)) (gap last [])
def pool (es : List (Nat × CpInfo)) (last : Nat) : Array CpInfo := ⟨poolList es last⟩
def fileOf (pool : Array CpInfo) (this : Nat) (attrs : Array Attribute := #[]) (ms : Array MethodInfo := #[]) (fl : Nat := 33) (sup : Nat := 0) (ifs : Array Nat := #[]) (fds : Array FieldInfo := #[]) : ClassFile where
  minorVersion := 0
  majorVersion := 65
  constantPool := pool
  accessFlags := fl
  thisClass := this
  superClass := sup
  interfaces := ifs
  fields := fds
  methods := ms
  attributes := attrs
def plain (name : String) (sup : Option ClassId) : Class where
  name := name
  kind := .ordinary
  loader := none
  accessFlags := 33
  super := sup
  interfaces := #[]
  cf := none
  fields := #[]
  methods := #[]
  instanceTypes := #[]
  staticTypes := #[]
  resolved := #[]
  callSites := []
  init := .initialized
  statics := none
  mirror := none

def pool0 : Array CpInfo := pool [(5, u "<init>"), (0, u "()V"), (1, .class_ 10), (1, u "java/lang/Object")] 113

def k0c0 : Code := { maxStack := 0, maxLocals := 1, code := object_method_1_code, exceptionTable := #[], attributes := #[] }
def k0m0 : Method := { name := "<init>", desc := "()V", sig := { parameters := [], returnType := none }, accessFlags := 1, code := some k0c0 }
/-- java/lang/Object -/
def k0 : Class := { plain "java/lang/Object" none with
  accessFlags := 33
  interfaces := #[]
  cf := some (fileOf pool0 8 #[] #[{ accessFlags := 1, nameIndex := 5, descriptorIndex := 6, attributes := #[] }] 33 0 #[] #[])
  fields := #[]
  methods := #[k0m0]
  instanceTypes := #[]
  staticTypes := #[]
  resolved := Array.replicate 124 none
  statics := none }

def pool1 : Array CpInfo := pool [(2, .class_ 4), (1, u "java/lang/Object"), (0, u "<init>"), (0, u "()V"), (0, .class_ 8), (0, u "com/example/rouse/rouse/shell/CommandLine"), (0, .methodref 7 10), (0, .nameAndType 5 11), (0, u "(II)V"), (0, .methodref 7 13), (0, .nameAndType 14 15), (0, u "commandHasWords"), (0, u "()Z"), (0, .methodref 17 18), (0, .class_ 19), (0, .nameAndType 20 21), (0, u "com/example/rouse/rouse/shell/CommandLineCommandHasWordsPinLaw"), (0, u "step"), (0, u "(Lcom/example/rouse/rouse/shell/CommandLine;II[I)Z"), (0, .methodref 7 23), (0, .nameAndType 24 25), (0, u "append"), (0, u "(C)V"), (0, .methodref 7 27), (0, .nameAndType 28 6), (0, u "endCommand"), (0, .methodref 7 30), (0, .nameAndType 31 6), (0, u "endWord"), (2, u "law"), (0, u "(II)Z")] 5

def k1m0 : Method := { name := "<init>", desc := "()V", sig := { parameters := [], returnType := none }, accessFlags := 1, code := none }
def k1c1 : Code := { maxStack := 5, maxLocals := 5, code := code, exceptionTable := #[], attributes := #[] }
def k1m1 : Method := { name := "law", desc := "(II)Z", sig := { parameters := [.int, .int], returnType := some .boolean }, accessFlags := 9, code := some k1c1 }
def k1c2 : Code := { maxStack := 4, maxLocals := 4, code := method_3_code, exceptionTable := #[], attributes := #[] }
def k1m2 : Method := { name := "step", desc := "(Lcom/example/rouse/rouse/shell/CommandLine;II[I)Z", sig := { parameters := [(.object "com/example/rouse/rouse/shell/CommandLine"), .int, .int, (.array .int)], returnType := some .boolean }, accessFlags := 10, code := some k1c2 }
/-- com/example/rouse/rouse/shell/CommandLineCommandHasWordsPinLaw -/
def k1 : Class := { plain "com/example/rouse/rouse/shell/CommandLineCommandHasWordsPinLaw" (some 0) with
  accessFlags := 49
  interfaces := #[]
  cf := some (fileOf pool1 17 #[] #[{ accessFlags := 1, nameIndex := 5, descriptorIndex := 6, attributes := #[] }, { accessFlags := 9, nameIndex := 34, descriptorIndex := 35, attributes := #[] }, { accessFlags := 10, nameIndex := 20, descriptorIndex := 21, attributes := #[] }] 49 2 #[] #[])
  fields := #[]
  methods := #[k1m0, k1m1, k1m2]
  instanceTypes := #[]
  staticTypes := #[]
  resolved := Array.replicate 41 none
  statics := none }

def pool2 : Array CpInfo := pool [(8, .class_ 10), (1, u "java/lang/Iterable"), (24, .class_ 36), (0, u "java/lang/Object")] 25

/-- java/lang/Iterable -/
def k2 : Class := { plain "java/lang/Iterable" (some 0) with
  accessFlags := 1537
  interfaces := #[]
  cf := some (fileOf pool2 8 #[] #[] 1537 35 #[] #[])
  fields := #[]
  methods := #[]
  instanceTypes := #[]
  staticTypes := #[]
  resolved := Array.replicate 62 none
  statics := none }

def pool3 : Array CpInfo := pool [(1, .methodref 2 3), (0, .class_ 4), (0, .nameAndType 5 6), (0, u "java/lang/Object"), (0, u "<init>"), (0, u "()V"), (0, .class_ 8), (0, u "com/example/rouse/rouse/shell/CommandLine"), (0, .fieldref 7 10), (0, .nameAndType 11 12), (0, u "characters"), (0, u "[C"), (0, .fieldref 7 14), (0, .nameAndType 15 16), (0, u "wordEnds"), (0, u "[I"), (0, .fieldref 7 18), (0, .nameAndType 19 20), (0, u "maxCharacters"), (0, u "I"), (0, .fieldref 7 22), (0, .nameAndType 23 20), (0, u "maxWords"), (0, .fieldref 7 25), (0, .nameAndType 26 20), (0, u "length"), (12, .fieldref 7 40), (0, .nameAndType 41 20), (0, u "words"), (3, .fieldref 7 46), (0, .nameAndType 47 20), (0, u "commandStart"), (0, .class_ 49), (0, u "com/example/rouse/rouse/shell/CommandLine$1"), (7, .class_ 58), (0, u "java/lang/Iterable"), (0, u "FIRST_CAPACITY"), (2, u "(II)V"), (2, u "append"), (0, u "(C)V"), (1, u "endWord"), (0, u "commandHasWords"), (0, u "()Z"), (0, u "endCommand"), (9, .class_ 82), (0, u "com/example/rouse/rouse/shell/CommandLine$Words")] 2

def k3c0 : Code := { maxStack := 2, maxLocals := 3, code := prog_64_method_1_code, exceptionTable := #[], attributes := #[] }
def k3m0 : Method := { name := "<init>", desc := "(II)V", sig := { parameters := [.int, .int], returnType := none }, accessFlags := 0, code := some k3c0 }
def k3c1 : Code := { maxStack := 5, maxLocals := 2, code := prog_64_method_2_code, exceptionTable := #[], attributes := #[] }
def k3m1 : Method := { name := "append", desc := "(C)V", sig := { parameters := [.char], returnType := none }, accessFlags := 0, code := some k3c1 }
def k3c2 : Code := { maxStack := 5, maxLocals := 1, code := prog_64_method_3_code, exceptionTable := #[], attributes := #[] }
def k3m2 : Method := { name := "endWord", desc := "()V", sig := { parameters := [], returnType := none }, accessFlags := 0, code := some k3c2 }
def k3c3 : Code := { maxStack := 2, maxLocals := 1, code := prog_64_method_4_code, exceptionTable := #[], attributes := #[] }
def k3m3 : Method := { name := "commandHasWords", desc := "()Z", sig := { parameters := [], returnType := some .boolean }, accessFlags := 0, code := some k3c3 }
def k3c4 : Code := { maxStack := 5, maxLocals := 1, code := prog_64_method_5_code, exceptionTable := #[], attributes := #[] }
def k3m4 : Method := { name := "endCommand", desc := "()V", sig := { parameters := [], returnType := none }, accessFlags := 0, code := some k3c4 }
/-- com/example/rouse/rouse/shell/CommandLine -/
def k3 : Class := { plain "com/example/rouse/rouse/shell/CommandLine" (some 0) with
  accessFlags := 48
  interfaces := #[2]
  cf := some (fileOf pool3 7 #[.nestMembers #[81, 48]] #[{ accessFlags := 0, nameIndex := 5, descriptorIndex := 62, attributes := #[] }, { accessFlags := 0, nameIndex := 65, descriptorIndex := 66, attributes := #[] }, { accessFlags := 0, nameIndex := 68, descriptorIndex := 6, attributes := #[] }, { accessFlags := 0, nameIndex := 69, descriptorIndex := 70, attributes := #[] }, { accessFlags := 0, nameIndex := 71, descriptorIndex := 6, attributes := #[] }] 48 2 #[57] #[{ accessFlags := 26, nameIndex := 59, descriptorIndex := 20, attributes := #[] }, { accessFlags := 18, nameIndex := 19, descriptorIndex := 20, attributes := #[] }, { accessFlags := 18, nameIndex := 23, descriptorIndex := 20, attributes := #[] }, { accessFlags := 2, nameIndex := 11, descriptorIndex := 12, attributes := #[] }, { accessFlags := 2, nameIndex := 26, descriptorIndex := 20, attributes := #[] }, { accessFlags := 2, nameIndex := 15, descriptorIndex := 16, attributes := #[] }, { accessFlags := 2, nameIndex := 41, descriptorIndex := 20, attributes := #[] }, { accessFlags := 2, nameIndex := 47, descriptorIndex := 20, attributes := #[] }])
  fields := #[{ name := "FIRST_CAPACITY", type := .int, accessFlags := 26, slot := 0, constantValue := 0 }, { name := "maxCharacters", type := .int, accessFlags := 18, slot := 0, constantValue := 0 }, { name := "maxWords", type := .int, accessFlags := 18, slot := 1, constantValue := 0 }, { name := "characters", type := (.array .char), accessFlags := 2, slot := 2, constantValue := 0 }, { name := "length", type := .int, accessFlags := 2, slot := 3, constantValue := 0 }, { name := "wordEnds", type := (.array .int), accessFlags := 2, slot := 4, constantValue := 0 }, { name := "words", type := .int, accessFlags := 2, slot := 5, constantValue := 0 }, { name := "commandStart", type := .int, accessFlags := 2, slot := 6, constantValue := 0 }]
  methods := #[k3m0, k3m1, k3m2, k3m3, k3m4]
  instanceTypes := #[.int, .int, (.array .char), .int, (.array .int), .int, .int]
  staticTypes := #[.int]
  resolved := Array.replicate 85 none
  statics := none }

def pool4 : Array CpInfo := pool [(1, u "java/lang/Cloneable"), (0, .class_ 1), (0, u "java/lang/Object"), (0, .class_ 3)] 3

/-- java/lang/Cloneable -/
def k4 : Class := { plain "java/lang/Cloneable" (some 0) with
  accessFlags := 1537
  interfaces := #[]
  cf := some (fileOf pool4 2 #[] #[] 1537 4 #[] #[])
  fields := #[]
  methods := #[]
  instanceTypes := #[]
  staticTypes := #[]
  resolved := Array.replicate 8 none
  statics := none }

def pool5 : Array CpInfo := pool [(1, u "java/io/Serializable"), (0, .class_ 1), (0, u "java/lang/Object"), (0, .class_ 3)] 3

/-- java/io/Serializable -/
def k5 : Class := { plain "java/io/Serializable" (some 0) with
  accessFlags := 1537
  interfaces := #[]
  cf := some (fileOf pool5 2 #[] #[] 1537 4 #[] #[])
  fields := #[]
  methods := #[]
  instanceTypes := #[]
  staticTypes := #[]
  resolved := Array.replicate 8 none
  statics := none }

/-- the primitive byte -/
def k6 : Class := { plain "byte" none with kind := .primitive 'B', accessFlags := 0x411 }
/-- [B -/
def k7 : Class := { plain "[B" (some 0) with kind := .array 6 .byte, interfaces := #[4, 5], accessFlags := 1041 }

/-- the primitive char -/
def k8 : Class := { plain "char" none with kind := .primitive 'C', accessFlags := 0x411 }
/-- [C -/
def k9 : Class := { plain "[C" (some 0) with kind := .array 8 .char, interfaces := #[4, 5], accessFlags := 1041 }

/-- the primitive int -/
def k10 : Class := { plain "int" none with kind := .primitive 'I', accessFlags := 0x411 }
/-- [I -/
def k11 : Class := { plain "[I" (some 0) with kind := .array 10 .int, interfaces := #[4, 5], accessFlags := 1041 }

def heap : Heap := #[]
def classes : Array Class := #[k0, k1, k2, k3, k4, k5, k6, k7, k8, k9, k10, k11]
def interned : List (Array UInt16 × Addr) := []
def slotsUsed : Nat := 0
def theMethod : MethodId := ⟨1, 1⟩
def args0 : Array Value := #[.int 5, .int 6]
def aboutOver (below : List Frame) : State where
  vm := { classes := classes, interned := interned.toArray }
  heap := heap
  slotsUsed := slotsUsed
  threads := #[{ frames := .invoking theMethod args0 :: below }]
def below0 : List Frame := [.native { method := ⟨0, 0⟩, args := #[] }]
def about1 : State := aboutOver below0
def p0 : Program := .bare "" "" ""
def e0 : Env := launch0.env 0 0 0
theorem w_frames : about1.frames = Frame.invoking theMethod args0 :: below0 := rfl
set_option maxRecDepth 65536 in
theorem w_args : argsFit about1.vm theMethod args0 = true := by decide +kernel
set_option maxRecDepth 65536 in
theorem w_heap : heapFits about1 = true := by decide +kernel
set_option maxRecDepth 65536 in
theorem w_runnable : about1.curStatus? = some .runnable := by decide +kernel
set_option maxRecDepth 65536 in
theorem w_alone : about1.alone = true := by decide +kernel
set_option maxRecDepth 65536 in
theorem w_named : about1.methodNamed? x = some theMethod := by decide +kernel
set_option maxRecDepth 65536 in
theorem w_hears : about1.hears theMethod below0 = true := by decide +kernel
set_option maxRecDepth 65536 in
theorem w_ripe : about1.ripe theMethod args0 below0 = true := by decide +kernel
theorem w_running : about1.status = .running := rfl
set_option maxRecDepth 65536 in
theorem w_room : about1.hasRoom e0.platform room_1 = true :=
  launch0.hasRoom_least _ room_1 (by decide +kernel) (by decide +kernel) (by decide +kernel) (by decide +kernel) (by decide +kernel) (by decide +kernel)
theorem allAtoms_all (ts : List Jvm.Cond) (a : Array Jvm.Value) (st : Jvm.State) : (allAtoms ts).before a st = ts.all (fun c => c.before a st) := by
  induction ts with
  | nil => rfl
  | cons c t ih =>
    show (Jvm.Cond.and c (allAtoms t)).before a st = _
    rw [Jvm.Cond.before_and, ih, List.all_cons]
def words1 : List Jvm.Cond := Jvm.Cond.code x code maxLocals ret :: tables_1
/-- a 'code' word, met by the world's own term for the bytes: nothing is compared byte by byte -/
theorem code_word {y : MethodName} {bytes : ByteArray} {mx : Nat} {rt : Option FieldType} {a : Array Value} {s : State} {m : MethodId} {meth : Method} {c : Code} (h1 : s.methodNamed? y = some m) (h2 : s.vm.method? m = some meth) (h3 : meth.code = some c) (h4 : c.code = bytes)
    (h5 : (c.maxLocals == mx && c.exceptionTable.isEmpty && decide (c.maxStack ≤ mostOperands) && decide (meth.sig.returnType = rt) && !meth.locks && decide (parseMethodDescriptor y.desc = some meth.sig)) = true) : (Jvm.Cond.code y bytes mx rt).before a s = true := by
  simp only [Bool.and_eq_true, beq_iff_eq, Bool.not_eq_true', decide_eq_true_eq] at h5
  obtain ⟨⟨⟨⟨⟨g1, g2⟩, g3⟩, g4⟩, g5⟩, g6⟩ := h5
  simp [Cond.before, Cond.holds, Cond.value, h1, h2, h3, h4, g1, g2, g3, g4, g5, g6]
def isCode : Jvm.Cond → Bool
  | .code _ _ _ _ => true
  | _ => false
theorem all_split {L : List Jvm.Cond} {P : Jvm.Cond → Bool} (h1 : L.all (fun c => isCode c || P c) = true) (h2 : ∀ c ∈ L.filter isCode, P c = true) : L.all P = true := by
  refine List.all_eq_true.mpr fun c hc => ?_
  have h := List.all_eq_true.mp h1 c hc
  rcases Bool.eq_false_or_eq_true (isCode c) with hi | hi
  · exact h2 c (List.mem_filter.mpr ⟨hc, hi⟩)
  · simpa [hi] using h
set_option maxRecDepth 65536 in
theorem w_c0 : (Jvm.Cond.code x code maxLocals ret).before args0 about1 = true := code_word (m := ⟨1, 1⟩) (meth := k1m1) (c := k1c1) (by decide +kernel) rfl rfl rfl (by decide +kernel)
set_option maxRecDepth 65536 in
theorem w_c1 : (Jvm.Cond.code ({ cls := "com/example/rouse/rouse/shell/CommandLine", name := "<init>", desc := "(II)V" } : Jvm.MethodName) prog_64_method_1_code (3 : Nat) (Option.none : Option Jvm.ClassFile.FieldType)).before args0 about1 = true := code_word (m := ⟨3, 0⟩) (meth := k3m0) (c := k3c0) (by decide +kernel) rfl rfl rfl (by decide +kernel)
set_option maxRecDepth 65536 in
theorem w_c2 : (Jvm.Cond.code ({ cls := "java/lang/Object", name := "<init>", desc := "()V" } : Jvm.MethodName) object_method_1_code (1 : Nat) (Option.none : Option Jvm.ClassFile.FieldType)).before args0 about1 = true := code_word (m := ⟨0, 0⟩) (meth := k0m0) (c := k0c0) (by decide +kernel) rfl rfl rfl (by decide +kernel)
set_option maxRecDepth 65536 in
theorem w_c3 : (Jvm.Cond.code ({ cls := "com/example/rouse/rouse/shell/CommandLine", name := "commandHasWords", desc := "()Z" } : Jvm.MethodName) prog_64_method_4_code (1 : Nat) (Option.some Jvm.ClassFile.FieldType.boolean)).before args0 about1 = true := code_word (m := ⟨3, 3⟩) (meth := k3m3) (c := k3c3) (by decide +kernel) rfl rfl rfl (by decide +kernel)
set_option maxRecDepth 65536 in
theorem w_c4 : (Jvm.Cond.code ({ cls := "com/example/rouse/rouse/shell/CommandLineCommandHasWordsPinLaw", name := "step", desc := "(Lcom/example/rouse/rouse/shell/CommandLine;II[I)Z" } : Jvm.MethodName) method_3_code (4 : Nat) (Option.some Jvm.ClassFile.FieldType.boolean)).before args0 about1 = true := code_word (m := ⟨1, 2⟩) (meth := k1m2) (c := k1c2) (by decide +kernel) rfl rfl rfl (by decide +kernel)
set_option maxRecDepth 65536 in
theorem w_c5 : (Jvm.Cond.code ({ cls := "com/example/rouse/rouse/shell/CommandLine", name := "append", desc := "(C)V" } : Jvm.MethodName) prog_64_method_2_code (2 : Nat) (Option.none : Option Jvm.ClassFile.FieldType)).before args0 about1 = true := code_word (m := ⟨3, 1⟩) (meth := k3m1) (c := k3c1) (by decide +kernel) rfl rfl rfl (by decide +kernel)
set_option maxRecDepth 65536 in
theorem w_c6 : (Jvm.Cond.code ({ cls := "com/example/rouse/rouse/shell/CommandLine", name := "endWord", desc := "()V" } : Jvm.MethodName) prog_64_method_3_code (1 : Nat) (Option.none : Option Jvm.ClassFile.FieldType)).before args0 about1 = true := code_word (m := ⟨3, 2⟩) (meth := k3m2) (c := k3c2) (by decide +kernel) rfl rfl rfl (by decide +kernel)
set_option maxRecDepth 65536 in
theorem w_c7 : (Jvm.Cond.code ({ cls := "com/example/rouse/rouse/shell/CommandLine", name := "endCommand", desc := "()V" } : Jvm.MethodName) prog_64_method_5_code (1 : Nat) (Option.none : Option Jvm.ClassFile.FieldType)).before args0 about1 = true := code_word (m := ⟨3, 4⟩) (meth := k3m4) (c := k3c4) (by decide +kernel) rfl rfl rfl (by decide +kernel)
def codes1 : List Jvm.Cond := [Jvm.Cond.code x code maxLocals ret, Jvm.Cond.code ({ cls := "com/example/rouse/rouse/shell/CommandLine", name := "<init>", desc := "(II)V" } : Jvm.MethodName) prog_64_method_1_code (3 : Nat) (Option.none : Option Jvm.ClassFile.FieldType), Jvm.Cond.code ({ cls := "java/lang/Object", name := "<init>", desc := "()V" } : Jvm.MethodName) object_method_1_code (1 : Nat) (Option.none : Option Jvm.ClassFile.FieldType), Jvm.Cond.code ({ cls := "com/example/rouse/rouse/shell/CommandLine", name := "commandHasWords", desc := "()Z" } : Jvm.MethodName) prog_64_method_4_code (1 : Nat) (Option.some Jvm.ClassFile.FieldType.boolean), Jvm.Cond.code ({ cls := "com/example/rouse/rouse/shell/CommandLineCommandHasWordsPinLaw", name := "step", desc := "(Lcom/example/rouse/rouse/shell/CommandLine;II[I)Z" } : Jvm.MethodName) method_3_code (4 : Nat) (Option.some Jvm.ClassFile.FieldType.boolean), Jvm.Cond.code ({ cls := "com/example/rouse/rouse/shell/CommandLine", name := "append", desc := "(C)V" } : Jvm.MethodName) prog_64_method_2_code (2 : Nat) (Option.none : Option Jvm.ClassFile.FieldType), Jvm.Cond.code ({ cls := "com/example/rouse/rouse/shell/CommandLine", name := "endWord", desc := "()V" } : Jvm.MethodName) prog_64_method_3_code (1 : Nat) (Option.none : Option Jvm.ClassFile.FieldType), Jvm.Cond.code ({ cls := "com/example/rouse/rouse/shell/CommandLine", name := "endCommand", desc := "()V" } : Jvm.MethodName) prog_64_method_5_code (1 : Nat) (Option.none : Option Jvm.ClassFile.FieldType)]
set_option maxRecDepth 65536 in
theorem codes_eq : words1.filter isCode = codes1 := rfl
theorem w_codes : ∀ c ∈ words1.filter isCode, c.before args0 about1 = true := by
  rw [codes_eq]
  intro c hc
  simp only [codes1, List.mem_cons, List.not_mem_nil, or_false] at hc
  rcases hc with rfl | rfl | rfl | rfl | rfl | rfl | rfl | rfl
  · exact w_c0
  · exact w_c1
  · exact w_c2
  · exact w_c3
  · exact w_c4
  · exact w_c5
  · exact w_c6
  · exact w_c7
set_option maxRecDepth 65536 in
theorem w_t1 : (words1.take 24).all (fun c => isCode c || c.before args0 about1) = true := by decide +kernel
set_option maxRecDepth 65536 in
theorem w_t2 : ((words1.drop 24).take 24).all (fun c => isCode c || c.before args0 about1) = true := by decide +kernel
set_option maxRecDepth 65536 in
theorem w_t3 : ((words1.drop 24).drop 24).all (fun c => isCode c || c.before args0 about1) = true := by decide +kernel
theorem w_tables : (allAtoms (Jvm.Cond.code x code maxLocals ret :: tables_1)).before args0 about1 = true := by
  rw [allAtoms_all]
  show words1.all (fun c => c.before args0 about1) = true
  refine all_split ?_ w_codes
  rw [← List.take_append_drop 24 words1, List.all_append, w_t1, ← List.take_append_drop 24 (words1.drop 24), List.all_append, w_t2, w_t3]
  rfl
set_option maxRecDepth 65536 in
theorem w_case : (Jvm.Cond.and given_1 narrow_1).before args0 about1 = true := by decide +kernel
theorem w_applies : (headSpec (Jvm.Cond.code x code maxLocals ret :: tables_1) room_1).applies x e0.platform about1 = true :=
  (Spec.applies_iff w_frames).mpr ⟨w_running, w_runnable, w_alone, w_named, w_hears, w_ripe, w_room, w_tables⟩
theorem atStart : AtStart classFile x code maxLocals ret World_1 tables_1 room_1 Calls_1 rest_1 Pre_1 launch0 p0 e0 about1 theMethod args0 below0 :=
  ⟨lists_1, trivial, launch0.admits_env _ _ _, launch0.least_env, fairChoices_fair.cas, fairChoices_fair.clock, w_frames, w_args, w_heap, w_applies, trivial, trivial, w_case⟩
end start1
theorem witness_1 : WitnessClaimed_1 := ⟨start1.p0, start1.e0, start1.about1, start1.theMethod, start1.args0, start1.below0, start1.atStart⟩
end Jvm.Pilot.@@N@@
