import JvmDerived
import JvmDerived.Pilot.@@N@@Statement
import JvmDerived.Pilot.@@N@@Code
set_option linter.unusedVariables false
set_option linter.unusedSimpArgs false
namespace Jvm.RoadKit
open Sem ClassFile Op Lib Jvm.Stand Jvm.Free Jvm.LawKit
section New
variable {p : Program} {l : Launch} {e : Env} {R : Room} {s : State} {m : MethodId} {args : Array Value} {below : List Frame} {meth : Method} {c : Code} {T : State} {locs : List Loc} {cells slots : Nat}
theorem retI (X : Stand p l e R s m args below meth c T locs cells slots) (hx : p.tables.exec = Jvm.exec) {pc : Nat} {Ls : Array Slot} {z : Int32} {rest : List Value} (hret : meth.sig.returnType = some .int) (hd : decode c.code pc = .ok (.ireturn, 1)) {fs : List Frame}
    (hl : ∀ (f : JFrame) (acts : List Action), f.method = m → f.locked = none → f.entered = [] → (doReturn e (T.setTop f) acts (some (.int z))).1 = T.setFrames fs) : Steps p.tables e below (T.setTop (mkF m pc Ls (.int z :: rest))) (T.setFrames fs) := by
  have hm' : T.vm.method? m = some meth := X.method'
  have hn : narrow .int (.int z) = .int z := rfl
  show Steps p.tables e below (T.setTop { method := m, pc := pc, locals := Ls, stack := _ :: rest, locked := none }) _
  jvm_step X.here [X.here.top, hx, hd, hm', hret, hn]
  first | (intro acts; rw [hl _ acts rfl rfl rfl]) | rw [hl _ _ rfl rfl rfl]
  exact Steps.refl _
end New
end Jvm.RoadKit
namespace Jvm.Pilot.@@N@@
open Jvm Jvm.ClassFile Sem Op Lib Jvm.Free Jvm.Stand Jvm.LawKit Jvm.RoadKit Bundle Jvm.Pilot.@@N@@.Jvm.D
theorem own_retJ {p : Program} {l : Launch} {e : Env} {R : Room} {s : State} {m : MethodId} {args : Array Value} {below : List Frame} {meth : Method} {c : Code} {T : State} {locs : List Loc} {cells slots : Nat} (X : Stand p l e R s m args below meth c T locs cells slots) (hx : p.tables.exec = Jvm.exec) {pc : Nat} {Ls : Array Slot} {z : Int64} {rest : List Value} (hret : meth.sig.returnType = some .long) (hd : decode c.code pc = .ok (.lreturn, 1)) {fs : List Frame}
    (hl : ∀ (f : JFrame) (acts : List Action), f.method = m → f.locked = none → f.entered = [] → (doReturn e (T.setTop f) acts (some (.long z))).1 = T.setFrames fs) : Steps p.tables e below (T.setTop (mkF m pc Ls (.long z :: rest))) (T.setFrames fs) := by
  have hm' : T.vm.method? m = some meth := X.method'
  have hn : narrow .long (.long z) = .long z := rfl
  show Steps p.tables e below (T.setTop { method := m, pc := pc, locals := Ls, stack := _ :: rest, locked := none }) _
  jvm_step X.here [X.here.top, hx, hd, hm', hret, hn]
  first | (intro acts; rw [hl _ acts rfl rfl rfl]) | rw [hl _ _ rfl rfl rfl]
  exact Steps.refl _
theorem own_retD {p : Program} {l : Launch} {e : Env} {R : Room} {s : State} {m : MethodId} {args : Array Value} {below : List Frame} {meth : Method} {c : Code} {T : State} {locs : List Loc} {cells slots : Nat} (X : Stand p l e R s m args below meth c T locs cells slots) (hx : p.tables.exec = Jvm.exec) {pc : Nat} {Ls : Array Slot} {z : UInt64} {rest : List Value} (hret : meth.sig.returnType = some .double) (hd : decode c.code pc = .ok (.dreturn, 1)) {fs : List Frame}
    (hl : ∀ (f : JFrame) (acts : List Action), f.method = m → f.locked = none → f.entered = [] → (doReturn e (T.setTop f) acts (some (.double z))).1 = T.setFrames fs) : Steps p.tables e below (T.setTop (mkF m pc Ls (.double z :: rest))) (T.setFrames fs) := by
  have hm' : T.vm.method? m = some meth := X.method'
  have hn : narrow .double (.double z) = .double z := rfl
  show Steps p.tables e below (T.setTop { method := m, pc := pc, locals := Ls, stack := _ :: rest, locked := none }) _
  jvm_step X.here [X.here.top, hx, hd, hm', hret, hn]
  first | (intro acts; rw [hl _ acts rfl rfl rfl]) | rw [hl _ _ rfl rfl rfl]
  exact Steps.refl _
theorem own_sta_keep {Z : State} {h h' : Heap} {C n d : String} {v : Value} {ws : List Addr} (F : Sta Z h C n d v) (K : Keep h h' ws) (q : ∀ x ∈ ws, ∀ c : Cell, h[x]? = some c → c.vm.isStatics = false) : Sta Z h' C n d v := by
  obtain ⟨cf, i, k, f, st, cell, h1, h2, h3, h4, h5, h6, h7⟩ := F
  exact ⟨cf, i, k, f, st, cell, h1, h2, h3, h4, K.2.1 st cell h5 (fun z => by have := q st z cell h5; rw [h6] at this; cases this), h6, h7⟩
theorem own_ins_keep {Z : State} {h h' : Heap} {a : Addr} {C : String} {b : Bool} {ws : List Addr} (F : Ins Z h a C b) (K : Keep h h' ws) : Ins Z h' a C b := by
  obtain ⟨cell, cT, h1, h2, h3⟩ := F
  obtain ⟨c', e1, e2, e3, -⟩ := K.2.2 a cell h1
  exact ⟨c', cT, e1, h2, by rw [e2, e3]; exact h3⟩
theorem own_pl0 {h : Heap} : ∀ x ∈ ([] : List Addr), ∀ c : Cell, h[x]? = some c → c.vm.isStatics = false := fun _ q => nomatch q
theorem own_plS {h : Heap} {y : Addr} {L : List Addr} (q : ∀ c : Cell, h[y]? = some c → c.vm.isStatics = false) (r : ∀ x ∈ L, ∀ c : Cell, h[x]? = some c → c.vm.isStatics = false) : ∀ x ∈ y :: L, ∀ c : Cell, h[x]? = some c → c.vm.isStatics = false := fun x z => (List.mem_cons.mp z).elim (fun u => u ▸ q) (r x)
theorem own_pl_exa {Z : State} {h : Heap} {a : Addr} {C : String} (F : Exa Z h a C) : ∀ c : Cell, h[a]? = some c → c.vm.isStatics = false := fun c hc => by
  obtain ⟨cell, k, h1, -, -, h4, -⟩ := F; cases h1.symm.trans hc; exact h4
theorem own_pl_fld {Z : State} {h : Heap} {a : Addr} {C n d : String} {v : Value} (F : Fld Z h a C n d v) : ∀ c : Cell, h[a]? = some c → c.vm.isStatics = false := fun c hc => by
  obtain ⟨cell, cf, k, i, f, h1, -, -, -, h5, -⟩ := F; cases h1.symm.trans hc; exact h5
theorem own_pl_arv {Z : State} {h : Heap} {a : Addr} {k : ClassId} {ty : FieldType} {z : Int32} {vs : List Value} {d : Value} (F : Arv Z h a k ty z vs d) : ∀ c : Cell, h[a]? = some c → c.vm.isStatics = false := fun c hc => by
  obtain ⟨cl, A, -⟩ := F; cases A.1.symm.trans hc; exact A.plain
def own_e (c i t x : Int32) : Int32 := if i < t then (if x = (0 : Int32) then c + (0 : Int32) else c + (1 : Int32)) else c
def own_x (c i t x : Int32) : Int32 := if i < t then (if x = (0 : Int32) then c else c + (1 : Int32)) else c
theorem own_ex (c i t x y : Int32) (h : x = 0 ↔ y = 0) : own_e c i t x = own_x c i t y := by
  unfold own_e own_x
  by_cases h1 : i < t
  · rw [if_pos h1, if_pos h1]
    by_cases h2 : x = 0
    · rw [if_pos h2, if_pos (h.mp h2), Int32.add_zero]
    · rw [if_neg h2, if_neg (fun q => h2 (h.mpr q))]
  · rw [if_neg h1, if_neg h1]
theorem own_mono {i j t : Int32} (h : ¬ i < t) (q : i ≤ j) : ¬ j < t := by
  rw [Int32.lt_iff_toInt_lt] at h ⊢; rw [Int32.le_iff_toInt_le] at q; omega
theorem own_ii {x y : Int32} : x = y ↔ x.toInt = y.toInt := Int32.toInt_inj.symm
theorem own_bz (v : Int32) : nar .byte ((v &&& (255 : Int32)).toInt8.toInt32) = 0 ↔ (v &&& (255 : Int32)) = 0 := by
  have h1 := c_mask v 255 8 (by decide) (by decide)
  have h2 := c_i2b (v &&& 255)
  have h3 := c_i2b ((v &&& 255).toInt8.toInt32)
  have e : nar .byte ((v &&& (255 : Int32)).toInt8.toInt32) = ((v &&& 255).toInt8.toInt32).toInt8.toInt32 := rfl
  have z : (0 : Int32).toInt = 0 := rfl
  rw [e, own_ii, own_ii, z]; omega
theorem own_cz (v : Int32) : nar .char ((v &&& (65535 : Int32)).toUInt32.toUInt16.toUInt32.toInt32) = 0 ↔ (v &&& (65535 : Int32)) = 0 := by
  have h1 := c_mask v 65535 16 (by decide) (by decide)
  have h2 := c_i2c (v &&& 65535)
  have h3 := c_i2c ((v &&& 65535).toUInt32.toUInt16.toUInt32.toInt32)
  have e : nar .char ((v &&& (65535 : Int32)).toUInt32.toUInt16.toUInt32.toInt32) = ((v &&& 65535).toUInt32.toUInt16.toUInt32.toInt32).toUInt32.toUInt16.toUInt32.toInt32 := rfl
  have z : (0 : Int32).toInt = 0 := rfl
  rw [e, own_ii, own_ii, z]; omega
theorem own_small (r : Int32) : ¬ (255 : Int32) < (r &&& (255 : Int32)) := by
  have h1 := c_mask r 255 8 (by decide) (by decide)
  have z : (255 : Int32).toInt = 255 := rfl
  rw [Int32.lt_iff_toInt_lt, z]; omega
theorem own_big (w : Int32) : (255 : Int32) < ((256 : Int32) + (((w.toUInt32 >>> ((1 : Int32) &&& 31).toUInt32).toInt32) % (65280 : Int32))) ∧ ¬ (65535 : Int32) < ((256 : Int32) + (((w.toUInt32 >>> ((1 : Int32) &&& 31).toUInt32).toInt32) % (65280 : Int32))) := by
  have h1 := c_iushr w 1 1 (by decide) (by decide)
  generalize ((w.toUInt32 >>> ((1 : Int32) &&& 31).toUInt32).toInt32) = r at *
  have h2 := (c_irem r 65280 65280 rfl).1
  have r0 := rng32 r
  have h3 := c_iadd 256 (r % 65280)
  have r1 := rng32 (256 + (r % 65280))
  have z : (256 : Int32).toInt = 256 := rfl
  have z1 : (255 : Int32).toInt = 255 := rfl
  have z2 : (65535 : Int32).toInt = 65535 := rfl
  have rw0 := rng32 w
  simp only [Int32.lt_iff_toInt_lt, z1, z2]
  have h4 := h2 (by omega)
  omega
theorem own_t (x : Int32) : ¬ (3 : Int32) < ((x &&& (2147483647 : Int32)) % (4 : Int32)) := by
  have h1 := c_mask x 2147483647 31 (by decide) (by decide)
  have h2 := (c_irem (x &&& 2147483647) 4 4 rfl).1
  have h3 := h2 (by omega)
  have z1 : (3 : Int32).toInt = 3 := rfl
  rw [Int32.lt_iff_toInt_lt, z1]; omega
theorem d1_0 : decode prog_8_method_1_code 0 = .ok (.aload_n 0, 1) := by decide +kernel
theorem d1_1 : decode prog_8_method_1_code 1 = .ok (.invokespecial 1, 3) := by decide +kernel
theorem d1_4 : decode prog_8_method_1_code 4 = .ok (.aload_n 0, 1) := by decide +kernel
theorem d1_5 : decode prog_8_method_1_code 5 = .ok (.iload_n 2, 1) := by decide +kernel
theorem d1_6 : decode prog_8_method_1_code 6 = .ok (.sipush 255, 3) := by decide +kernel
theorem d1_9 : decode prog_8_method_1_code 9 = .ok (.if_icmp .gt 9, 3) := by decide +kernel
theorem d1_12 : decode prog_8_method_1_code 12 = .ok (.iload_n 1, 1) := by decide +kernel
theorem d1_13 : decode prog_8_method_1_code 13 = .ok (.newarray .byte, 2) := by decide +kernel
theorem d1_15 : decode prog_8_method_1_code 15 = .ok (.goto 4, 3) := by decide +kernel
theorem d1_19 : decode prog_8_method_1_code 19 = .ok (.putfield 9, 3) := by decide +kernel
theorem d1_22 : decode prog_8_method_1_code 22 = .ok (.aload_n 0, 1) := by decide +kernel
theorem d1_23 : decode prog_8_method_1_code 23 = .ok (.iload_n 2, 1) := by decide +kernel
theorem d1_24 : decode prog_8_method_1_code 24 = .ok (.sipush 255, 3) := by decide +kernel
theorem d1_27 : decode prog_8_method_1_code 27 = .ok (.if_icmp .le 15, 3) := by decide +kernel
theorem d1_42 : decode prog_8_method_1_code 42 = .ok (.aconst_null, 1) := by decide +kernel
theorem d1_43 : decode prog_8_method_1_code 43 = .ok (.putfield 14, 3) := by decide +kernel
theorem d1_46 : decode prog_8_method_1_code 46 = .ok (.aload_n 0, 1) := by decide +kernel
theorem d1_47 : decode prog_8_method_1_code 47 = .ok (.iload_n 2, 1) := by decide +kernel
theorem d1_48 : decode prog_8_method_1_code 48 = .ok (.ldc 13, 2) := by decide +kernel
theorem d1_50 : decode prog_8_method_1_code 50 = .ok (.if_icmp .le 9, 3) := by decide +kernel
theorem d1_59 : decode prog_8_method_1_code 59 = .ok (.aconst_null, 1) := by decide +kernel
theorem d1_60 : decode prog_8_method_1_code 60 = .ok (.putfield 18, 3) := by decide +kernel
theorem d1_63 : decode prog_8_method_1_code 63 = .ok (.return_, 1) := by decide +kernel
theorem pn_com_example_plain_ranker_plainranker_data_BinArray : plainName "com/example/plain_ranker/plainranker/data/BinArray" = true := by first | (simp [plainName, overriddenIn]; done) | decide +kernel
theorem ef_1n (m : MethodId) (a1 : Addr) (p3 : Int32) : entryFrame m #[(.ref a1), (.int (3 : Int32)), (.int p3)] 3 = mkF m 0 #[.val (.ref a1), .val (.int (3 : Int32)), .val (.int p3)] [] := by first | (simp [entryFrame, mkF, argsToLocals, Value.category]; done) | rfl
def Q1n (Z : State) (a1 : Addr) (p3 : Int32) (u1 : Value) (u2 : Value) (u3 : Value) (h0 : Heap) (n0 : Nat) (v : Option Value) (h : Heap) (L : List Loc) : Prop := ∃ (bb : Addr) (bk : ClassId), v = none ∧ Fr n0 L ∧ Keep h0 h [a1] ∧ Fld Z h a1 "com/example/plain_ranker/plainranker/data/BinArray" "bytes" "[B" (.ref bb) ∧ Fld Z h a1 "com/example/plain_ranker/plainranker/data/BinArray" "chars" "[C" .null ∧ Fld Z h a1 "com/example/plain_ranker/plainranker/data/BinArray" "ints" "[I" .null ∧ h0.size ≤ bb ∧ Arv Z h bb bk .byte (3 : Int32) [(.int (0 : Int32)), (.int (0 : Int32)), (.int (0 : Int32))] (.int (0 : Int32))
set_option maxRecDepth 65536 in
set_option maxHeartbeats 40000000 in
theorem rm1n (l : Launch) (Z : State) (a0 : Array Value) (hw : ∀ d ∈ tables_1, d.before a0 Z = true) (ws : List Jvm.Cond) (a1 : Addr) (p3 : Int32) (u1 : Value) (u2 : Value) (u3 : Value) (h0 : Heap) (n0 : Nat) (Z0 : n0 ≤ h0.size) (H0 : Exa Z h0 a1 "com/example/plain_ranker/plainranker/data/BinArray") (H1 : Fld Z h0 a1 "com/example/plain_ranker/plainranker/data/BinArray" "bytes" "[B" u1) (H2 : Fld Z h0 a1 "com/example/plain_ranker/plainranker/data/BinArray" "chars" "[C" u2) (H3 : Fld Z h0 a1 "com/example/plain_ranker/plainranker/data/BinArray" "ints" "[I" u3) (H4 : n0 ≤ a1) (H5 : ¬ ((255 : Int32) < p3)) :
    MetFree l (⟨"com/example/plain_ranker/plainranker/data/BinArray", "<init>", "(II)V"⟩ : MethodName) (head1 (Jvm.Cond.code (⟨"com/example/plain_ranker/plainranker/data/BinArray", "<init>", "(II)V"⟩ : MethodName) prog_8_method_1_code 3 none :: ws) ({ frames := 1, cells := 1, slots := 3, locals := 12 } : Room)) (fun a U => a = #[(.ref a1), (.int (3 : Int32)), (.int p3)] ∧ Z.Warmed39 U.vm ∧ U.heap = h0) (fun _ _ _ _ _ => True) (fun _ U o U' => ∃ v L, o = .returned v ∧ Q1n Z a1 p3 u1 u2 u3 h0 n0 v U'.heap L ∧ FrameEnd U o U' L ({ frames := 1, cells := 1, slots := 3, locals := 12 } : Room).cells ({ frames := 1, cells := 1, slots := 3, locals := 12 } : Room).slots) := by
  refine MetFree.of_bodySF (plainFor_of_name pn_com_example_plain_ranker_plainranker_data_BinArray) hisR ?_
  intro p e s m args below meth c s₁ Bd hml0 hP hK
  obtain ⟨rfl, hZ, hh⟩ := hP
  have hx := Bd.exec
  have hby := Bd.bytes
  have hml : c.maxLocals = 3 := hml0
  have hown : s.vm.findClass "com/example/plain_ranker/plainranker/data/BinArray" = some m.cls := findClass_of_methodNamed Bd.named
  have hnm := (name_of_methodNamed Bd.named Bd.method).1
  have X0 : Stand p l e ({ frames := 1, cells := 1, slots := 3, locals := 12 } : Room) s m #[(.ref a1), (.int (3 : Int32)), (.int p3)] below meth c s₁ [] 0 0 := Stand.of_body Bd
  have e0 : s₁.heap = h0 := by rw [← hh, Bd.state]; rfl
  have N0 := Fr.nil n0
  have pre0 : ∀ t, Steps p.tables e below (s₁.setTop (mkF m 0 #[.val (.ref a1), .val (.int (3 : Int32)), .val (.int p3)] [])) t → Steps p.tables e below (s₁.setTop (entryFrame m #[(.ref a1), (.int (3 : Int32)), (.int p3)] 3)) t := fun t k => castTop (ef_1n m a1 p3) k
  obtain ⟨T101, X101, e101, st101⟩ := initO X0 hx hZ hown (hw _ (List.mem_of_getElem? (i := 10) rfl)) (hw _ (List.mem_of_getElem? (i := 11) rfl)) (hw _ (List.mem_of_getElem? (i := 12) rfl)) e0 (g := (mkF m 1 #[.val (.ref a1), .val (.int (3 : Int32)), .val (.int p3)] [(.ref a1)])) rfl (by rw [hml]; rfl) rfl (hb hby d1_1) (by decide) (W := 0) (by show 2 * 0 + _ ≤ _; exact Nat.le_of_eq rfl) (by decide)
  obtain ⟨T102, h102, k102, X102, e102, E102, A102, Qe102, st102⟩ := newPE X101 hx hZ (hw _ (List.mem_of_getElem? (i := 35) rfl)) e101 (g := (mkF m 13 #[.val (.ref a1), .val (.int (3 : Int32)), .val (.int p3)] [(.int (3 : Int32)), (.ref a1)])) rfl (hb hby d1_13) rfl (by decide) (cap := 3) (by decide) (by decide) (by decide) (by decide) (ad := "[B") (by decide)
  obtain ⟨b102, g102⟩ : ∃ z, z = h0.size := ⟨_, rfl⟩
  rw [← g102] at A102 Qe102 st102
  have V102 : Arv Z h102 b102 k102 .byte (3 : Int32) [(.int (0 : Int32)), (.int (0 : Int32)), (.int (0 : Int32))] (.int (0 : Int32)) := (Arv.new A102 (by decide)).pad (pad_rep [] (.int (0 : Int32)) 3)
  have f103 : Fld Z h102 a1 "com/example/plain_ranker/plainranker/data/BinArray" "bytes" "[B" u1 := (H1.ext E102)
  have f104 : Exa Z h102 a1 "com/example/plain_ranker/plainranker/data/BinArray" := (H0.ext E102)
  obtain ⟨T105, h105, X105, e105, W105, st105⟩ := putF X102 hx hZ hown (host := "") (Or.inl (hw _ (List.mem_of_getElem? (i := 13) rfl))) Via.refl e102 f103 f104 (Or.inr ⟨(hw _ (List.mem_of_getElem? (i := 14) rfl)), rfl, hnm⟩) (hw _ (List.mem_of_getElem? (i := 5) rfl)) (ty := (.array .byte)) (by decide) rfl rfl (g := (mkF m 19 #[.val (.ref a1), .val (.int (3 : Int32)), .val (.int p3)] [(.ref b102), (.ref a1)])) rfl rfl (hb hby d1_19)
  have Fw105 := f103.same W105
  have N105 := Fr.snoc X105 N0 H4
  have f106 : Fld Z h105 a1 "com/example/plain_ranker/plainranker/data/BinArray" "chars" "[C" u2 := ((H2.ext E102).other W105 (Or.inr (slot_ne (Or.inr (hw _ (List.mem_of_getElem? (i := 18) rfl))) (Or.inr (hw _ (List.mem_of_getElem? (i := 14) rfl))) (by decide) (t := (.array .char)) (t' := (.array .byte)) (by decide) (by decide))))
  have f107 : Exa Z h105 a1 "com/example/plain_ranker/plainranker/data/BinArray" := (f104.wr W105)
  obtain ⟨T108, h108, X108, e108, W108, st108⟩ := putF X105 hx hZ hown (host := "") (Or.inl (hw _ (List.mem_of_getElem? (i := 17) rfl))) Via.refl e105 f106 f107 (Or.inr ⟨(hw _ (List.mem_of_getElem? (i := 18) rfl)), rfl, hnm⟩) (hw _ (List.mem_of_getElem? (i := 5) rfl)) (ty := (.array .char)) (by decide) rfl rfl (g := (mkF m 43 #[.val (.ref a1), .val (.int (3 : Int32)), .val (.int p3)] [.null, (.ref a1)])) rfl rfl (hb hby d1_43)
  have Fw108 := f106.same W108
  have N108 := Fr.snoc X108 N105 H4
  have f109 : Fld Z h108 a1 "com/example/plain_ranker/plainranker/data/BinArray" "ints" "[I" u3 := (((H3.ext E102).other W105 (Or.inr (slot_ne (Or.inr (hw _ (List.mem_of_getElem? (i := 20) rfl))) (Or.inr (hw _ (List.mem_of_getElem? (i := 14) rfl))) (by decide) (t := (.array .int)) (t' := (.array .byte)) (by decide) (by decide)))).other W108 (Or.inr (slot_ne (Or.inr (hw _ (List.mem_of_getElem? (i := 20) rfl))) (Or.inr (hw _ (List.mem_of_getElem? (i := 18) rfl))) (by decide) (t := (.array .int)) (t' := (.array .char)) (by decide) (by decide))))
  have f110 : Exa Z h108 a1 "com/example/plain_ranker/plainranker/data/BinArray" := (f107.wr W108)
  obtain ⟨T111, h111, X111, e111, W111, st111⟩ := putF X108 hx hZ hown (host := "") (Or.inl (hw _ (List.mem_of_getElem? (i := 19) rfl))) Via.refl e108 f109 f110 (Or.inr ⟨(hw _ (List.mem_of_getElem? (i := 20) rfl)), rfl, hnm⟩) (hw _ (List.mem_of_getElem? (i := 5) rfl)) (ty := (.array .int)) (by decide) rfl rfl (g := (mkF m 60 #[.val (.ref a1), .val (.int (3 : Int32)), .val (.int p3)] [.null, (.ref a1)])) rfl rfl (hb hby d1_60)
  have Fw111 := f109.same W111
  have N111 := Fr.snoc X111 N108 H4
  have f112 : Fld Z h111 a1 "com/example/plain_ranker/plainranker/data/BinArray" "bytes" "[B" (.ref b102) := ((Fw105.other W108 (Or.inr (slot_ne (Or.inr (hw _ (List.mem_of_getElem? (i := 14) rfl))) (Or.inr (hw _ (List.mem_of_getElem? (i := 18) rfl))) (by decide) (t := (.array .byte)) (t' := (.array .char)) (by decide) (by decide)))).other W111 (Or.inr (slot_ne (Or.inr (hw _ (List.mem_of_getElem? (i := 14) rfl))) (Or.inr (hw _ (List.mem_of_getElem? (i := 20) rfl))) (by decide) (t := (.array .byte)) (t' := (.array .int)) (by decide) (by decide))))
  have f113 : Fld Z h111 a1 "com/example/plain_ranker/plainranker/data/BinArray" "chars" "[C" .null := (Fw108.other W111 (Or.inr (slot_ne (Or.inr (hw _ (List.mem_of_getElem? (i := 18) rfl))) (Or.inr (hw _ (List.mem_of_getElem? (i := 20) rfl))) (by decide) (t := (.array .char)) (t' := (.array .int)) (by decide) (by decide))))
  have ne114 : a1 ≠ b102 := (Nat.ne_of_lt (Nat.lt_of_lt_of_le H0.lt (Nat.le_of_eq g102.symm)))
  have f115 : Arv Z h111 b102 k102 .byte (3 : Int32) [(.int (0 : Int32)), (.int (0 : Int32)), (.int (0 : Int32))] (.int (0 : Int32)) := (((V102.other W105 (Ne.symm ne114)).other W108 (Ne.symm ne114)).other W111 (Ne.symm ne114))
  obtain ⟨fs, hr, hrun, hended, hW, hsame⟩ := X111.leave (v := none) (fun _ => rfl)
  refine ⟨_, _, pre0 _ ?_, hrun, hended, _, _, rfl, ?_, ⟨_, rfl⟩, hW, hsame.mono (by decide) (by decide)⟩
  · skip
    show Steps p.tables e below (s₁.setTop (mkF m 0 #[.val (.ref a1), .val (.int (3 : Int32)), .val (.int p3)] [])) _
    refine XS.aloadN X0.here hx rfl (hb hby d1_0) rfl rfl ?_
    show Steps p.tables e below (s₁.setTop (mkF m 1 #[.val (.ref a1), .val (.int (3 : Int32)), .val (.int p3)] [(.ref a1)])) _
    refine st101 _ ?_
    show Steps p.tables e below (T101.setTop (mkF m 4 #[.val (.ref a1), .val (.int (3 : Int32)), .val (.int p3)] [])) _
    refine XS.aloadN X101.here hx rfl (hb hby d1_4) rfl rfl ?_
    show Steps p.tables e below (T101.setTop (mkF m 5 #[.val (.ref a1), .val (.int (3 : Int32)), .val (.int p3)] [(.ref a1)])) _
    refine XS.iloadN X101.here hx rfl (hb hby d1_5) rfl ?_
    show Steps p.tables e below (T101.setTop (mkF m 6 #[.val (.ref a1), .val (.int (3 : Int32)), .val (.int p3)] [(.int p3), (.ref a1)])) _
    refine XS.sipush X101.here hx rfl (hb hby d1_6) ?_
    show Steps p.tables e below (T101.setTop (mkF m 9 #[.val (.ref a1), .val (.int (3 : Int32)), .val (.int p3)] [(.int (255 : Int32)), (.int p3), (.ref a1)])) _
    refine XS.icmpNo X101.here hx rfl (hb hby d1_9) rfl (flt (H5 : ¬ ((255 : Int32) < p3))).2.2.1 ?_
    show Steps p.tables e below (T101.setTop (mkF m 12 #[.val (.ref a1), .val (.int (3 : Int32)), .val (.int p3)] [(.ref a1)])) _
    refine XS.iloadN X101.here hx rfl (hb hby d1_12) rfl ?_
    show Steps p.tables e below (T101.setTop (mkF m 13 #[.val (.ref a1), .val (.int (3 : Int32)), .val (.int p3)] [(.int (3 : Int32)), (.ref a1)])) _
    refine st102 _ ?_
    show Steps p.tables e below (T102.setTop (mkF m 15 #[.val (.ref a1), .val (.int (3 : Int32)), .val (.int p3)] [(.ref b102), (.ref a1)])) _
    refine XS.goto X102.here hx rfl (pc0 := 15) (pc' := 19) rfl (hb hby d1_15) (by decide) (by decide) ?_
    show Steps p.tables e below (T102.setTop (mkF m 19 #[.val (.ref a1), .val (.int (3 : Int32)), .val (.int p3)] [(.ref b102), (.ref a1)])) _
    refine st105 _ ?_
    show Steps p.tables e below (T105.setTop (mkF m 22 #[.val (.ref a1), .val (.int (3 : Int32)), .val (.int p3)] [])) _
    refine XS.aloadN X105.here hx rfl (hb hby d1_22) rfl rfl ?_
    show Steps p.tables e below (T105.setTop (mkF m 23 #[.val (.ref a1), .val (.int (3 : Int32)), .val (.int p3)] [(.ref a1)])) _
    refine XS.iloadN X105.here hx rfl (hb hby d1_23) rfl ?_
    show Steps p.tables e below (T105.setTop (mkF m 24 #[.val (.ref a1), .val (.int (3 : Int32)), .val (.int p3)] [(.int p3), (.ref a1)])) _
    refine XS.sipush X105.here hx rfl (hb hby d1_24) ?_
    show Steps p.tables e below (T105.setTop (mkF m 27 #[.val (.ref a1), .val (.int (3 : Int32)), .val (.int p3)] [(.int (255 : Int32)), (.int p3), (.ref a1)])) _
    refine XS.icmpYes X105.here hx rfl (pc0 := 27) (pc' := 42) rfl (hb hby d1_27) rfl (flt (H5 : ¬ ((255 : Int32) < p3))).2.2.2 (by decide) (by decide) ?_
    show Steps p.tables e below (T105.setTop (mkF m 42 #[.val (.ref a1), .val (.int (3 : Int32)), .val (.int p3)] [(.ref a1)])) _
    refine XS.aconstNull X105.here hx rfl (hb hby d1_42) ?_
    show Steps p.tables e below (T105.setTop (mkF m 43 #[.val (.ref a1), .val (.int (3 : Int32)), .val (.int p3)] [.null, (.ref a1)])) _
    refine st108 _ ?_
    show Steps p.tables e below (T108.setTop (mkF m 46 #[.val (.ref a1), .val (.int (3 : Int32)), .val (.int p3)] [])) _
    refine XS.aloadN X108.here hx rfl (hb hby d1_46) rfl rfl ?_
    show Steps p.tables e below (T108.setTop (mkF m 47 #[.val (.ref a1), .val (.int (3 : Int32)), .val (.int p3)] [(.ref a1)])) _
    refine XS.iloadN X108.here hx rfl (hb hby d1_47) rfl ?_
    show Steps p.tables e below (T108.setTop (mkF m 48 #[.val (.ref a1), .val (.int (3 : Int32)), .val (.int p3)] [(.int p3), (.ref a1)])) _
    refine X108.ldcInt hx hown (mvT hZ (hw _ (List.mem_of_getElem? (i := 15) rfl))) (g := (mkF m 48 #[.val (.ref a1), .val (.int (3 : Int32)), .val (.int p3)] [(.int p3), (.ref a1)])) rfl (hb hby d1_48) _ ?_
    show Steps p.tables e below (T108.setTop (mkF m 50 #[.val (.ref a1), .val (.int (3 : Int32)), .val (.int p3)] [(.int (65535 : Int32)), (.int p3), (.ref a1)])) _
    refine XS.icmpYes X108.here hx rfl (pc0 := 50) (pc' := 59) rfl (hb hby d1_50) rfl (flt (fun q => H5 (Int32.lt_trans (by decide) q) : ¬ ((65535 : Int32) < p3))).2.2.2 (by decide) (by decide) ?_
    show Steps p.tables e below (T108.setTop (mkF m 59 #[.val (.ref a1), .val (.int (3 : Int32)), .val (.int p3)] [(.ref a1)])) _
    refine XS.aconstNull X108.here hx rfl (hb hby d1_59) ?_
    show Steps p.tables e below (T108.setTop (mkF m 60 #[.val (.ref a1), .val (.int (3 : Int32)), .val (.int p3)] [.null, (.ref a1)])) _
    refine st111 _ ?_
    show Steps p.tables e below (T111.setTop (mkF m 63 #[.val (.ref a1), .val (.int (3 : Int32)), .val (.int p3)] [])) _
    exact X111.returnOut hx Bd.returns (hb hby d1_63) hr
  · show Q1n Z a1 p3 u1 u2 u3 h0 n0 _ T111.heap _
    rw [e111]
    exact ⟨b102, k102, rfl, N111, (((((Keep.refl h0 [a1]).ext E102).wr W105 (Or.inl (List.mem_of_getElem? (i := 0) rfl))).wr W108 (Or.inl (List.mem_of_getElem? (i := 0) rfl))).wr W111 (Or.inl (List.mem_of_getElem? (i := 0) rfl))), f112, f113, Fw111, (Nat.le_trans (Nat.le_refl _) (Nat.le_of_eq g102.symm)), f115⟩
theorem d1_18 : decode prog_8_method_1_code 18 = .ok (.aconst_null, 1) := by decide +kernel
theorem d1_30 : decode prog_8_method_1_code 30 = .ok (.iload_n 2, 1) := by decide +kernel
theorem d1_31 : decode prog_8_method_1_code 31 = .ok (.ldc 13, 2) := by decide +kernel
theorem d1_33 : decode prog_8_method_1_code 33 = .ok (.if_icmp .gt 9, 3) := by decide +kernel
theorem d1_36 : decode prog_8_method_1_code 36 = .ok (.iload_n 1, 1) := by decide +kernel
theorem d1_37 : decode prog_8_method_1_code 37 = .ok (.newarray .char, 2) := by decide +kernel
theorem d1_39 : decode prog_8_method_1_code 39 = .ok (.goto 4, 3) := by decide +kernel
theorem ef_1w (m : MethodId) (a1 : Addr) (p3 : Int32) : entryFrame m #[(.ref a1), (.int (3 : Int32)), (.int p3)] 3 = mkF m 0 #[.val (.ref a1), .val (.int (3 : Int32)), .val (.int p3)] [] := by first | (simp [entryFrame, mkF, argsToLocals, Value.category]; done) | rfl
def Q1w (Z : State) (a1 : Addr) (p3 : Int32) (u1 : Value) (u2 : Value) (u3 : Value) (h0 : Heap) (n0 : Nat) (v : Option Value) (h : Heap) (L : List Loc) : Prop := ∃ (bb : Addr) (bk : ClassId), v = none ∧ Fr n0 L ∧ Keep h0 h [a1] ∧ Fld Z h a1 "com/example/plain_ranker/plainranker/data/BinArray" "bytes" "[B" .null ∧ Fld Z h a1 "com/example/plain_ranker/plainranker/data/BinArray" "chars" "[C" (.ref bb) ∧ Fld Z h a1 "com/example/plain_ranker/plainranker/data/BinArray" "ints" "[I" .null ∧ h0.size ≤ bb ∧ Arv Z h bb bk .char (3 : Int32) [(.int (0 : Int32)), (.int (0 : Int32)), (.int (0 : Int32))] (.int (0 : Int32))
set_option maxRecDepth 65536 in
set_option maxHeartbeats 40000000 in
theorem rm1w (l : Launch) (Z : State) (a0 : Array Value) (hw : ∀ d ∈ tables_1, d.before a0 Z = true) (ws : List Jvm.Cond) (a1 : Addr) (p3 : Int32) (u1 : Value) (u2 : Value) (u3 : Value) (h0 : Heap) (n0 : Nat) (Z0 : n0 ≤ h0.size) (H0 : Exa Z h0 a1 "com/example/plain_ranker/plainranker/data/BinArray") (H1 : Fld Z h0 a1 "com/example/plain_ranker/plainranker/data/BinArray" "bytes" "[B" u1) (H2 : Fld Z h0 a1 "com/example/plain_ranker/plainranker/data/BinArray" "chars" "[C" u2) (H3 : Fld Z h0 a1 "com/example/plain_ranker/plainranker/data/BinArray" "ints" "[I" u3) (H4 : n0 ≤ a1) (H5 : (255 : Int32) < p3) (H6 : ¬ ((65535 : Int32) < p3)) :
    MetFree l (⟨"com/example/plain_ranker/plainranker/data/BinArray", "<init>", "(II)V"⟩ : MethodName) (head1 (Jvm.Cond.code (⟨"com/example/plain_ranker/plainranker/data/BinArray", "<init>", "(II)V"⟩ : MethodName) prog_8_method_1_code 3 none :: ws) ({ frames := 1, cells := 1, slots := 3, locals := 12 } : Room)) (fun a U => a = #[(.ref a1), (.int (3 : Int32)), (.int p3)] ∧ Z.Warmed39 U.vm ∧ U.heap = h0) (fun _ _ _ _ _ => True) (fun _ U o U' => ∃ v L, o = .returned v ∧ Q1w Z a1 p3 u1 u2 u3 h0 n0 v U'.heap L ∧ FrameEnd U o U' L ({ frames := 1, cells := 1, slots := 3, locals := 12 } : Room).cells ({ frames := 1, cells := 1, slots := 3, locals := 12 } : Room).slots) := by
  refine MetFree.of_bodySF (plainFor_of_name pn_com_example_plain_ranker_plainranker_data_BinArray) hisR ?_
  intro p e s m args below meth c s₁ Bd hml0 hP hK
  obtain ⟨rfl, hZ, hh⟩ := hP
  have hx := Bd.exec
  have hby := Bd.bytes
  have hml : c.maxLocals = 3 := hml0
  have hown : s.vm.findClass "com/example/plain_ranker/plainranker/data/BinArray" = some m.cls := findClass_of_methodNamed Bd.named
  have hnm := (name_of_methodNamed Bd.named Bd.method).1
  have X0 : Stand p l e ({ frames := 1, cells := 1, slots := 3, locals := 12 } : Room) s m #[(.ref a1), (.int (3 : Int32)), (.int p3)] below meth c s₁ [] 0 0 := Stand.of_body Bd
  have e0 : s₁.heap = h0 := by rw [← hh, Bd.state]; rfl
  have N0 := Fr.nil n0
  have pre0 : ∀ t, Steps p.tables e below (s₁.setTop (mkF m 0 #[.val (.ref a1), .val (.int (3 : Int32)), .val (.int p3)] [])) t → Steps p.tables e below (s₁.setTop (entryFrame m #[(.ref a1), (.int (3 : Int32)), (.int p3)] 3)) t := fun t k => castTop (ef_1w m a1 p3) k
  obtain ⟨T101, X101, e101, st101⟩ := initO X0 hx hZ hown (hw _ (List.mem_of_getElem? (i := 10) rfl)) (hw _ (List.mem_of_getElem? (i := 11) rfl)) (hw _ (List.mem_of_getElem? (i := 12) rfl)) e0 (g := (mkF m 1 #[.val (.ref a1), .val (.int (3 : Int32)), .val (.int p3)] [(.ref a1)])) rfl (by rw [hml]; rfl) rfl (hb hby d1_1) (by decide) (W := 0) (by show 2 * 0 + _ ≤ _; exact Nat.le_of_eq rfl) (by decide)
  obtain ⟨T102, h102, X102, e102, W102, st102⟩ := putF X101 hx hZ hown (host := "") (Or.inl (hw _ (List.mem_of_getElem? (i := 13) rfl))) Via.refl e101 H1 H0 (Or.inr ⟨(hw _ (List.mem_of_getElem? (i := 14) rfl)), rfl, hnm⟩) (hw _ (List.mem_of_getElem? (i := 5) rfl)) (ty := (.array .byte)) (by decide) rfl rfl (g := (mkF m 19 #[.val (.ref a1), .val (.int (3 : Int32)), .val (.int p3)] [.null, (.ref a1)])) rfl rfl (hb hby d1_19)
  have Fw102 := H1.same W102
  have N102 := Fr.snoc X102 N0 H4
  obtain ⟨T103, h103, k103, X103, e103, E103, A103, Qe103, st103⟩ := newPE X102 hx hZ (hw _ (List.mem_of_getElem? (i := 16) rfl)) e102 (g := (mkF m 37 #[.val (.ref a1), .val (.int (3 : Int32)), .val (.int p3)] [(.int (3 : Int32)), (.ref a1)])) rfl (hb hby d1_37) rfl (by decide) (cap := 3) (by decide) (by decide) (by decide) (by decide) (ad := "[C") (by decide)
  obtain ⟨b103, g103⟩ : ∃ z, z = h102.size := ⟨_, rfl⟩
  rw [← g103] at A103 Qe103 st103
  have V103 : Arv Z h103 b103 k103 .char (3 : Int32) [(.int (0 : Int32)), (.int (0 : Int32)), (.int (0 : Int32))] (.int (0 : Int32)) := (Arv.new A103 (by decide)).pad (pad_rep [] (.int (0 : Int32)) 3)
  have f104 : Fld Z h103 a1 "com/example/plain_ranker/plainranker/data/BinArray" "chars" "[C" u2 := ((H2.other W102 (Or.inr (slot_ne (Or.inr (hw _ (List.mem_of_getElem? (i := 18) rfl))) (Or.inr (hw _ (List.mem_of_getElem? (i := 14) rfl))) (by decide) (t := (.array .char)) (t' := (.array .byte)) (by decide) (by decide)))).ext E103)
  have f105 : Exa Z h103 a1 "com/example/plain_ranker/plainranker/data/BinArray" := ((H0.wr W102).ext E103)
  obtain ⟨T106, h106, X106, e106, W106, st106⟩ := putF X103 hx hZ hown (host := "") (Or.inl (hw _ (List.mem_of_getElem? (i := 17) rfl))) Via.refl e103 f104 f105 (Or.inr ⟨(hw _ (List.mem_of_getElem? (i := 18) rfl)), rfl, hnm⟩) (hw _ (List.mem_of_getElem? (i := 5) rfl)) (ty := (.array .char)) (by decide) rfl rfl (g := (mkF m 43 #[.val (.ref a1), .val (.int (3 : Int32)), .val (.int p3)] [(.ref b103), (.ref a1)])) rfl rfl (hb hby d1_43)
  have Fw106 := f104.same W106
  have N106 := Fr.snoc X106 N102 H4
  have f107 : Fld Z h106 a1 "com/example/plain_ranker/plainranker/data/BinArray" "ints" "[I" u3 := (((H3.other W102 (Or.inr (slot_ne (Or.inr (hw _ (List.mem_of_getElem? (i := 20) rfl))) (Or.inr (hw _ (List.mem_of_getElem? (i := 14) rfl))) (by decide) (t := (.array .int)) (t' := (.array .byte)) (by decide) (by decide)))).ext E103).other W106 (Or.inr (slot_ne (Or.inr (hw _ (List.mem_of_getElem? (i := 20) rfl))) (Or.inr (hw _ (List.mem_of_getElem? (i := 18) rfl))) (by decide) (t := (.array .int)) (t' := (.array .char)) (by decide) (by decide))))
  have f108 : Exa Z h106 a1 "com/example/plain_ranker/plainranker/data/BinArray" := (f105.wr W106)
  obtain ⟨T109, h109, X109, e109, W109, st109⟩ := putF X106 hx hZ hown (host := "") (Or.inl (hw _ (List.mem_of_getElem? (i := 19) rfl))) Via.refl e106 f107 f108 (Or.inr ⟨(hw _ (List.mem_of_getElem? (i := 20) rfl)), rfl, hnm⟩) (hw _ (List.mem_of_getElem? (i := 5) rfl)) (ty := (.array .int)) (by decide) rfl rfl (g := (mkF m 60 #[.val (.ref a1), .val (.int (3 : Int32)), .val (.int p3)] [.null, (.ref a1)])) rfl rfl (hb hby d1_60)
  have Fw109 := f107.same W109
  have N109 := Fr.snoc X109 N106 H4
  have f110 : Fld Z h109 a1 "com/example/plain_ranker/plainranker/data/BinArray" "bytes" "[B" .null := (((Fw102.ext E103).other W106 (Or.inr (slot_ne (Or.inr (hw _ (List.mem_of_getElem? (i := 14) rfl))) (Or.inr (hw _ (List.mem_of_getElem? (i := 18) rfl))) (by decide) (t := (.array .byte)) (t' := (.array .char)) (by decide) (by decide)))).other W109 (Or.inr (slot_ne (Or.inr (hw _ (List.mem_of_getElem? (i := 14) rfl))) (Or.inr (hw _ (List.mem_of_getElem? (i := 20) rfl))) (by decide) (t := (.array .byte)) (t' := (.array .int)) (by decide) (by decide))))
  have f111 : Fld Z h109 a1 "com/example/plain_ranker/plainranker/data/BinArray" "chars" "[C" (.ref b103) := (Fw106.other W109 (Or.inr (slot_ne (Or.inr (hw _ (List.mem_of_getElem? (i := 18) rfl))) (Or.inr (hw _ (List.mem_of_getElem? (i := 20) rfl))) (by decide) (t := (.array .char)) (t' := (.array .int)) (by decide) (by decide))))
  have ne112 : a1 ≠ b103 := (Nat.ne_of_lt (Nat.lt_of_lt_of_le (H0.wr W102).lt (Nat.le_of_eq g103.symm)))
  have f113 : Arv Z h109 b103 k103 .char (3 : Int32) [(.int (0 : Int32)), (.int (0 : Int32)), (.int (0 : Int32))] (.int (0 : Int32)) := ((V103.other W106 (Ne.symm ne112)).other W109 (Ne.symm ne112))
  obtain ⟨fs, hr, hrun, hended, hW, hsame⟩ := X109.leave (v := none) (fun _ => rfl)
  refine ⟨_, _, pre0 _ ?_, hrun, hended, _, _, rfl, ?_, ⟨_, rfl⟩, hW, hsame.mono (by decide) (by decide)⟩
  · skip
    show Steps p.tables e below (s₁.setTop (mkF m 0 #[.val (.ref a1), .val (.int (3 : Int32)), .val (.int p3)] [])) _
    refine XS.aloadN X0.here hx rfl (hb hby d1_0) rfl rfl ?_
    show Steps p.tables e below (s₁.setTop (mkF m 1 #[.val (.ref a1), .val (.int (3 : Int32)), .val (.int p3)] [(.ref a1)])) _
    refine st101 _ ?_
    show Steps p.tables e below (T101.setTop (mkF m 4 #[.val (.ref a1), .val (.int (3 : Int32)), .val (.int p3)] [])) _
    refine XS.aloadN X101.here hx rfl (hb hby d1_4) rfl rfl ?_
    show Steps p.tables e below (T101.setTop (mkF m 5 #[.val (.ref a1), .val (.int (3 : Int32)), .val (.int p3)] [(.ref a1)])) _
    refine XS.iloadN X101.here hx rfl (hb hby d1_5) rfl ?_
    show Steps p.tables e below (T101.setTop (mkF m 6 #[.val (.ref a1), .val (.int (3 : Int32)), .val (.int p3)] [(.int p3), (.ref a1)])) _
    refine XS.sipush X101.here hx rfl (hb hby d1_6) ?_
    show Steps p.tables e below (T101.setTop (mkF m 9 #[.val (.ref a1), .val (.int (3 : Int32)), .val (.int p3)] [(.int (255 : Int32)), (.int p3), (.ref a1)])) _
    refine XS.icmpYes X101.here hx rfl (pc0 := 9) (pc' := 18) rfl (hb hby d1_9) rfl (tlt (H5 : (255 : Int32) < p3)).2.2.1 (by decide) (by decide) ?_
    show Steps p.tables e below (T101.setTop (mkF m 18 #[.val (.ref a1), .val (.int (3 : Int32)), .val (.int p3)] [(.ref a1)])) _
    refine XS.aconstNull X101.here hx rfl (hb hby d1_18) ?_
    show Steps p.tables e below (T101.setTop (mkF m 19 #[.val (.ref a1), .val (.int (3 : Int32)), .val (.int p3)] [.null, (.ref a1)])) _
    refine st102 _ ?_
    show Steps p.tables e below (T102.setTop (mkF m 22 #[.val (.ref a1), .val (.int (3 : Int32)), .val (.int p3)] [])) _
    refine XS.aloadN X102.here hx rfl (hb hby d1_22) rfl rfl ?_
    show Steps p.tables e below (T102.setTop (mkF m 23 #[.val (.ref a1), .val (.int (3 : Int32)), .val (.int p3)] [(.ref a1)])) _
    refine XS.iloadN X102.here hx rfl (hb hby d1_23) rfl ?_
    show Steps p.tables e below (T102.setTop (mkF m 24 #[.val (.ref a1), .val (.int (3 : Int32)), .val (.int p3)] [(.int p3), (.ref a1)])) _
    refine XS.sipush X102.here hx rfl (hb hby d1_24) ?_
    show Steps p.tables e below (T102.setTop (mkF m 27 #[.val (.ref a1), .val (.int (3 : Int32)), .val (.int p3)] [(.int (255 : Int32)), (.int p3), (.ref a1)])) _
    refine XS.icmpNo X102.here hx rfl (hb hby d1_27) rfl (tlt (H5 : (255 : Int32) < p3)).2.2.2 ?_
    show Steps p.tables e below (T102.setTop (mkF m 30 #[.val (.ref a1), .val (.int (3 : Int32)), .val (.int p3)] [(.ref a1)])) _
    refine XS.iloadN X102.here hx rfl (hb hby d1_30) rfl ?_
    show Steps p.tables e below (T102.setTop (mkF m 31 #[.val (.ref a1), .val (.int (3 : Int32)), .val (.int p3)] [(.int p3), (.ref a1)])) _
    refine X102.ldcInt hx hown (mvT hZ (hw _ (List.mem_of_getElem? (i := 15) rfl))) (g := (mkF m 31 #[.val (.ref a1), .val (.int (3 : Int32)), .val (.int p3)] [(.int p3), (.ref a1)])) rfl (hb hby d1_31) _ ?_
    show Steps p.tables e below (T102.setTop (mkF m 33 #[.val (.ref a1), .val (.int (3 : Int32)), .val (.int p3)] [(.int (65535 : Int32)), (.int p3), (.ref a1)])) _
    refine XS.icmpNo X102.here hx rfl (hb hby d1_33) rfl (flt (H6 : ¬ ((65535 : Int32) < p3))).2.2.1 ?_
    show Steps p.tables e below (T102.setTop (mkF m 36 #[.val (.ref a1), .val (.int (3 : Int32)), .val (.int p3)] [(.ref a1)])) _
    refine XS.iloadN X102.here hx rfl (hb hby d1_36) rfl ?_
    show Steps p.tables e below (T102.setTop (mkF m 37 #[.val (.ref a1), .val (.int (3 : Int32)), .val (.int p3)] [(.int (3 : Int32)), (.ref a1)])) _
    refine st103 _ ?_
    show Steps p.tables e below (T103.setTop (mkF m 39 #[.val (.ref a1), .val (.int (3 : Int32)), .val (.int p3)] [(.ref b103), (.ref a1)])) _
    refine XS.goto X103.here hx rfl (pc0 := 39) (pc' := 43) rfl (hb hby d1_39) (by decide) (by decide) ?_
    show Steps p.tables e below (T103.setTop (mkF m 43 #[.val (.ref a1), .val (.int (3 : Int32)), .val (.int p3)] [(.ref b103), (.ref a1)])) _
    refine st106 _ ?_
    show Steps p.tables e below (T106.setTop (mkF m 46 #[.val (.ref a1), .val (.int (3 : Int32)), .val (.int p3)] [])) _
    refine XS.aloadN X106.here hx rfl (hb hby d1_46) rfl rfl ?_
    show Steps p.tables e below (T106.setTop (mkF m 47 #[.val (.ref a1), .val (.int (3 : Int32)), .val (.int p3)] [(.ref a1)])) _
    refine XS.iloadN X106.here hx rfl (hb hby d1_47) rfl ?_
    show Steps p.tables e below (T106.setTop (mkF m 48 #[.val (.ref a1), .val (.int (3 : Int32)), .val (.int p3)] [(.int p3), (.ref a1)])) _
    refine X106.ldcInt hx hown (mvT hZ (hw _ (List.mem_of_getElem? (i := 15) rfl))) (g := (mkF m 48 #[.val (.ref a1), .val (.int (3 : Int32)), .val (.int p3)] [(.int p3), (.ref a1)])) rfl (hb hby d1_48) _ ?_
    show Steps p.tables e below (T106.setTop (mkF m 50 #[.val (.ref a1), .val (.int (3 : Int32)), .val (.int p3)] [(.int (65535 : Int32)), (.int p3), (.ref a1)])) _
    refine XS.icmpYes X106.here hx rfl (pc0 := 50) (pc' := 59) rfl (hb hby d1_50) rfl (flt (H6 : ¬ ((65535 : Int32) < p3))).2.2.2 (by decide) (by decide) ?_
    show Steps p.tables e below (T106.setTop (mkF m 59 #[.val (.ref a1), .val (.int (3 : Int32)), .val (.int p3)] [(.ref a1)])) _
    refine XS.aconstNull X106.here hx rfl (hb hby d1_59) ?_
    show Steps p.tables e below (T106.setTop (mkF m 60 #[.val (.ref a1), .val (.int (3 : Int32)), .val (.int p3)] [.null, (.ref a1)])) _
    refine st109 _ ?_
    show Steps p.tables e below (T109.setTop (mkF m 63 #[.val (.ref a1), .val (.int (3 : Int32)), .val (.int p3)] [])) _
    exact X109.returnOut hx Bd.returns (hb hby d1_63) hr
  · show Q1w Z a1 p3 u1 u2 u3 h0 n0 _ T109.heap _
    rw [e109]
    exact ⟨b103, k103, rfl, N109, (((((Keep.refl h0 [a1]).wr W102 (Or.inl (List.mem_of_getElem? (i := 0) rfl))).ext E103).wr W106 (Or.inl (List.mem_of_getElem? (i := 0) rfl))).wr W109 (Or.inl (List.mem_of_getElem? (i := 0) rfl))), f110, f111, Fw109, (Nat.le_trans (Nat.le_trans (Nat.le_refl _) (Nat.le_of_eq W102.size.symm)) (Nat.le_of_eq g103.symm)), f113⟩
theorem d3_0 : decode prog_8_method_6_code 0 = .ok (.aload_n 0, 1) := by decide +kernel
theorem d3_1 : decode prog_8_method_6_code 1 = .ok (.getfield 9, 3) := by decide +kernel
theorem d3_4 : decode prog_8_method_6_code 4 = .ok (.ifnull 14, 3) := by decide +kernel
theorem d3_7 : decode prog_8_method_6_code 7 = .ok (.aload_n 0, 1) := by decide +kernel
theorem d3_8 : decode prog_8_method_6_code 8 = .ok (.getfield 9, 3) := by decide +kernel
theorem d3_11 : decode prog_8_method_6_code 11 = .ok (.iload_n 1, 1) := by decide +kernel
theorem d3_12 : decode prog_8_method_6_code 12 = .ok (.iload_n 2, 1) := by decide +kernel
theorem d3_13 : decode prog_8_method_6_code 13 = .ok (.i2b, 1) := by decide +kernel
theorem d3_14 : decode prog_8_method_6_code 14 = .ok (.bastore, 1) := by decide +kernel
theorem d3_15 : decode prog_8_method_6_code 15 = .ok (.goto 28, 3) := by decide +kernel
theorem d3_43 : decode prog_8_method_6_code 43 = .ok (.return_, 1) := by decide +kernel
theorem ef_3n0 (m : MethodId) (a1 : Addr) (p3 : Int32) : entryFrame m #[(.ref a1), (.int (0 : Int32)), (.int p3)] 3 = mkF m 0 #[.val (.ref a1), .val (.int (0 : Int32)), .val (.int p3)] [] := by first | (simp [entryFrame, mkF, argsToLocals, Value.category]; done) | rfl
def Q3n0 (Z : State) (a1 : Addr) (p3 : Int32) (bb : Addr) (bk : ClassId) (x0 : Int32) (x1 : Int32) (x2 : Int32) (h0 : Heap) (n0 : Nat) (v : Option Value) (h : Heap) (L : List Loc) : Prop := v = none ∧ Fr n0 L ∧ Keep h0 h [bb] ∧ Arv Z h bb bk .byte (3 : Int32) [(.int (nar .byte (p3.toInt8.toInt32))), (.int x1), (.int x2)] (.int (0 : Int32))
set_option maxRecDepth 65536 in
set_option maxHeartbeats 40000000 in
theorem rm3n0 (l : Launch) (Z : State) (a0 : Array Value) (hw : ∀ d ∈ tables_1, d.before a0 Z = true) (ws : List Jvm.Cond) (a1 : Addr) (p3 : Int32) (bb : Addr) (bk : ClassId) (x0 : Int32) (x1 : Int32) (x2 : Int32) (h0 : Heap) (n0 : Nat) (Z0 : n0 ≤ h0.size) (H0 : Fld Z h0 a1 "com/example/plain_ranker/plainranker/data/BinArray" "bytes" "[B" (.ref bb)) (H1 : Fld Z h0 a1 "com/example/plain_ranker/plainranker/data/BinArray" "chars" "[C" .null) (H2 : Arv Z h0 bb bk .byte (3 : Int32) [(.int x0), (.int x1), (.int x2)] (.int (0 : Int32))) (H3 : n0 ≤ bb) (H4 : Exa Z h0 a1 "com/example/plain_ranker/plainranker/data/BinArray") :
    MetFree l (⟨"com/example/plain_ranker/plainranker/data/BinArray", "set", "(II)V"⟩ : MethodName) (head1 (Jvm.Cond.code (⟨"com/example/plain_ranker/plainranker/data/BinArray", "set", "(II)V"⟩ : MethodName) prog_8_method_6_code 3 none :: ws) ({ frames := 0, cells := 0, slots := 0, locals := 0 } : Room)) (fun a U => a = #[(.ref a1), (.int (0 : Int32)), (.int p3)] ∧ Z.Warmed39 U.vm ∧ U.heap = h0) (fun _ _ _ _ _ => True) (fun _ U o U' => ∃ v L, o = .returned v ∧ Q3n0 Z a1 p3 bb bk x0 x1 x2 h0 n0 v U'.heap L ∧ FrameEnd U o U' L ({ frames := 0, cells := 0, slots := 0, locals := 0 } : Room).cells ({ frames := 0, cells := 0, slots := 0, locals := 0 } : Room).slots) := by
  refine MetFree.of_bodySF (plainFor_of_name pn_com_example_plain_ranker_plainranker_data_BinArray) hisR ?_
  intro p e s m args below meth c s₁ Bd hml0 hP hK
  obtain ⟨rfl, hZ, hh⟩ := hP
  have hx := Bd.exec
  have hby := Bd.bytes
  have hml : c.maxLocals = 3 := hml0
  have hown : s.vm.findClass "com/example/plain_ranker/plainranker/data/BinArray" = some m.cls := findClass_of_methodNamed Bd.named
  have hnm := (name_of_methodNamed Bd.named Bd.method).1
  have X0 : Stand p l e ({ frames := 0, cells := 0, slots := 0, locals := 0 } : Room) s m #[(.ref a1), (.int (0 : Int32)), (.int p3)] below meth c s₁ [] 0 0 := Stand.of_body Bd
  have e0 : s₁.heap = h0 := by rw [← hh, Bd.state]; rfl
  have N0 := Fr.nil n0
  have pre0 : ∀ t, Steps p.tables e below (s₁.setTop (mkF m 0 #[.val (.ref a1), .val (.int (0 : Int32)), .val (.int p3)] [])) t → Steps p.tables e below (s₁.setTop (entryFrame m #[(.ref a1), (.int (0 : Int32)), (.int p3)] 3)) t := fun t k => castTop (ef_3n0 m a1 p3) k
  obtain ⟨T101, X101, e101, st101⟩ := getF X0 hx hZ hown (host := "") (Or.inl (hw _ (List.mem_of_getElem? (i := 13) rfl))) Via.refl e0 H0 (g := (mkF m 1 #[.val (.ref a1), .val (.int (0 : Int32)), .val (.int p3)] [(.ref a1)])) rfl rfl (hb hby d3_1)
  obtain ⟨T102, X102, e102, st102⟩ := getF X101 hx hZ hown (host := "") (Or.inl (hw _ (List.mem_of_getElem? (i := 13) rfl))) Via.refl e101 H0 (g := (mkF m 8 #[.val (.ref a1), .val (.int (0 : Int32)), .val (.int p3)] [(.ref a1)])) rfl rfl (hb hby d3_8)
  obtain ⟨cl103, Ar103, qc103, S103, M103, Hh103, G103⟩ := id H2
  have hin103 : ¬ ((0 : Int32) < 0 ∨ cl103.slots.size ≤ ((0 : Int32)).toNatClampNeg) := inb_of S103 ⟨by decide, by decide⟩
  obtain ⟨T103, h103, X103, e103, W103, st103⟩ := stB X102 hx hZ e102 Ar103 (j := (0 : Int32)) hin103 (g := (mkF m 14 #[.val (.ref a1), .val (.int (0 : Int32)), .val (.int p3)] [(.int (p3.toInt8.toInt32)), (.int (0 : Int32)), (.ref bb)])) rfl rfl (hb hby d3_14)
  have V103 : Arv Z h103 bb bk .byte (3 : Int32) [(.int (nar .byte (p3.toInt8.toInt32))), (.int x1), (.int x2)] (.int (0 : Int32)) := Arv.set Ar103 qc103 S103 M103 Hh103 G103 (fits_nar_byte _) W103 0 rfl (by first | decide | (simp; done))
  have N103 := Fr.snoc X103 N0 H3
  obtain ⟨fs, hr, hrun, hended, hW, hsame⟩ := X103.leave (v := none) (fun _ => rfl)
  refine ⟨_, _, pre0 _ ?_, hrun, hended, _, _, rfl, ?_, ⟨_, rfl⟩, hW, hsame.mono (by decide) (by decide)⟩
  · skip
    show Steps p.tables e below (s₁.setTop (mkF m 0 #[.val (.ref a1), .val (.int (0 : Int32)), .val (.int p3)] [])) _
    refine XS.aloadN X0.here hx rfl (hb hby d3_0) rfl rfl ?_
    show Steps p.tables e below (s₁.setTop (mkF m 1 #[.val (.ref a1), .val (.int (0 : Int32)), .val (.int p3)] [(.ref a1)])) _
    refine st101 _ ?_
    show Steps p.tables e below (T101.setTop (mkF m 4 #[.val (.ref a1), .val (.int (0 : Int32)), .val (.int p3)] [(.ref bb)])) _
    refine XS.ifnullNo X101.here hx rfl (hb hby d3_4) rfl ?_
    show Steps p.tables e below (T101.setTop (mkF m 7 #[.val (.ref a1), .val (.int (0 : Int32)), .val (.int p3)] [])) _
    refine XS.aloadN X101.here hx rfl (hb hby d3_7) rfl rfl ?_
    show Steps p.tables e below (T101.setTop (mkF m 8 #[.val (.ref a1), .val (.int (0 : Int32)), .val (.int p3)] [(.ref a1)])) _
    refine st102 _ ?_
    show Steps p.tables e below (T102.setTop (mkF m 11 #[.val (.ref a1), .val (.int (0 : Int32)), .val (.int p3)] [(.ref bb)])) _
    refine XS.iloadN X102.here hx rfl (hb hby d3_11) rfl ?_
    show Steps p.tables e below (T102.setTop (mkF m 12 #[.val (.ref a1), .val (.int (0 : Int32)), .val (.int p3)] [(.int (0 : Int32)), (.ref bb)])) _
    refine XS.iloadN X102.here hx rfl (hb hby d3_12) rfl ?_
    show Steps p.tables e below (T102.setTop (mkF m 13 #[.val (.ref a1), .val (.int (0 : Int32)), .val (.int p3)] [(.int p3), (.int (0 : Int32)), (.ref bb)])) _
    refine XS.i2b X102.here hx rfl (hb hby d3_13) rfl ?_
    show Steps p.tables e below (T102.setTop (mkF m 14 #[.val (.ref a1), .val (.int (0 : Int32)), .val (.int p3)] [(.int (p3.toInt8.toInt32)), (.int (0 : Int32)), (.ref bb)])) _
    refine st103 _ ?_
    show Steps p.tables e below (T103.setTop (mkF m 15 #[.val (.ref a1), .val (.int (0 : Int32)), .val (.int p3)] [])) _
    refine XS.goto X103.here hx rfl (pc0 := 15) (pc' := 43) rfl (hb hby d3_15) (by decide) (by decide) ?_
    show Steps p.tables e below (T103.setTop (mkF m 43 #[.val (.ref a1), .val (.int (0 : Int32)), .val (.int p3)] [])) _
    exact X103.returnOut hx Bd.returns (hb hby d3_43) hr
  · show Q3n0 Z a1 p3 bb bk x0 x1 x2 h0 n0 _ T103.heap _
    rw [e103]
    exact ⟨rfl, N103, ((Keep.refl h0 [bb]).wr W103 (Or.inl (List.mem_of_getElem? (i := 0) rfl))), V103⟩
theorem ef_3n1 (m : MethodId) (a1 : Addr) (p3 : Int32) : entryFrame m #[(.ref a1), (.int (1 : Int32)), (.int p3)] 3 = mkF m 0 #[.val (.ref a1), .val (.int (1 : Int32)), .val (.int p3)] [] := by first | (simp [entryFrame, mkF, argsToLocals, Value.category]; done) | rfl
def Q3n1 (Z : State) (a1 : Addr) (p3 : Int32) (bb : Addr) (bk : ClassId) (x0 : Int32) (x1 : Int32) (x2 : Int32) (h0 : Heap) (n0 : Nat) (v : Option Value) (h : Heap) (L : List Loc) : Prop := v = none ∧ Fr n0 L ∧ Keep h0 h [bb] ∧ Arv Z h bb bk .byte (3 : Int32) [(.int x0), (.int (nar .byte (p3.toInt8.toInt32))), (.int x2)] (.int (0 : Int32))
set_option maxRecDepth 65536 in
set_option maxHeartbeats 40000000 in
theorem rm3n1 (l : Launch) (Z : State) (a0 : Array Value) (hw : ∀ d ∈ tables_1, d.before a0 Z = true) (ws : List Jvm.Cond) (a1 : Addr) (p3 : Int32) (bb : Addr) (bk : ClassId) (x0 : Int32) (x1 : Int32) (x2 : Int32) (h0 : Heap) (n0 : Nat) (Z0 : n0 ≤ h0.size) (H0 : Fld Z h0 a1 "com/example/plain_ranker/plainranker/data/BinArray" "bytes" "[B" (.ref bb)) (H1 : Fld Z h0 a1 "com/example/plain_ranker/plainranker/data/BinArray" "chars" "[C" .null) (H2 : Arv Z h0 bb bk .byte (3 : Int32) [(.int x0), (.int x1), (.int x2)] (.int (0 : Int32))) (H3 : n0 ≤ bb) (H4 : Exa Z h0 a1 "com/example/plain_ranker/plainranker/data/BinArray") :
    MetFree l (⟨"com/example/plain_ranker/plainranker/data/BinArray", "set", "(II)V"⟩ : MethodName) (head1 (Jvm.Cond.code (⟨"com/example/plain_ranker/plainranker/data/BinArray", "set", "(II)V"⟩ : MethodName) prog_8_method_6_code 3 none :: ws) ({ frames := 0, cells := 0, slots := 0, locals := 0 } : Room)) (fun a U => a = #[(.ref a1), (.int (1 : Int32)), (.int p3)] ∧ Z.Warmed39 U.vm ∧ U.heap = h0) (fun _ _ _ _ _ => True) (fun _ U o U' => ∃ v L, o = .returned v ∧ Q3n1 Z a1 p3 bb bk x0 x1 x2 h0 n0 v U'.heap L ∧ FrameEnd U o U' L ({ frames := 0, cells := 0, slots := 0, locals := 0 } : Room).cells ({ frames := 0, cells := 0, slots := 0, locals := 0 } : Room).slots) := by
  refine MetFree.of_bodySF (plainFor_of_name pn_com_example_plain_ranker_plainranker_data_BinArray) hisR ?_
  intro p e s m args below meth c s₁ Bd hml0 hP hK
  obtain ⟨rfl, hZ, hh⟩ := hP
  have hx := Bd.exec
  have hby := Bd.bytes
  have hml : c.maxLocals = 3 := hml0
  have hown : s.vm.findClass "com/example/plain_ranker/plainranker/data/BinArray" = some m.cls := findClass_of_methodNamed Bd.named
  have hnm := (name_of_methodNamed Bd.named Bd.method).1
  have X0 : Stand p l e ({ frames := 0, cells := 0, slots := 0, locals := 0 } : Room) s m #[(.ref a1), (.int (1 : Int32)), (.int p3)] below meth c s₁ [] 0 0 := Stand.of_body Bd
  have e0 : s₁.heap = h0 := by rw [← hh, Bd.state]; rfl
  have N0 := Fr.nil n0
  have pre0 : ∀ t, Steps p.tables e below (s₁.setTop (mkF m 0 #[.val (.ref a1), .val (.int (1 : Int32)), .val (.int p3)] [])) t → Steps p.tables e below (s₁.setTop (entryFrame m #[(.ref a1), (.int (1 : Int32)), (.int p3)] 3)) t := fun t k => castTop (ef_3n1 m a1 p3) k
  obtain ⟨T101, X101, e101, st101⟩ := getF X0 hx hZ hown (host := "") (Or.inl (hw _ (List.mem_of_getElem? (i := 13) rfl))) Via.refl e0 H0 (g := (mkF m 1 #[.val (.ref a1), .val (.int (1 : Int32)), .val (.int p3)] [(.ref a1)])) rfl rfl (hb hby d3_1)
  obtain ⟨T102, X102, e102, st102⟩ := getF X101 hx hZ hown (host := "") (Or.inl (hw _ (List.mem_of_getElem? (i := 13) rfl))) Via.refl e101 H0 (g := (mkF m 8 #[.val (.ref a1), .val (.int (1 : Int32)), .val (.int p3)] [(.ref a1)])) rfl rfl (hb hby d3_8)
  obtain ⟨cl103, Ar103, qc103, S103, M103, Hh103, G103⟩ := id H2
  have hin103 : ¬ ((1 : Int32) < 0 ∨ cl103.slots.size ≤ ((1 : Int32)).toNatClampNeg) := inb_of S103 ⟨by decide, by decide⟩
  obtain ⟨T103, h103, X103, e103, W103, st103⟩ := stB X102 hx hZ e102 Ar103 (j := (1 : Int32)) hin103 (g := (mkF m 14 #[.val (.ref a1), .val (.int (1 : Int32)), .val (.int p3)] [(.int (p3.toInt8.toInt32)), (.int (1 : Int32)), (.ref bb)])) rfl rfl (hb hby d3_14)
  have V103 : Arv Z h103 bb bk .byte (3 : Int32) [(.int x0), (.int (nar .byte (p3.toInt8.toInt32))), (.int x2)] (.int (0 : Int32)) := Arv.set Ar103 qc103 S103 M103 Hh103 G103 (fits_nar_byte _) W103 1 rfl (by first | decide | (simp; done))
  have N103 := Fr.snoc X103 N0 H3
  obtain ⟨fs, hr, hrun, hended, hW, hsame⟩ := X103.leave (v := none) (fun _ => rfl)
  refine ⟨_, _, pre0 _ ?_, hrun, hended, _, _, rfl, ?_, ⟨_, rfl⟩, hW, hsame.mono (by decide) (by decide)⟩
  · skip
    show Steps p.tables e below (s₁.setTop (mkF m 0 #[.val (.ref a1), .val (.int (1 : Int32)), .val (.int p3)] [])) _
    refine XS.aloadN X0.here hx rfl (hb hby d3_0) rfl rfl ?_
    show Steps p.tables e below (s₁.setTop (mkF m 1 #[.val (.ref a1), .val (.int (1 : Int32)), .val (.int p3)] [(.ref a1)])) _
    refine st101 _ ?_
    show Steps p.tables e below (T101.setTop (mkF m 4 #[.val (.ref a1), .val (.int (1 : Int32)), .val (.int p3)] [(.ref bb)])) _
    refine XS.ifnullNo X101.here hx rfl (hb hby d3_4) rfl ?_
    show Steps p.tables e below (T101.setTop (mkF m 7 #[.val (.ref a1), .val (.int (1 : Int32)), .val (.int p3)] [])) _
    refine XS.aloadN X101.here hx rfl (hb hby d3_7) rfl rfl ?_
    show Steps p.tables e below (T101.setTop (mkF m 8 #[.val (.ref a1), .val (.int (1 : Int32)), .val (.int p3)] [(.ref a1)])) _
    refine st102 _ ?_
    show Steps p.tables e below (T102.setTop (mkF m 11 #[.val (.ref a1), .val (.int (1 : Int32)), .val (.int p3)] [(.ref bb)])) _
    refine XS.iloadN X102.here hx rfl (hb hby d3_11) rfl ?_
    show Steps p.tables e below (T102.setTop (mkF m 12 #[.val (.ref a1), .val (.int (1 : Int32)), .val (.int p3)] [(.int (1 : Int32)), (.ref bb)])) _
    refine XS.iloadN X102.here hx rfl (hb hby d3_12) rfl ?_
    show Steps p.tables e below (T102.setTop (mkF m 13 #[.val (.ref a1), .val (.int (1 : Int32)), .val (.int p3)] [(.int p3), (.int (1 : Int32)), (.ref bb)])) _
    refine XS.i2b X102.here hx rfl (hb hby d3_13) rfl ?_
    show Steps p.tables e below (T102.setTop (mkF m 14 #[.val (.ref a1), .val (.int (1 : Int32)), .val (.int p3)] [(.int (p3.toInt8.toInt32)), (.int (1 : Int32)), (.ref bb)])) _
    refine st103 _ ?_
    show Steps p.tables e below (T103.setTop (mkF m 15 #[.val (.ref a1), .val (.int (1 : Int32)), .val (.int p3)] [])) _
    refine XS.goto X103.here hx rfl (pc0 := 15) (pc' := 43) rfl (hb hby d3_15) (by decide) (by decide) ?_
    show Steps p.tables e below (T103.setTop (mkF m 43 #[.val (.ref a1), .val (.int (1 : Int32)), .val (.int p3)] [])) _
    exact X103.returnOut hx Bd.returns (hb hby d3_43) hr
  · show Q3n1 Z a1 p3 bb bk x0 x1 x2 h0 n0 _ T103.heap _
    rw [e103]
    exact ⟨rfl, N103, ((Keep.refl h0 [bb]).wr W103 (Or.inl (List.mem_of_getElem? (i := 0) rfl))), V103⟩
theorem ef_3n2 (m : MethodId) (a1 : Addr) (p3 : Int32) : entryFrame m #[(.ref a1), (.int (2 : Int32)), (.int p3)] 3 = mkF m 0 #[.val (.ref a1), .val (.int (2 : Int32)), .val (.int p3)] [] := by first | (simp [entryFrame, mkF, argsToLocals, Value.category]; done) | rfl
def Q3n2 (Z : State) (a1 : Addr) (p3 : Int32) (bb : Addr) (bk : ClassId) (x0 : Int32) (x1 : Int32) (x2 : Int32) (h0 : Heap) (n0 : Nat) (v : Option Value) (h : Heap) (L : List Loc) : Prop := v = none ∧ Fr n0 L ∧ Keep h0 h [bb] ∧ Arv Z h bb bk .byte (3 : Int32) [(.int x0), (.int x1), (.int (nar .byte (p3.toInt8.toInt32)))] (.int (0 : Int32))
set_option maxRecDepth 65536 in
set_option maxHeartbeats 40000000 in
theorem rm3n2 (l : Launch) (Z : State) (a0 : Array Value) (hw : ∀ d ∈ tables_1, d.before a0 Z = true) (ws : List Jvm.Cond) (a1 : Addr) (p3 : Int32) (bb : Addr) (bk : ClassId) (x0 : Int32) (x1 : Int32) (x2 : Int32) (h0 : Heap) (n0 : Nat) (Z0 : n0 ≤ h0.size) (H0 : Fld Z h0 a1 "com/example/plain_ranker/plainranker/data/BinArray" "bytes" "[B" (.ref bb)) (H1 : Fld Z h0 a1 "com/example/plain_ranker/plainranker/data/BinArray" "chars" "[C" .null) (H2 : Arv Z h0 bb bk .byte (3 : Int32) [(.int x0), (.int x1), (.int x2)] (.int (0 : Int32))) (H3 : n0 ≤ bb) (H4 : Exa Z h0 a1 "com/example/plain_ranker/plainranker/data/BinArray") :
    MetFree l (⟨"com/example/plain_ranker/plainranker/data/BinArray", "set", "(II)V"⟩ : MethodName) (head1 (Jvm.Cond.code (⟨"com/example/plain_ranker/plainranker/data/BinArray", "set", "(II)V"⟩ : MethodName) prog_8_method_6_code 3 none :: ws) ({ frames := 0, cells := 0, slots := 0, locals := 0 } : Room)) (fun a U => a = #[(.ref a1), (.int (2 : Int32)), (.int p3)] ∧ Z.Warmed39 U.vm ∧ U.heap = h0) (fun _ _ _ _ _ => True) (fun _ U o U' => ∃ v L, o = .returned v ∧ Q3n2 Z a1 p3 bb bk x0 x1 x2 h0 n0 v U'.heap L ∧ FrameEnd U o U' L ({ frames := 0, cells := 0, slots := 0, locals := 0 } : Room).cells ({ frames := 0, cells := 0, slots := 0, locals := 0 } : Room).slots) := by
  refine MetFree.of_bodySF (plainFor_of_name pn_com_example_plain_ranker_plainranker_data_BinArray) hisR ?_
  intro p e s m args below meth c s₁ Bd hml0 hP hK
  obtain ⟨rfl, hZ, hh⟩ := hP
  have hx := Bd.exec
  have hby := Bd.bytes
  have hml : c.maxLocals = 3 := hml0
  have hown : s.vm.findClass "com/example/plain_ranker/plainranker/data/BinArray" = some m.cls := findClass_of_methodNamed Bd.named
  have hnm := (name_of_methodNamed Bd.named Bd.method).1
  have X0 : Stand p l e ({ frames := 0, cells := 0, slots := 0, locals := 0 } : Room) s m #[(.ref a1), (.int (2 : Int32)), (.int p3)] below meth c s₁ [] 0 0 := Stand.of_body Bd
  have e0 : s₁.heap = h0 := by rw [← hh, Bd.state]; rfl
  have N0 := Fr.nil n0
  have pre0 : ∀ t, Steps p.tables e below (s₁.setTop (mkF m 0 #[.val (.ref a1), .val (.int (2 : Int32)), .val (.int p3)] [])) t → Steps p.tables e below (s₁.setTop (entryFrame m #[(.ref a1), (.int (2 : Int32)), (.int p3)] 3)) t := fun t k => castTop (ef_3n2 m a1 p3) k
  obtain ⟨T101, X101, e101, st101⟩ := getF X0 hx hZ hown (host := "") (Or.inl (hw _ (List.mem_of_getElem? (i := 13) rfl))) Via.refl e0 H0 (g := (mkF m 1 #[.val (.ref a1), .val (.int (2 : Int32)), .val (.int p3)] [(.ref a1)])) rfl rfl (hb hby d3_1)
  obtain ⟨T102, X102, e102, st102⟩ := getF X101 hx hZ hown (host := "") (Or.inl (hw _ (List.mem_of_getElem? (i := 13) rfl))) Via.refl e101 H0 (g := (mkF m 8 #[.val (.ref a1), .val (.int (2 : Int32)), .val (.int p3)] [(.ref a1)])) rfl rfl (hb hby d3_8)
  obtain ⟨cl103, Ar103, qc103, S103, M103, Hh103, G103⟩ := id H2
  have hin103 : ¬ ((2 : Int32) < 0 ∨ cl103.slots.size ≤ ((2 : Int32)).toNatClampNeg) := inb_of S103 ⟨by decide, by decide⟩
  obtain ⟨T103, h103, X103, e103, W103, st103⟩ := stB X102 hx hZ e102 Ar103 (j := (2 : Int32)) hin103 (g := (mkF m 14 #[.val (.ref a1), .val (.int (2 : Int32)), .val (.int p3)] [(.int (p3.toInt8.toInt32)), (.int (2 : Int32)), (.ref bb)])) rfl rfl (hb hby d3_14)
  have V103 : Arv Z h103 bb bk .byte (3 : Int32) [(.int x0), (.int x1), (.int (nar .byte (p3.toInt8.toInt32)))] (.int (0 : Int32)) := Arv.set Ar103 qc103 S103 M103 Hh103 G103 (fits_nar_byte _) W103 2 rfl (by first | decide | (simp; done))
  have N103 := Fr.snoc X103 N0 H3
  obtain ⟨fs, hr, hrun, hended, hW, hsame⟩ := X103.leave (v := none) (fun _ => rfl)
  refine ⟨_, _, pre0 _ ?_, hrun, hended, _, _, rfl, ?_, ⟨_, rfl⟩, hW, hsame.mono (by decide) (by decide)⟩
  · skip
    show Steps p.tables e below (s₁.setTop (mkF m 0 #[.val (.ref a1), .val (.int (2 : Int32)), .val (.int p3)] [])) _
    refine XS.aloadN X0.here hx rfl (hb hby d3_0) rfl rfl ?_
    show Steps p.tables e below (s₁.setTop (mkF m 1 #[.val (.ref a1), .val (.int (2 : Int32)), .val (.int p3)] [(.ref a1)])) _
    refine st101 _ ?_
    show Steps p.tables e below (T101.setTop (mkF m 4 #[.val (.ref a1), .val (.int (2 : Int32)), .val (.int p3)] [(.ref bb)])) _
    refine XS.ifnullNo X101.here hx rfl (hb hby d3_4) rfl ?_
    show Steps p.tables e below (T101.setTop (mkF m 7 #[.val (.ref a1), .val (.int (2 : Int32)), .val (.int p3)] [])) _
    refine XS.aloadN X101.here hx rfl (hb hby d3_7) rfl rfl ?_
    show Steps p.tables e below (T101.setTop (mkF m 8 #[.val (.ref a1), .val (.int (2 : Int32)), .val (.int p3)] [(.ref a1)])) _
    refine st102 _ ?_
    show Steps p.tables e below (T102.setTop (mkF m 11 #[.val (.ref a1), .val (.int (2 : Int32)), .val (.int p3)] [(.ref bb)])) _
    refine XS.iloadN X102.here hx rfl (hb hby d3_11) rfl ?_
    show Steps p.tables e below (T102.setTop (mkF m 12 #[.val (.ref a1), .val (.int (2 : Int32)), .val (.int p3)] [(.int (2 : Int32)), (.ref bb)])) _
    refine XS.iloadN X102.here hx rfl (hb hby d3_12) rfl ?_
    show Steps p.tables e below (T102.setTop (mkF m 13 #[.val (.ref a1), .val (.int (2 : Int32)), .val (.int p3)] [(.int p3), (.int (2 : Int32)), (.ref bb)])) _
    refine XS.i2b X102.here hx rfl (hb hby d3_13) rfl ?_
    show Steps p.tables e below (T102.setTop (mkF m 14 #[.val (.ref a1), .val (.int (2 : Int32)), .val (.int p3)] [(.int (p3.toInt8.toInt32)), (.int (2 : Int32)), (.ref bb)])) _
    refine st103 _ ?_
    show Steps p.tables e below (T103.setTop (mkF m 15 #[.val (.ref a1), .val (.int (2 : Int32)), .val (.int p3)] [])) _
    refine XS.goto X103.here hx rfl (pc0 := 15) (pc' := 43) rfl (hb hby d3_15) (by decide) (by decide) ?_
    show Steps p.tables e below (T103.setTop (mkF m 43 #[.val (.ref a1), .val (.int (2 : Int32)), .val (.int p3)] [])) _
    exact X103.returnOut hx Bd.returns (hb hby d3_43) hr
  · show Q3n2 Z a1 p3 bb bk x0 x1 x2 h0 n0 _ T103.heap _
    rw [e103]
    exact ⟨rfl, N103, ((Keep.refl h0 [bb]).wr W103 (Or.inl (List.mem_of_getElem? (i := 0) rfl))), V103⟩
theorem d3_18 : decode prog_8_method_6_code 18 = .ok (.aload_n 0, 1) := by decide +kernel
theorem d3_19 : decode prog_8_method_6_code 19 = .ok (.getfield 14, 3) := by decide +kernel
theorem d3_22 : decode prog_8_method_6_code 22 = .ok (.ifnull 14, 3) := by decide +kernel
theorem d3_25 : decode prog_8_method_6_code 25 = .ok (.aload_n 0, 1) := by decide +kernel
theorem d3_26 : decode prog_8_method_6_code 26 = .ok (.getfield 14, 3) := by decide +kernel
theorem d3_29 : decode prog_8_method_6_code 29 = .ok (.iload_n 1, 1) := by decide +kernel
theorem d3_30 : decode prog_8_method_6_code 30 = .ok (.iload_n 2, 1) := by decide +kernel
theorem d3_31 : decode prog_8_method_6_code 31 = .ok (.i2c, 1) := by decide +kernel
theorem d3_32 : decode prog_8_method_6_code 32 = .ok (.castore, 1) := by decide +kernel
theorem d3_33 : decode prog_8_method_6_code 33 = .ok (.goto 10, 3) := by decide +kernel
theorem ef_3w0 (m : MethodId) (a1 : Addr) (p3 : Int32) : entryFrame m #[(.ref a1), (.int (0 : Int32)), (.int p3)] 3 = mkF m 0 #[.val (.ref a1), .val (.int (0 : Int32)), .val (.int p3)] [] := by first | (simp [entryFrame, mkF, argsToLocals, Value.category]; done) | rfl
def Q3w0 (Z : State) (a1 : Addr) (p3 : Int32) (bb : Addr) (bk : ClassId) (x0 : Int32) (x1 : Int32) (x2 : Int32) (h0 : Heap) (n0 : Nat) (v : Option Value) (h : Heap) (L : List Loc) : Prop := v = none ∧ Fr n0 L ∧ Keep h0 h [bb] ∧ Arv Z h bb bk .char (3 : Int32) [(.int (nar .char (p3.toUInt32.toUInt16.toUInt32.toInt32))), (.int x1), (.int x2)] (.int (0 : Int32))
set_option maxRecDepth 65536 in
set_option maxHeartbeats 40000000 in
theorem rm3w0 (l : Launch) (Z : State) (a0 : Array Value) (hw : ∀ d ∈ tables_1, d.before a0 Z = true) (ws : List Jvm.Cond) (a1 : Addr) (p3 : Int32) (bb : Addr) (bk : ClassId) (x0 : Int32) (x1 : Int32) (x2 : Int32) (h0 : Heap) (n0 : Nat) (Z0 : n0 ≤ h0.size) (H0 : Fld Z h0 a1 "com/example/plain_ranker/plainranker/data/BinArray" "bytes" "[B" .null) (H1 : Fld Z h0 a1 "com/example/plain_ranker/plainranker/data/BinArray" "chars" "[C" (.ref bb)) (H2 : Arv Z h0 bb bk .char (3 : Int32) [(.int x0), (.int x1), (.int x2)] (.int (0 : Int32))) (H3 : n0 ≤ bb) (H4 : Exa Z h0 a1 "com/example/plain_ranker/plainranker/data/BinArray") :
    MetFree l (⟨"com/example/plain_ranker/plainranker/data/BinArray", "set", "(II)V"⟩ : MethodName) (head1 (Jvm.Cond.code (⟨"com/example/plain_ranker/plainranker/data/BinArray", "set", "(II)V"⟩ : MethodName) prog_8_method_6_code 3 none :: ws) ({ frames := 0, cells := 0, slots := 0, locals := 0 } : Room)) (fun a U => a = #[(.ref a1), (.int (0 : Int32)), (.int p3)] ∧ Z.Warmed39 U.vm ∧ U.heap = h0) (fun _ _ _ _ _ => True) (fun _ U o U' => ∃ v L, o = .returned v ∧ Q3w0 Z a1 p3 bb bk x0 x1 x2 h0 n0 v U'.heap L ∧ FrameEnd U o U' L ({ frames := 0, cells := 0, slots := 0, locals := 0 } : Room).cells ({ frames := 0, cells := 0, slots := 0, locals := 0 } : Room).slots) := by
  refine MetFree.of_bodySF (plainFor_of_name pn_com_example_plain_ranker_plainranker_data_BinArray) hisR ?_
  intro p e s m args below meth c s₁ Bd hml0 hP hK
  obtain ⟨rfl, hZ, hh⟩ := hP
  have hx := Bd.exec
  have hby := Bd.bytes
  have hml : c.maxLocals = 3 := hml0
  have hown : s.vm.findClass "com/example/plain_ranker/plainranker/data/BinArray" = some m.cls := findClass_of_methodNamed Bd.named
  have hnm := (name_of_methodNamed Bd.named Bd.method).1
  have X0 : Stand p l e ({ frames := 0, cells := 0, slots := 0, locals := 0 } : Room) s m #[(.ref a1), (.int (0 : Int32)), (.int p3)] below meth c s₁ [] 0 0 := Stand.of_body Bd
  have e0 : s₁.heap = h0 := by rw [← hh, Bd.state]; rfl
  have N0 := Fr.nil n0
  have pre0 : ∀ t, Steps p.tables e below (s₁.setTop (mkF m 0 #[.val (.ref a1), .val (.int (0 : Int32)), .val (.int p3)] [])) t → Steps p.tables e below (s₁.setTop (entryFrame m #[(.ref a1), (.int (0 : Int32)), (.int p3)] 3)) t := fun t k => castTop (ef_3w0 m a1 p3) k
  obtain ⟨T101, X101, e101, st101⟩ := getF X0 hx hZ hown (host := "") (Or.inl (hw _ (List.mem_of_getElem? (i := 13) rfl))) Via.refl e0 H0 (g := (mkF m 1 #[.val (.ref a1), .val (.int (0 : Int32)), .val (.int p3)] [(.ref a1)])) rfl rfl (hb hby d3_1)
  obtain ⟨T102, X102, e102, st102⟩ := getF X101 hx hZ hown (host := "") (Or.inl (hw _ (List.mem_of_getElem? (i := 17) rfl))) Via.refl e101 H1 (g := (mkF m 19 #[.val (.ref a1), .val (.int (0 : Int32)), .val (.int p3)] [(.ref a1)])) rfl rfl (hb hby d3_19)
  obtain ⟨T103, X103, e103, st103⟩ := getF X102 hx hZ hown (host := "") (Or.inl (hw _ (List.mem_of_getElem? (i := 17) rfl))) Via.refl e102 H1 (g := (mkF m 26 #[.val (.ref a1), .val (.int (0 : Int32)), .val (.int p3)] [(.ref a1)])) rfl rfl (hb hby d3_26)
  obtain ⟨cl104, Ar104, qc104, S104, M104, Hh104, G104⟩ := id H2
  have hin104 : ¬ ((0 : Int32) < 0 ∨ cl104.slots.size ≤ ((0 : Int32)).toNatClampNeg) := inb_of S104 ⟨by decide, by decide⟩
  obtain ⟨T104, h104, X104, e104, W104, st104⟩ := stC X103 hx hZ e103 Ar104 (j := (0 : Int32)) hin104 (g := (mkF m 32 #[.val (.ref a1), .val (.int (0 : Int32)), .val (.int p3)] [(.int (p3.toUInt32.toUInt16.toUInt32.toInt32)), (.int (0 : Int32)), (.ref bb)])) rfl rfl (hb hby d3_32)
  have V104 : Arv Z h104 bb bk .char (3 : Int32) [(.int (nar .char (p3.toUInt32.toUInt16.toUInt32.toInt32))), (.int x1), (.int x2)] (.int (0 : Int32)) := Arv.set Ar104 qc104 S104 M104 Hh104 G104 (fits_nar_char _) W104 0 rfl (by first | decide | (simp; done))
  have N104 := Fr.snoc X104 N0 H3
  obtain ⟨fs, hr, hrun, hended, hW, hsame⟩ := X104.leave (v := none) (fun _ => rfl)
  refine ⟨_, _, pre0 _ ?_, hrun, hended, _, _, rfl, ?_, ⟨_, rfl⟩, hW, hsame.mono (by decide) (by decide)⟩
  · skip
    show Steps p.tables e below (s₁.setTop (mkF m 0 #[.val (.ref a1), .val (.int (0 : Int32)), .val (.int p3)] [])) _
    refine XS.aloadN X0.here hx rfl (hb hby d3_0) rfl rfl ?_
    show Steps p.tables e below (s₁.setTop (mkF m 1 #[.val (.ref a1), .val (.int (0 : Int32)), .val (.int p3)] [(.ref a1)])) _
    refine st101 _ ?_
    show Steps p.tables e below (T101.setTop (mkF m 4 #[.val (.ref a1), .val (.int (0 : Int32)), .val (.int p3)] [.null])) _
    refine XS.ifnullYes X101.here hx rfl (pc0 := 4) (pc' := 18) rfl (hb hby d3_4) rfl (by decide) (by decide) ?_
    show Steps p.tables e below (T101.setTop (mkF m 18 #[.val (.ref a1), .val (.int (0 : Int32)), .val (.int p3)] [])) _
    refine XS.aloadN X101.here hx rfl (hb hby d3_18) rfl rfl ?_
    show Steps p.tables e below (T101.setTop (mkF m 19 #[.val (.ref a1), .val (.int (0 : Int32)), .val (.int p3)] [(.ref a1)])) _
    refine st102 _ ?_
    show Steps p.tables e below (T102.setTop (mkF m 22 #[.val (.ref a1), .val (.int (0 : Int32)), .val (.int p3)] [(.ref bb)])) _
    refine XS.ifnullNo X102.here hx rfl (hb hby d3_22) rfl ?_
    show Steps p.tables e below (T102.setTop (mkF m 25 #[.val (.ref a1), .val (.int (0 : Int32)), .val (.int p3)] [])) _
    refine XS.aloadN X102.here hx rfl (hb hby d3_25) rfl rfl ?_
    show Steps p.tables e below (T102.setTop (mkF m 26 #[.val (.ref a1), .val (.int (0 : Int32)), .val (.int p3)] [(.ref a1)])) _
    refine st103 _ ?_
    show Steps p.tables e below (T103.setTop (mkF m 29 #[.val (.ref a1), .val (.int (0 : Int32)), .val (.int p3)] [(.ref bb)])) _
    refine XS.iloadN X103.here hx rfl (hb hby d3_29) rfl ?_
    show Steps p.tables e below (T103.setTop (mkF m 30 #[.val (.ref a1), .val (.int (0 : Int32)), .val (.int p3)] [(.int (0 : Int32)), (.ref bb)])) _
    refine XS.iloadN X103.here hx rfl (hb hby d3_30) rfl ?_
    show Steps p.tables e below (T103.setTop (mkF m 31 #[.val (.ref a1), .val (.int (0 : Int32)), .val (.int p3)] [(.int p3), (.int (0 : Int32)), (.ref bb)])) _
    refine XS.i2c X103.here hx rfl (hb hby d3_31) rfl ?_
    show Steps p.tables e below (T103.setTop (mkF m 32 #[.val (.ref a1), .val (.int (0 : Int32)), .val (.int p3)] [(.int (p3.toUInt32.toUInt16.toUInt32.toInt32)), (.int (0 : Int32)), (.ref bb)])) _
    refine st104 _ ?_
    show Steps p.tables e below (T104.setTop (mkF m 33 #[.val (.ref a1), .val (.int (0 : Int32)), .val (.int p3)] [])) _
    refine XS.goto X104.here hx rfl (pc0 := 33) (pc' := 43) rfl (hb hby d3_33) (by decide) (by decide) ?_
    show Steps p.tables e below (T104.setTop (mkF m 43 #[.val (.ref a1), .val (.int (0 : Int32)), .val (.int p3)] [])) _
    exact X104.returnOut hx Bd.returns (hb hby d3_43) hr
  · show Q3w0 Z a1 p3 bb bk x0 x1 x2 h0 n0 _ T104.heap _
    rw [e104]
    exact ⟨rfl, N104, ((Keep.refl h0 [bb]).wr W104 (Or.inl (List.mem_of_getElem? (i := 0) rfl))), V104⟩
theorem ef_3w1 (m : MethodId) (a1 : Addr) (p3 : Int32) : entryFrame m #[(.ref a1), (.int (1 : Int32)), (.int p3)] 3 = mkF m 0 #[.val (.ref a1), .val (.int (1 : Int32)), .val (.int p3)] [] := by first | (simp [entryFrame, mkF, argsToLocals, Value.category]; done) | rfl
def Q3w1 (Z : State) (a1 : Addr) (p3 : Int32) (bb : Addr) (bk : ClassId) (x0 : Int32) (x1 : Int32) (x2 : Int32) (h0 : Heap) (n0 : Nat) (v : Option Value) (h : Heap) (L : List Loc) : Prop := v = none ∧ Fr n0 L ∧ Keep h0 h [bb] ∧ Arv Z h bb bk .char (3 : Int32) [(.int x0), (.int (nar .char (p3.toUInt32.toUInt16.toUInt32.toInt32))), (.int x2)] (.int (0 : Int32))
set_option maxRecDepth 65536 in
set_option maxHeartbeats 40000000 in
theorem rm3w1 (l : Launch) (Z : State) (a0 : Array Value) (hw : ∀ d ∈ tables_1, d.before a0 Z = true) (ws : List Jvm.Cond) (a1 : Addr) (p3 : Int32) (bb : Addr) (bk : ClassId) (x0 : Int32) (x1 : Int32) (x2 : Int32) (h0 : Heap) (n0 : Nat) (Z0 : n0 ≤ h0.size) (H0 : Fld Z h0 a1 "com/example/plain_ranker/plainranker/data/BinArray" "bytes" "[B" .null) (H1 : Fld Z h0 a1 "com/example/plain_ranker/plainranker/data/BinArray" "chars" "[C" (.ref bb)) (H2 : Arv Z h0 bb bk .char (3 : Int32) [(.int x0), (.int x1), (.int x2)] (.int (0 : Int32))) (H3 : n0 ≤ bb) (H4 : Exa Z h0 a1 "com/example/plain_ranker/plainranker/data/BinArray") :
    MetFree l (⟨"com/example/plain_ranker/plainranker/data/BinArray", "set", "(II)V"⟩ : MethodName) (head1 (Jvm.Cond.code (⟨"com/example/plain_ranker/plainranker/data/BinArray", "set", "(II)V"⟩ : MethodName) prog_8_method_6_code 3 none :: ws) ({ frames := 0, cells := 0, slots := 0, locals := 0 } : Room)) (fun a U => a = #[(.ref a1), (.int (1 : Int32)), (.int p3)] ∧ Z.Warmed39 U.vm ∧ U.heap = h0) (fun _ _ _ _ _ => True) (fun _ U o U' => ∃ v L, o = .returned v ∧ Q3w1 Z a1 p3 bb bk x0 x1 x2 h0 n0 v U'.heap L ∧ FrameEnd U o U' L ({ frames := 0, cells := 0, slots := 0, locals := 0 } : Room).cells ({ frames := 0, cells := 0, slots := 0, locals := 0 } : Room).slots) := by
  refine MetFree.of_bodySF (plainFor_of_name pn_com_example_plain_ranker_plainranker_data_BinArray) hisR ?_
  intro p e s m args below meth c s₁ Bd hml0 hP hK
  obtain ⟨rfl, hZ, hh⟩ := hP
  have hx := Bd.exec
  have hby := Bd.bytes
  have hml : c.maxLocals = 3 := hml0
  have hown : s.vm.findClass "com/example/plain_ranker/plainranker/data/BinArray" = some m.cls := findClass_of_methodNamed Bd.named
  have hnm := (name_of_methodNamed Bd.named Bd.method).1
  have X0 : Stand p l e ({ frames := 0, cells := 0, slots := 0, locals := 0 } : Room) s m #[(.ref a1), (.int (1 : Int32)), (.int p3)] below meth c s₁ [] 0 0 := Stand.of_body Bd
  have e0 : s₁.heap = h0 := by rw [← hh, Bd.state]; rfl
  have N0 := Fr.nil n0
  have pre0 : ∀ t, Steps p.tables e below (s₁.setTop (mkF m 0 #[.val (.ref a1), .val (.int (1 : Int32)), .val (.int p3)] [])) t → Steps p.tables e below (s₁.setTop (entryFrame m #[(.ref a1), (.int (1 : Int32)), (.int p3)] 3)) t := fun t k => castTop (ef_3w1 m a1 p3) k
  obtain ⟨T101, X101, e101, st101⟩ := getF X0 hx hZ hown (host := "") (Or.inl (hw _ (List.mem_of_getElem? (i := 13) rfl))) Via.refl e0 H0 (g := (mkF m 1 #[.val (.ref a1), .val (.int (1 : Int32)), .val (.int p3)] [(.ref a1)])) rfl rfl (hb hby d3_1)
  obtain ⟨T102, X102, e102, st102⟩ := getF X101 hx hZ hown (host := "") (Or.inl (hw _ (List.mem_of_getElem? (i := 17) rfl))) Via.refl e101 H1 (g := (mkF m 19 #[.val (.ref a1), .val (.int (1 : Int32)), .val (.int p3)] [(.ref a1)])) rfl rfl (hb hby d3_19)
  obtain ⟨T103, X103, e103, st103⟩ := getF X102 hx hZ hown (host := "") (Or.inl (hw _ (List.mem_of_getElem? (i := 17) rfl))) Via.refl e102 H1 (g := (mkF m 26 #[.val (.ref a1), .val (.int (1 : Int32)), .val (.int p3)] [(.ref a1)])) rfl rfl (hb hby d3_26)
  obtain ⟨cl104, Ar104, qc104, S104, M104, Hh104, G104⟩ := id H2
  have hin104 : ¬ ((1 : Int32) < 0 ∨ cl104.slots.size ≤ ((1 : Int32)).toNatClampNeg) := inb_of S104 ⟨by decide, by decide⟩
  obtain ⟨T104, h104, X104, e104, W104, st104⟩ := stC X103 hx hZ e103 Ar104 (j := (1 : Int32)) hin104 (g := (mkF m 32 #[.val (.ref a1), .val (.int (1 : Int32)), .val (.int p3)] [(.int (p3.toUInt32.toUInt16.toUInt32.toInt32)), (.int (1 : Int32)), (.ref bb)])) rfl rfl (hb hby d3_32)
  have V104 : Arv Z h104 bb bk .char (3 : Int32) [(.int x0), (.int (nar .char (p3.toUInt32.toUInt16.toUInt32.toInt32))), (.int x2)] (.int (0 : Int32)) := Arv.set Ar104 qc104 S104 M104 Hh104 G104 (fits_nar_char _) W104 1 rfl (by first | decide | (simp; done))
  have N104 := Fr.snoc X104 N0 H3
  obtain ⟨fs, hr, hrun, hended, hW, hsame⟩ := X104.leave (v := none) (fun _ => rfl)
  refine ⟨_, _, pre0 _ ?_, hrun, hended, _, _, rfl, ?_, ⟨_, rfl⟩, hW, hsame.mono (by decide) (by decide)⟩
  · skip
    show Steps p.tables e below (s₁.setTop (mkF m 0 #[.val (.ref a1), .val (.int (1 : Int32)), .val (.int p3)] [])) _
    refine XS.aloadN X0.here hx rfl (hb hby d3_0) rfl rfl ?_
    show Steps p.tables e below (s₁.setTop (mkF m 1 #[.val (.ref a1), .val (.int (1 : Int32)), .val (.int p3)] [(.ref a1)])) _
    refine st101 _ ?_
    show Steps p.tables e below (T101.setTop (mkF m 4 #[.val (.ref a1), .val (.int (1 : Int32)), .val (.int p3)] [.null])) _
    refine XS.ifnullYes X101.here hx rfl (pc0 := 4) (pc' := 18) rfl (hb hby d3_4) rfl (by decide) (by decide) ?_
    show Steps p.tables e below (T101.setTop (mkF m 18 #[.val (.ref a1), .val (.int (1 : Int32)), .val (.int p3)] [])) _
    refine XS.aloadN X101.here hx rfl (hb hby d3_18) rfl rfl ?_
    show Steps p.tables e below (T101.setTop (mkF m 19 #[.val (.ref a1), .val (.int (1 : Int32)), .val (.int p3)] [(.ref a1)])) _
    refine st102 _ ?_
    show Steps p.tables e below (T102.setTop (mkF m 22 #[.val (.ref a1), .val (.int (1 : Int32)), .val (.int p3)] [(.ref bb)])) _
    refine XS.ifnullNo X102.here hx rfl (hb hby d3_22) rfl ?_
    show Steps p.tables e below (T102.setTop (mkF m 25 #[.val (.ref a1), .val (.int (1 : Int32)), .val (.int p3)] [])) _
    refine XS.aloadN X102.here hx rfl (hb hby d3_25) rfl rfl ?_
    show Steps p.tables e below (T102.setTop (mkF m 26 #[.val (.ref a1), .val (.int (1 : Int32)), .val (.int p3)] [(.ref a1)])) _
    refine st103 _ ?_
    show Steps p.tables e below (T103.setTop (mkF m 29 #[.val (.ref a1), .val (.int (1 : Int32)), .val (.int p3)] [(.ref bb)])) _
    refine XS.iloadN X103.here hx rfl (hb hby d3_29) rfl ?_
    show Steps p.tables e below (T103.setTop (mkF m 30 #[.val (.ref a1), .val (.int (1 : Int32)), .val (.int p3)] [(.int (1 : Int32)), (.ref bb)])) _
    refine XS.iloadN X103.here hx rfl (hb hby d3_30) rfl ?_
    show Steps p.tables e below (T103.setTop (mkF m 31 #[.val (.ref a1), .val (.int (1 : Int32)), .val (.int p3)] [(.int p3), (.int (1 : Int32)), (.ref bb)])) _
    refine XS.i2c X103.here hx rfl (hb hby d3_31) rfl ?_
    show Steps p.tables e below (T103.setTop (mkF m 32 #[.val (.ref a1), .val (.int (1 : Int32)), .val (.int p3)] [(.int (p3.toUInt32.toUInt16.toUInt32.toInt32)), (.int (1 : Int32)), (.ref bb)])) _
    refine st104 _ ?_
    show Steps p.tables e below (T104.setTop (mkF m 33 #[.val (.ref a1), .val (.int (1 : Int32)), .val (.int p3)] [])) _
    refine XS.goto X104.here hx rfl (pc0 := 33) (pc' := 43) rfl (hb hby d3_33) (by decide) (by decide) ?_
    show Steps p.tables e below (T104.setTop (mkF m 43 #[.val (.ref a1), .val (.int (1 : Int32)), .val (.int p3)] [])) _
    exact X104.returnOut hx Bd.returns (hb hby d3_43) hr
  · show Q3w1 Z a1 p3 bb bk x0 x1 x2 h0 n0 _ T104.heap _
    rw [e104]
    exact ⟨rfl, N104, ((Keep.refl h0 [bb]).wr W104 (Or.inl (List.mem_of_getElem? (i := 0) rfl))), V104⟩
theorem ef_3w2 (m : MethodId) (a1 : Addr) (p3 : Int32) : entryFrame m #[(.ref a1), (.int (2 : Int32)), (.int p3)] 3 = mkF m 0 #[.val (.ref a1), .val (.int (2 : Int32)), .val (.int p3)] [] := by first | (simp [entryFrame, mkF, argsToLocals, Value.category]; done) | rfl
def Q3w2 (Z : State) (a1 : Addr) (p3 : Int32) (bb : Addr) (bk : ClassId) (x0 : Int32) (x1 : Int32) (x2 : Int32) (h0 : Heap) (n0 : Nat) (v : Option Value) (h : Heap) (L : List Loc) : Prop := v = none ∧ Fr n0 L ∧ Keep h0 h [bb] ∧ Arv Z h bb bk .char (3 : Int32) [(.int x0), (.int x1), (.int (nar .char (p3.toUInt32.toUInt16.toUInt32.toInt32)))] (.int (0 : Int32))
set_option maxRecDepth 65536 in
set_option maxHeartbeats 40000000 in
theorem rm3w2 (l : Launch) (Z : State) (a0 : Array Value) (hw : ∀ d ∈ tables_1, d.before a0 Z = true) (ws : List Jvm.Cond) (a1 : Addr) (p3 : Int32) (bb : Addr) (bk : ClassId) (x0 : Int32) (x1 : Int32) (x2 : Int32) (h0 : Heap) (n0 : Nat) (Z0 : n0 ≤ h0.size) (H0 : Fld Z h0 a1 "com/example/plain_ranker/plainranker/data/BinArray" "bytes" "[B" .null) (H1 : Fld Z h0 a1 "com/example/plain_ranker/plainranker/data/BinArray" "chars" "[C" (.ref bb)) (H2 : Arv Z h0 bb bk .char (3 : Int32) [(.int x0), (.int x1), (.int x2)] (.int (0 : Int32))) (H3 : n0 ≤ bb) (H4 : Exa Z h0 a1 "com/example/plain_ranker/plainranker/data/BinArray") :
    MetFree l (⟨"com/example/plain_ranker/plainranker/data/BinArray", "set", "(II)V"⟩ : MethodName) (head1 (Jvm.Cond.code (⟨"com/example/plain_ranker/plainranker/data/BinArray", "set", "(II)V"⟩ : MethodName) prog_8_method_6_code 3 none :: ws) ({ frames := 0, cells := 0, slots := 0, locals := 0 } : Room)) (fun a U => a = #[(.ref a1), (.int (2 : Int32)), (.int p3)] ∧ Z.Warmed39 U.vm ∧ U.heap = h0) (fun _ _ _ _ _ => True) (fun _ U o U' => ∃ v L, o = .returned v ∧ Q3w2 Z a1 p3 bb bk x0 x1 x2 h0 n0 v U'.heap L ∧ FrameEnd U o U' L ({ frames := 0, cells := 0, slots := 0, locals := 0 } : Room).cells ({ frames := 0, cells := 0, slots := 0, locals := 0 } : Room).slots) := by
  refine MetFree.of_bodySF (plainFor_of_name pn_com_example_plain_ranker_plainranker_data_BinArray) hisR ?_
  intro p e s m args below meth c s₁ Bd hml0 hP hK
  obtain ⟨rfl, hZ, hh⟩ := hP
  have hx := Bd.exec
  have hby := Bd.bytes
  have hml : c.maxLocals = 3 := hml0
  have hown : s.vm.findClass "com/example/plain_ranker/plainranker/data/BinArray" = some m.cls := findClass_of_methodNamed Bd.named
  have hnm := (name_of_methodNamed Bd.named Bd.method).1
  have X0 : Stand p l e ({ frames := 0, cells := 0, slots := 0, locals := 0 } : Room) s m #[(.ref a1), (.int (2 : Int32)), (.int p3)] below meth c s₁ [] 0 0 := Stand.of_body Bd
  have e0 : s₁.heap = h0 := by rw [← hh, Bd.state]; rfl
  have N0 := Fr.nil n0
  have pre0 : ∀ t, Steps p.tables e below (s₁.setTop (mkF m 0 #[.val (.ref a1), .val (.int (2 : Int32)), .val (.int p3)] [])) t → Steps p.tables e below (s₁.setTop (entryFrame m #[(.ref a1), (.int (2 : Int32)), (.int p3)] 3)) t := fun t k => castTop (ef_3w2 m a1 p3) k
  obtain ⟨T101, X101, e101, st101⟩ := getF X0 hx hZ hown (host := "") (Or.inl (hw _ (List.mem_of_getElem? (i := 13) rfl))) Via.refl e0 H0 (g := (mkF m 1 #[.val (.ref a1), .val (.int (2 : Int32)), .val (.int p3)] [(.ref a1)])) rfl rfl (hb hby d3_1)
  obtain ⟨T102, X102, e102, st102⟩ := getF X101 hx hZ hown (host := "") (Or.inl (hw _ (List.mem_of_getElem? (i := 17) rfl))) Via.refl e101 H1 (g := (mkF m 19 #[.val (.ref a1), .val (.int (2 : Int32)), .val (.int p3)] [(.ref a1)])) rfl rfl (hb hby d3_19)
  obtain ⟨T103, X103, e103, st103⟩ := getF X102 hx hZ hown (host := "") (Or.inl (hw _ (List.mem_of_getElem? (i := 17) rfl))) Via.refl e102 H1 (g := (mkF m 26 #[.val (.ref a1), .val (.int (2 : Int32)), .val (.int p3)] [(.ref a1)])) rfl rfl (hb hby d3_26)
  obtain ⟨cl104, Ar104, qc104, S104, M104, Hh104, G104⟩ := id H2
  have hin104 : ¬ ((2 : Int32) < 0 ∨ cl104.slots.size ≤ ((2 : Int32)).toNatClampNeg) := inb_of S104 ⟨by decide, by decide⟩
  obtain ⟨T104, h104, X104, e104, W104, st104⟩ := stC X103 hx hZ e103 Ar104 (j := (2 : Int32)) hin104 (g := (mkF m 32 #[.val (.ref a1), .val (.int (2 : Int32)), .val (.int p3)] [(.int (p3.toUInt32.toUInt16.toUInt32.toInt32)), (.int (2 : Int32)), (.ref bb)])) rfl rfl (hb hby d3_32)
  have V104 : Arv Z h104 bb bk .char (3 : Int32) [(.int x0), (.int x1), (.int (nar .char (p3.toUInt32.toUInt16.toUInt32.toInt32)))] (.int (0 : Int32)) := Arv.set Ar104 qc104 S104 M104 Hh104 G104 (fits_nar_char _) W104 2 rfl (by first | decide | (simp; done))
  have N104 := Fr.snoc X104 N0 H3
  obtain ⟨fs, hr, hrun, hended, hW, hsame⟩ := X104.leave (v := none) (fun _ => rfl)
  refine ⟨_, _, pre0 _ ?_, hrun, hended, _, _, rfl, ?_, ⟨_, rfl⟩, hW, hsame.mono (by decide) (by decide)⟩
  · skip
    show Steps p.tables e below (s₁.setTop (mkF m 0 #[.val (.ref a1), .val (.int (2 : Int32)), .val (.int p3)] [])) _
    refine XS.aloadN X0.here hx rfl (hb hby d3_0) rfl rfl ?_
    show Steps p.tables e below (s₁.setTop (mkF m 1 #[.val (.ref a1), .val (.int (2 : Int32)), .val (.int p3)] [(.ref a1)])) _
    refine st101 _ ?_
    show Steps p.tables e below (T101.setTop (mkF m 4 #[.val (.ref a1), .val (.int (2 : Int32)), .val (.int p3)] [.null])) _
    refine XS.ifnullYes X101.here hx rfl (pc0 := 4) (pc' := 18) rfl (hb hby d3_4) rfl (by decide) (by decide) ?_
    show Steps p.tables e below (T101.setTop (mkF m 18 #[.val (.ref a1), .val (.int (2 : Int32)), .val (.int p3)] [])) _
    refine XS.aloadN X101.here hx rfl (hb hby d3_18) rfl rfl ?_
    show Steps p.tables e below (T101.setTop (mkF m 19 #[.val (.ref a1), .val (.int (2 : Int32)), .val (.int p3)] [(.ref a1)])) _
    refine st102 _ ?_
    show Steps p.tables e below (T102.setTop (mkF m 22 #[.val (.ref a1), .val (.int (2 : Int32)), .val (.int p3)] [(.ref bb)])) _
    refine XS.ifnullNo X102.here hx rfl (hb hby d3_22) rfl ?_
    show Steps p.tables e below (T102.setTop (mkF m 25 #[.val (.ref a1), .val (.int (2 : Int32)), .val (.int p3)] [])) _
    refine XS.aloadN X102.here hx rfl (hb hby d3_25) rfl rfl ?_
    show Steps p.tables e below (T102.setTop (mkF m 26 #[.val (.ref a1), .val (.int (2 : Int32)), .val (.int p3)] [(.ref a1)])) _
    refine st103 _ ?_
    show Steps p.tables e below (T103.setTop (mkF m 29 #[.val (.ref a1), .val (.int (2 : Int32)), .val (.int p3)] [(.ref bb)])) _
    refine XS.iloadN X103.here hx rfl (hb hby d3_29) rfl ?_
    show Steps p.tables e below (T103.setTop (mkF m 30 #[.val (.ref a1), .val (.int (2 : Int32)), .val (.int p3)] [(.int (2 : Int32)), (.ref bb)])) _
    refine XS.iloadN X103.here hx rfl (hb hby d3_30) rfl ?_
    show Steps p.tables e below (T103.setTop (mkF m 31 #[.val (.ref a1), .val (.int (2 : Int32)), .val (.int p3)] [(.int p3), (.int (2 : Int32)), (.ref bb)])) _
    refine XS.i2c X103.here hx rfl (hb hby d3_31) rfl ?_
    show Steps p.tables e below (T103.setTop (mkF m 32 #[.val (.ref a1), .val (.int (2 : Int32)), .val (.int p3)] [(.int (p3.toUInt32.toUInt16.toUInt32.toInt32)), (.int (2 : Int32)), (.ref bb)])) _
    refine st104 _ ?_
    show Steps p.tables e below (T104.setTop (mkF m 33 #[.val (.ref a1), .val (.int (2 : Int32)), .val (.int p3)] [])) _
    refine XS.goto X104.here hx rfl (pc0 := 33) (pc' := 43) rfl (hb hby d3_33) (by decide) (by decide) ?_
    show Steps p.tables e below (T104.setTop (mkF m 43 #[.val (.ref a1), .val (.int (2 : Int32)), .val (.int p3)] [])) _
    exact X104.returnOut hx Bd.returns (hb hby d3_43) hr
  · show Q3w2 Z a1 p3 bb bk x0 x1 x2 h0 n0 _ T104.heap _
    rw [e104]
    exact ⟨rfl, N104, ((Keep.refl h0 [bb]).wr W104 (Or.inl (List.mem_of_getElem? (i := 0) rfl))), V104⟩
theorem d4_0 : decode prog_8_method_7_code 0 = .ok (.aload_n 0, 1) := by decide +kernel
theorem d4_1 : decode prog_8_method_7_code 1 = .ok (.getfield 9, 3) := by decide +kernel
theorem d4_4 : decode prog_8_method_7_code 4 = .ok (.ifnull 39, 3) := by decide +kernel
theorem d4_7 : decode prog_8_method_7_code 7 = .ok (.iconst 0, 1) := by decide +kernel
theorem d4_8 : decode prog_8_method_7_code 8 = .ok (.istore_n 3, 1) := by decide +kernel
theorem d4_9 : decode prog_8_method_7_code 9 = .ok (.iload_n 3, 1) := by decide +kernel
theorem d4_10 : decode prog_8_method_7_code 10 = .ok (.iload_n 1, 1) := by decide +kernel
theorem d4_11 : decode prog_8_method_7_code 11 = .ok (.if_icmp .ge 29, 3) := by decide +kernel
theorem d4_14 : decode prog_8_method_7_code 14 = .ok (.aload_n 2, 1) := by decide +kernel
theorem d4_15 : decode prog_8_method_7_code 15 = .ok (.iload_n 3, 1) := by decide +kernel
theorem d4_16 : decode prog_8_method_7_code 16 = .ok (.dup2, 1) := by decide +kernel
theorem d4_17 : decode prog_8_method_7_code 17 = .ok (.iaload, 1) := by decide +kernel
theorem d4_18 : decode prog_8_method_7_code 18 = .ok (.aload_n 0, 1) := by decide +kernel
theorem d4_19 : decode prog_8_method_7_code 19 = .ok (.getfield 9, 3) := by decide +kernel
theorem d4_22 : decode prog_8_method_7_code 22 = .ok (.iload_n 3, 1) := by decide +kernel
theorem d4_23 : decode prog_8_method_7_code 23 = .ok (.baload, 1) := by decide +kernel
theorem d4_24 : decode prog_8_method_7_code 24 = .ok (.ifCond .eq 7, 3) := by decide +kernel
theorem d4_31 : decode prog_8_method_7_code 31 = .ok (.iconst 0, 1) := by decide +kernel
theorem d4_32 : decode prog_8_method_7_code 32 = .ok (.iadd, 1) := by decide +kernel
theorem d4_33 : decode prog_8_method_7_code 33 = .ok (.iastore, 1) := by decide +kernel
theorem d4_34 : decode prog_8_method_7_code 34 = .ok (.iinc 3 1, 3) := by decide +kernel
theorem d4_37 : decode prog_8_method_7_code 37 = .ok (.goto (-28), 3) := by decide +kernel
theorem d4_40 : decode prog_8_method_7_code 40 = .ok (.goto 36, 3) := by decide +kernel
theorem d4_76 : decode prog_8_method_7_code 76 = .ok (.return_, 1) := by decide +kernel
theorem d4_27 : decode prog_8_method_7_code 27 = .ok (.iconst 1, 1) := by decide +kernel
theorem d4_28 : decode prog_8_method_7_code 28 = .ok (.goto 4, 3) := by decide +kernel
theorem ef_4n (m : MethodId) (a1 : Addr) (p2 : Int32) (a3 : Addr) : entryFrame m #[(.ref a1), (.int p2), (.ref a3)] 4 = mkF m 0 #[.val (.ref a1), .val (.int p2), .val (.ref a3), .unset] [] := by first | (simp [entryFrame, mkF, argsToLocals, Value.category]; done) | rfl
def Q4n (Z : State) (a1 : Addr) (p2 : Int32) (a3 : Addr) (bb : Addr) (bk : ClassId) (ck : ClassId) (x0 : Int32) (x1 : Int32) (x2 : Int32) (c0 : Int32) (c1 : Int32) (c2 : Int32) (h0 : Heap) (n0 : Nat) (v : Option Value) (h : Heap) (L : List Loc) : Prop := v = none ∧ Fr n0 L ∧ Keep h0 h [a3] ∧ Arv Z h a3 ck .int (3 : Int32) [(.int (own_e c0 (0 : Int32) p2 x0)), (.int (own_e c1 (1 : Int32) p2 x1)), (.int (own_e c2 (2 : Int32) p2 x2))] (.int (0 : Int32))
set_option maxRecDepth 65536 in
set_option maxHeartbeats 40000000 in
theorem rm4n (l : Launch) (Z : State) (a0 : Array Value) (hw : ∀ d ∈ tables_1, d.before a0 Z = true) (ws : List Jvm.Cond) (a1 : Addr) (p2 : Int32) (a3 : Addr) (bb : Addr) (bk : ClassId) (ck : ClassId) (x0 : Int32) (x1 : Int32) (x2 : Int32) (c0 : Int32) (c1 : Int32) (c2 : Int32) (h0 : Heap) (n0 : Nat) (Z0 : n0 ≤ h0.size) (H0 : Fld Z h0 a1 "com/example/plain_ranker/plainranker/data/BinArray" "bytes" "[B" (.ref bb)) (H1 : Fld Z h0 a1 "com/example/plain_ranker/plainranker/data/BinArray" "chars" "[C" .null) (H2 : Arv Z h0 bb bk .byte (3 : Int32) [(.int x0), (.int x1), (.int x2)] (.int (0 : Int32))) (H3 : Arv Z h0 a3 ck .int (3 : Int32) [(.int c0), (.int c1), (.int c2)] (.int (0 : Int32))) (H4 : n0 ≤ a3) (H5 : bb ≠ a3) (H6 : Exa Z h0 a1 "com/example/plain_ranker/plainranker/data/BinArray") (H7 : ¬ ((3 : Int32) < p2)) :
    MetFree l (⟨"com/example/plain_ranker/plainranker/data/BinArray", "countNonZero", "(I[I)V"⟩ : MethodName) (head1 (Jvm.Cond.code (⟨"com/example/plain_ranker/plainranker/data/BinArray", "countNonZero", "(I[I)V"⟩ : MethodName) prog_8_method_7_code 4 none :: ws) ({ frames := 0, cells := 0, slots := 0, locals := 0 } : Room)) (fun a U => a = #[(.ref a1), (.int p2), (.ref a3)] ∧ Z.Warmed39 U.vm ∧ U.heap = h0) (fun _ _ _ _ _ => True) (fun _ U o U' => ∃ v L, o = .returned v ∧ Q4n Z a1 p2 a3 bb bk ck x0 x1 x2 c0 c1 c2 h0 n0 v U'.heap L ∧ FrameEnd U o U' L ({ frames := 0, cells := 0, slots := 0, locals := 0 } : Room).cells ({ frames := 0, cells := 0, slots := 0, locals := 0 } : Room).slots) := by
  refine MetFree.of_bodySF (plainFor_of_name pn_com_example_plain_ranker_plainranker_data_BinArray) hisR ?_
  intro p e s m args below meth c s₁ Bd hml0 hP hK
  obtain ⟨rfl, hZ, hh⟩ := hP
  have hx := Bd.exec
  have hby := Bd.bytes
  have hml : c.maxLocals = 4 := hml0
  have hown : s.vm.findClass "com/example/plain_ranker/plainranker/data/BinArray" = some m.cls := findClass_of_methodNamed Bd.named
  have hnm := (name_of_methodNamed Bd.named Bd.method).1
  have X0 : Stand p l e ({ frames := 0, cells := 0, slots := 0, locals := 0 } : Room) s m #[(.ref a1), (.int p2), (.ref a3)] below meth c s₁ [] 0 0 := Stand.of_body Bd
  have e0 : s₁.heap = h0 := by rw [← hh, Bd.state]; rfl
  have N0 := Fr.nil n0
  have pre0 : ∀ t, Steps p.tables e below (s₁.setTop (mkF m 0 #[.val (.ref a1), .val (.int p2), .val (.ref a3), .unset] [])) t → Steps p.tables e below (s₁.setTop (entryFrame m #[(.ref a1), (.int p2), (.ref a3)] 4)) t := fun t k => castTop (ef_4n m a1 p2 a3) k
  obtain ⟨T101, X101, e101, st101⟩ := getF X0 hx hZ hown (host := "") (Or.inl (hw _ (List.mem_of_getElem? (i := 13) rfl))) Via.refl e0 H0 (g := (mkF m 1 #[.val (.ref a1), .val (.int p2), .val (.ref a3), .unset] [(.ref a1)])) rfl rfl (hb hby d4_1)
  have pre102 : ∀ t, Steps p.tables e below (T101.setTop (mkF m 11 #[.val (.ref a1), .val (.int p2), .val (.ref a3), .val (.int (0 : Int32))] [(.int p2), (.int (0 : Int32))])) t → Steps p.tables e below (s₁.setTop (entryFrame m #[(.ref a1), (.int p2), (.ref a3)] 4)) t := fun t kt => by
    refine pre0 t ?_
    show Steps p.tables e below (s₁.setTop (mkF m 0 #[.val (.ref a1), .val (.int p2), .val (.ref a3), .unset] [])) _
    refine XS.aloadN X0.here hx rfl (hb hby d4_0) rfl rfl ?_
    show Steps p.tables e below (s₁.setTop (mkF m 1 #[.val (.ref a1), .val (.int p2), .val (.ref a3), .unset] [(.ref a1)])) _
    refine st101 _ ?_
    show Steps p.tables e below (T101.setTop (mkF m 4 #[.val (.ref a1), .val (.int p2), .val (.ref a3), .unset] [(.ref bb)])) _
    refine XS.ifnullNo X101.here hx rfl (hb hby d4_4) rfl ?_
    show Steps p.tables e below (T101.setTop (mkF m 7 #[.val (.ref a1), .val (.int p2), .val (.ref a3), .unset] [])) _
    refine XS.iconst X101.here hx rfl (hb hby d4_7) ?_
    show Steps p.tables e below (T101.setTop (mkF m 8 #[.val (.ref a1), .val (.int p2), .val (.ref a3), .unset] [(.int (0 : Int32))])) _
    refine XS.istoreN X101.here hx rfl (hb hby d4_8) rfl (l' := #[.val (.ref a1), .val (.int p2), .val (.ref a3), .val (.int (0 : Int32))]) rfl ?_
    show Steps p.tables e below (T101.setTop (mkF m 9 #[.val (.ref a1), .val (.int p2), .val (.ref a3), .val (.int (0 : Int32))] [])) _
    refine XS.iloadN X101.here hx rfl (hb hby d4_9) rfl ?_
    show Steps p.tables e below (T101.setTop (mkF m 10 #[.val (.ref a1), .val (.int p2), .val (.ref a3), .val (.int (0 : Int32))] [(.int (0 : Int32))])) _
    refine XS.iloadN X101.here hx rfl (hb hby d4_10) rfl ?_
    show Steps p.tables e below (T101.setTop (mkF m 11 #[.val (.ref a1), .val (.int p2), .val (.ref a3), .val (.int (0 : Int32))] [(.int p2), (.int (0 : Int32))])) _
    exact kt
  by_cases hc11_103 : (0 : Int32) < p2
  · skip
    obtain ⟨cl104, Ar104, qc104, S104, M104, Hh104, G104⟩ := id H3
    have hin104 : ¬ ((0 : Int32) < 0 ∨ cl104.slots.size ≤ ((0 : Int32)).toNatClampNeg) := inb_of S104 ⟨by decide, by decide⟩
    obtain ⟨T105, X105, e105, st105⟩ := getF X101 hx hZ hown (host := "") (Or.inl (hw _ (List.mem_of_getElem? (i := 13) rfl))) Via.refl e101 H0 (g := (mkF m 19 #[.val (.ref a1), .val (.int p2), .val (.ref a3), .val (.int (0 : Int32))] [(.ref a1), (.int c0), (.int (0 : Int32)), (.ref a3)])) rfl rfl (hb hby d4_19)
    obtain ⟨cl106, Ar106, qc106, S106, M106, Hh106, G106⟩ := id H2
    have hin106 : ¬ ((0 : Int32) < 0 ∨ cl106.slots.size ≤ ((0 : Int32)).toNatClampNeg) := inb_of S106 ⟨by decide, by decide⟩
    have pre107 : ∀ t, Steps p.tables e below (T105.setTop (mkF m 24 #[.val (.ref a1), .val (.int p2), .val (.ref a3), .val (.int (0 : Int32))] [(.int x0), (.int c0), (.int (0 : Int32)), (.ref a3)])) t → Steps p.tables e below (s₁.setTop (entryFrame m #[(.ref a1), (.int p2), (.ref a3)] 4)) t := fun t kt => by
      refine pre102 t ?_
      show Steps p.tables e below (T101.setTop (mkF m 11 #[.val (.ref a1), .val (.int p2), .val (.ref a3), .val (.int (0 : Int32))] [(.int p2), (.int (0 : Int32))])) _
      refine XS.icmpNo X101.here hx rfl (hb hby d4_11) rfl (tlt (hc11_103 : (0 : Int32) < p2)).2.1 ?_
      show Steps p.tables e below (T101.setTop (mkF m 14 #[.val (.ref a1), .val (.int p2), .val (.ref a3), .val (.int (0 : Int32))] [])) _
      refine XS.aloadN X101.here hx rfl (hb hby d4_14) rfl rfl ?_
      show Steps p.tables e below (T101.setTop (mkF m 15 #[.val (.ref a1), .val (.int p2), .val (.ref a3), .val (.int (0 : Int32))] [(.ref a3)])) _
      refine XS.iloadN X101.here hx rfl (hb hby d4_15) rfl ?_
      show Steps p.tables e below (T101.setTop (mkF m 16 #[.val (.ref a1), .val (.int p2), .val (.ref a3), .val (.int (0 : Int32))] [(.int (0 : Int32)), (.ref a3)])) _
      refine XT.dup2 X101.here hx rfl (hb hby d4_16) rfl rfl rfl ?_
      show Steps p.tables e below (T101.setTop (mkF m 17 #[.val (.ref a1), .val (.int p2), .val (.ref a3), .val (.int (0 : Int32))] [(.int (0 : Int32)), (.ref a3), (.int (0 : Int32)), (.ref a3)])) _
      refine X101.iaload hx (j := (0 : Int32)) (v := (.int c0)) (by rw [e101]; exact Ar104.1) (State.isArrayOf_alike hZ.alike Ar104.2.1) Ar104.2.2 hin104 (Hh104.at hin104 (rfl)) (g := (mkF m 17 #[.val (.ref a1), .val (.int p2), .val (.ref a3), .val (.int (0 : Int32))] [(.int (0 : Int32)), (.ref a3), (.int (0 : Int32)), (.ref a3)])) rfl rfl (hb hby d4_17) _ ?_
      show Steps p.tables e below (T101.setTop (mkF m 18 #[.val (.ref a1), .val (.int p2), .val (.ref a3), .val (.int (0 : Int32))] [(.int c0), (.int (0 : Int32)), (.ref a3)])) _
      refine XS.aloadN X101.here hx rfl (hb hby d4_18) rfl rfl ?_
      show Steps p.tables e below (T101.setTop (mkF m 19 #[.val (.ref a1), .val (.int p2), .val (.ref a3), .val (.int (0 : Int32))] [(.ref a1), (.int c0), (.int (0 : Int32)), (.ref a3)])) _
      refine st105 _ ?_
      show Steps p.tables e below (T105.setTop (mkF m 22 #[.val (.ref a1), .val (.int p2), .val (.ref a3), .val (.int (0 : Int32))] [(.ref bb), (.int c0), (.int (0 : Int32)), (.ref a3)])) _
      refine XS.iloadN X105.here hx rfl (hb hby d4_22) rfl ?_
      show Steps p.tables e below (T105.setTop (mkF m 23 #[.val (.ref a1), .val (.int p2), .val (.ref a3), .val (.int (0 : Int32))] [(.int (0 : Int32)), (.ref bb), (.int c0), (.int (0 : Int32)), (.ref a3)])) _
      refine X105.baloadBytes hx (j := (0 : Int32)) (v := (.int x0)) (by rw [e105]; exact Ar106.1) (State.isArrayOf_alike hZ.alike Ar106.2.1) Ar106.2.2 hin106 (Hh106.at hin106 (rfl)) (g := (mkF m 23 #[.val (.ref a1), .val (.int p2), .val (.ref a3), .val (.int (0 : Int32))] [(.int (0 : Int32)), (.ref bb), (.int c0), (.int (0 : Int32)), (.ref a3)])) rfl rfl (hb hby d4_23) _ ?_
      show Steps p.tables e below (T105.setTop (mkF m 24 #[.val (.ref a1), .val (.int p2), .val (.ref a3), .val (.int (0 : Int32))] [(.int x0), (.int c0), (.int (0 : Int32)), (.ref a3)])) _
      exact kt
    by_cases hc24_108 : x0 = (0 : Int32)
    · skip
      obtain ⟨cl109, Ar109, qc109, S109, M109, Hh109, G109⟩ := id H3
      have hin109 : ¬ ((0 : Int32) < 0 ∨ cl109.slots.size ≤ ((0 : Int32)).toNatClampNeg) := inb_of S109 ⟨by decide, by decide⟩
      obtain ⟨T109, h109, X109, e109, W109, st109⟩ := stI X105 hx hZ e105 Ar109 (j := (0 : Int32)) hin109 (g := (mkF m 33 #[.val (.ref a1), .val (.int p2), .val (.ref a3), .val (.int (0 : Int32))] [(.int (c0 + (0 : Int32))), (.int (0 : Int32)), (.ref a3)])) rfl rfl (hb hby d4_33)
      have V109 : Arv Z h109 a3 ck .int (3 : Int32) [(.int (c0 + (0 : Int32))), (.int c1), (.int c2)] (.int (0 : Int32)) := Arv.set Ar109 qc109 S109 M109 Hh109 G109 rfl W109 0 rfl (by first | decide | (simp; done))
      have N109 := Fr.snoc X109 N0 H4
      have pre110 : ∀ t, Steps p.tables e below (T109.setTop (mkF m 11 #[.val (.ref a1), .val (.int p2), .val (.ref a3), .val (.int (1 : Int32))] [(.int p2), (.int (1 : Int32))])) t → Steps p.tables e below (s₁.setTop (entryFrame m #[(.ref a1), (.int p2), (.ref a3)] 4)) t := fun t kt => by
        refine pre107 t ?_
        show Steps p.tables e below (T105.setTop (mkF m 24 #[.val (.ref a1), .val (.int p2), .val (.ref a3), .val (.int (0 : Int32))] [(.int x0), (.int c0), (.int (0 : Int32)), (.ref a3)])) _
        refine XS.ifYes X105.here hx rfl (pc0 := 24) (pc' := 31) rfl (hb hby d4_24) rfl ((if0 _ _).trans (teq (hc24_108 : x0 = (0 : Int32))).1) (by decide) (by decide) ?_
        show Steps p.tables e below (T105.setTop (mkF m 31 #[.val (.ref a1), .val (.int p2), .val (.ref a3), .val (.int (0 : Int32))] [(.int c0), (.int (0 : Int32)), (.ref a3)])) _
        refine XS.iconst X105.here hx rfl (hb hby d4_31) ?_
        show Steps p.tables e below (T105.setTop (mkF m 32 #[.val (.ref a1), .val (.int p2), .val (.ref a3), .val (.int (0 : Int32))] [(.int (0 : Int32)), (.int c0), (.int (0 : Int32)), (.ref a3)])) _
        refine XS.iadd X105.here hx rfl (hb hby d4_32) rfl ?_
        show Steps p.tables e below (T105.setTop (mkF m 33 #[.val (.ref a1), .val (.int p2), .val (.ref a3), .val (.int (0 : Int32))] [(.int (c0 + (0 : Int32))), (.int (0 : Int32)), (.ref a3)])) _
        refine st109 _ ?_
        show Steps p.tables e below (T109.setTop (mkF m 34 #[.val (.ref a1), .val (.int p2), .val (.ref a3), .val (.int (0 : Int32))] [])) _
        refine XS.iinc X109.here hx rfl (hb hby d4_34) rfl (l' := #[.val (.ref a1), .val (.int p2), .val (.ref a3), .val (.int ((0 : Int32) + (1 : Int32)))]) rfl ?_
        show Steps p.tables e below (T109.setTop (mkF m 37 #[.val (.ref a1), .val (.int p2), .val (.ref a3), .val (.int ((0 : Int32) + (1 : Int32)))] [])) _
        rw [show ((0 : Int32) + (1 : Int32)) = (1 : Int32) from by decide]
        show Steps p.tables e below (T109.setTop (mkF m 37 #[.val (.ref a1), .val (.int p2), .val (.ref a3), .val (.int (1 : Int32))] [])) _
        refine XS.goto X109.here hx rfl (pc0 := 37) (pc' := 9) rfl (hb hby d4_37) (by decide) (by decide) ?_
        show Steps p.tables e below (T109.setTop (mkF m 9 #[.val (.ref a1), .val (.int p2), .val (.ref a3), .val (.int (1 : Int32))] [])) _
        refine XS.iloadN X109.here hx rfl (hb hby d4_9) rfl ?_
        show Steps p.tables e below (T109.setTop (mkF m 10 #[.val (.ref a1), .val (.int p2), .val (.ref a3), .val (.int (1 : Int32))] [(.int (1 : Int32))])) _
        refine XS.iloadN X109.here hx rfl (hb hby d4_10) rfl ?_
        show Steps p.tables e below (T109.setTop (mkF m 11 #[.val (.ref a1), .val (.int p2), .val (.ref a3), .val (.int (1 : Int32))] [(.int p2), (.int (1 : Int32))])) _
        exact kt
      by_cases hc11_111 : (1 : Int32) < p2
      · skip
        obtain ⟨cl112, Ar112, qc112, S112, M112, Hh112, G112⟩ := id V109
        have hin112 : ¬ ((1 : Int32) < 0 ∨ cl112.slots.size ≤ ((1 : Int32)).toNatClampNeg) := inb_of S112 ⟨by decide, by decide⟩
        have ne113 : a1 ≠ a3 := Exa.neArv (H6.wr W109) V109 (hw _ (List.mem_of_getElem? (i := 5) rfl))
        have f114 : Fld Z h109 a1 "com/example/plain_ranker/plainranker/data/BinArray" "bytes" "[B" (.ref bb) := (H0.other W109 (Or.inl ne113))
        obtain ⟨T115, X115, e115, st115⟩ := getF X109 hx hZ hown (host := "") (Or.inl (hw _ (List.mem_of_getElem? (i := 13) rfl))) Via.refl e109 f114 (g := (mkF m 19 #[.val (.ref a1), .val (.int p2), .val (.ref a3), .val (.int (1 : Int32))] [(.ref a1), (.int c1), (.int (1 : Int32)), (.ref a3)])) rfl rfl (hb hby d4_19)
        have f116 : Arv Z h109 bb bk .byte (3 : Int32) [(.int x0), (.int x1), (.int x2)] (.int (0 : Int32)) := (H2.other W109 H5)
        obtain ⟨cl117, Ar117, qc117, S117, M117, Hh117, G117⟩ := id f116
        have hin117 : ¬ ((1 : Int32) < 0 ∨ cl117.slots.size ≤ ((1 : Int32)).toNatClampNeg) := inb_of S117 ⟨by decide, by decide⟩
        have pre118 : ∀ t, Steps p.tables e below (T115.setTop (mkF m 24 #[.val (.ref a1), .val (.int p2), .val (.ref a3), .val (.int (1 : Int32))] [(.int x1), (.int c1), (.int (1 : Int32)), (.ref a3)])) t → Steps p.tables e below (s₁.setTop (entryFrame m #[(.ref a1), (.int p2), (.ref a3)] 4)) t := fun t kt => by
          refine pre110 t ?_
          show Steps p.tables e below (T109.setTop (mkF m 11 #[.val (.ref a1), .val (.int p2), .val (.ref a3), .val (.int (1 : Int32))] [(.int p2), (.int (1 : Int32))])) _
          refine XS.icmpNo X109.here hx rfl (hb hby d4_11) rfl (tlt (hc11_111 : (1 : Int32) < p2)).2.1 ?_
          show Steps p.tables e below (T109.setTop (mkF m 14 #[.val (.ref a1), .val (.int p2), .val (.ref a3), .val (.int (1 : Int32))] [])) _
          refine XS.aloadN X109.here hx rfl (hb hby d4_14) rfl rfl ?_
          show Steps p.tables e below (T109.setTop (mkF m 15 #[.val (.ref a1), .val (.int p2), .val (.ref a3), .val (.int (1 : Int32))] [(.ref a3)])) _
          refine XS.iloadN X109.here hx rfl (hb hby d4_15) rfl ?_
          show Steps p.tables e below (T109.setTop (mkF m 16 #[.val (.ref a1), .val (.int p2), .val (.ref a3), .val (.int (1 : Int32))] [(.int (1 : Int32)), (.ref a3)])) _
          refine XT.dup2 X109.here hx rfl (hb hby d4_16) rfl rfl rfl ?_
          show Steps p.tables e below (T109.setTop (mkF m 17 #[.val (.ref a1), .val (.int p2), .val (.ref a3), .val (.int (1 : Int32))] [(.int (1 : Int32)), (.ref a3), (.int (1 : Int32)), (.ref a3)])) _
          refine X109.iaload hx (j := (1 : Int32)) (v := (.int c1)) (by rw [e109]; exact Ar112.1) (State.isArrayOf_alike hZ.alike Ar112.2.1) Ar112.2.2 hin112 (Hh112.at hin112 (rfl)) (g := (mkF m 17 #[.val (.ref a1), .val (.int p2), .val (.ref a3), .val (.int (1 : Int32))] [(.int (1 : Int32)), (.ref a3), (.int (1 : Int32)), (.ref a3)])) rfl rfl (hb hby d4_17) _ ?_
          show Steps p.tables e below (T109.setTop (mkF m 18 #[.val (.ref a1), .val (.int p2), .val (.ref a3), .val (.int (1 : Int32))] [(.int c1), (.int (1 : Int32)), (.ref a3)])) _
          refine XS.aloadN X109.here hx rfl (hb hby d4_18) rfl rfl ?_
          show Steps p.tables e below (T109.setTop (mkF m 19 #[.val (.ref a1), .val (.int p2), .val (.ref a3), .val (.int (1 : Int32))] [(.ref a1), (.int c1), (.int (1 : Int32)), (.ref a3)])) _
          refine st115 _ ?_
          show Steps p.tables e below (T115.setTop (mkF m 22 #[.val (.ref a1), .val (.int p2), .val (.ref a3), .val (.int (1 : Int32))] [(.ref bb), (.int c1), (.int (1 : Int32)), (.ref a3)])) _
          refine XS.iloadN X115.here hx rfl (hb hby d4_22) rfl ?_
          show Steps p.tables e below (T115.setTop (mkF m 23 #[.val (.ref a1), .val (.int p2), .val (.ref a3), .val (.int (1 : Int32))] [(.int (1 : Int32)), (.ref bb), (.int c1), (.int (1 : Int32)), (.ref a3)])) _
          refine X115.baloadBytes hx (j := (1 : Int32)) (v := (.int x1)) (by rw [e115]; exact Ar117.1) (State.isArrayOf_alike hZ.alike Ar117.2.1) Ar117.2.2 hin117 (Hh117.at hin117 (rfl)) (g := (mkF m 23 #[.val (.ref a1), .val (.int p2), .val (.ref a3), .val (.int (1 : Int32))] [(.int (1 : Int32)), (.ref bb), (.int c1), (.int (1 : Int32)), (.ref a3)])) rfl rfl (hb hby d4_23) _ ?_
          show Steps p.tables e below (T115.setTop (mkF m 24 #[.val (.ref a1), .val (.int p2), .val (.ref a3), .val (.int (1 : Int32))] [(.int x1), (.int c1), (.int (1 : Int32)), (.ref a3)])) _
          exact kt
        by_cases hc24_119 : x1 = (0 : Int32)
        · skip
          obtain ⟨cl120, Ar120, qc120, S120, M120, Hh120, G120⟩ := id V109
          have hin120 : ¬ ((1 : Int32) < 0 ∨ cl120.slots.size ≤ ((1 : Int32)).toNatClampNeg) := inb_of S120 ⟨by decide, by decide⟩
          obtain ⟨T120, h120, X120, e120, W120, st120⟩ := stI X115 hx hZ e115 Ar120 (j := (1 : Int32)) hin120 (g := (mkF m 33 #[.val (.ref a1), .val (.int p2), .val (.ref a3), .val (.int (1 : Int32))] [(.int (c1 + (0 : Int32))), (.int (1 : Int32)), (.ref a3)])) rfl rfl (hb hby d4_33)
          have V120 : Arv Z h120 a3 ck .int (3 : Int32) [(.int (c0 + (0 : Int32))), (.int (c1 + (0 : Int32))), (.int c2)] (.int (0 : Int32)) := Arv.set Ar120 qc120 S120 M120 Hh120 G120 rfl W120 1 rfl (by first | decide | (simp; done))
          have N120 := Fr.snoc X120 N109 H4
          have pre121 : ∀ t, Steps p.tables e below (T120.setTop (mkF m 11 #[.val (.ref a1), .val (.int p2), .val (.ref a3), .val (.int (2 : Int32))] [(.int p2), (.int (2 : Int32))])) t → Steps p.tables e below (s₁.setTop (entryFrame m #[(.ref a1), (.int p2), (.ref a3)] 4)) t := fun t kt => by
            refine pre118 t ?_
            show Steps p.tables e below (T115.setTop (mkF m 24 #[.val (.ref a1), .val (.int p2), .val (.ref a3), .val (.int (1 : Int32))] [(.int x1), (.int c1), (.int (1 : Int32)), (.ref a3)])) _
            refine XS.ifYes X115.here hx rfl (pc0 := 24) (pc' := 31) rfl (hb hby d4_24) rfl ((if0 _ _).trans (teq (hc24_119 : x1 = (0 : Int32))).1) (by decide) (by decide) ?_
            show Steps p.tables e below (T115.setTop (mkF m 31 #[.val (.ref a1), .val (.int p2), .val (.ref a3), .val (.int (1 : Int32))] [(.int c1), (.int (1 : Int32)), (.ref a3)])) _
            refine XS.iconst X115.here hx rfl (hb hby d4_31) ?_
            show Steps p.tables e below (T115.setTop (mkF m 32 #[.val (.ref a1), .val (.int p2), .val (.ref a3), .val (.int (1 : Int32))] [(.int (0 : Int32)), (.int c1), (.int (1 : Int32)), (.ref a3)])) _
            refine XS.iadd X115.here hx rfl (hb hby d4_32) rfl ?_
            show Steps p.tables e below (T115.setTop (mkF m 33 #[.val (.ref a1), .val (.int p2), .val (.ref a3), .val (.int (1 : Int32))] [(.int (c1 + (0 : Int32))), (.int (1 : Int32)), (.ref a3)])) _
            refine st120 _ ?_
            show Steps p.tables e below (T120.setTop (mkF m 34 #[.val (.ref a1), .val (.int p2), .val (.ref a3), .val (.int (1 : Int32))] [])) _
            refine XS.iinc X120.here hx rfl (hb hby d4_34) rfl (l' := #[.val (.ref a1), .val (.int p2), .val (.ref a3), .val (.int ((1 : Int32) + (1 : Int32)))]) rfl ?_
            show Steps p.tables e below (T120.setTop (mkF m 37 #[.val (.ref a1), .val (.int p2), .val (.ref a3), .val (.int ((1 : Int32) + (1 : Int32)))] [])) _
            rw [show ((1 : Int32) + (1 : Int32)) = (2 : Int32) from by decide]
            show Steps p.tables e below (T120.setTop (mkF m 37 #[.val (.ref a1), .val (.int p2), .val (.ref a3), .val (.int (2 : Int32))] [])) _
            refine XS.goto X120.here hx rfl (pc0 := 37) (pc' := 9) rfl (hb hby d4_37) (by decide) (by decide) ?_
            show Steps p.tables e below (T120.setTop (mkF m 9 #[.val (.ref a1), .val (.int p2), .val (.ref a3), .val (.int (2 : Int32))] [])) _
            refine XS.iloadN X120.here hx rfl (hb hby d4_9) rfl ?_
            show Steps p.tables e below (T120.setTop (mkF m 10 #[.val (.ref a1), .val (.int p2), .val (.ref a3), .val (.int (2 : Int32))] [(.int (2 : Int32))])) _
            refine XS.iloadN X120.here hx rfl (hb hby d4_10) rfl ?_
            show Steps p.tables e below (T120.setTop (mkF m 11 #[.val (.ref a1), .val (.int p2), .val (.ref a3), .val (.int (2 : Int32))] [(.int p2), (.int (2 : Int32))])) _
            exact kt
          by_cases hc11_122 : (2 : Int32) < p2
          · skip
            obtain ⟨cl123, Ar123, qc123, S123, M123, Hh123, G123⟩ := id V120
            have hin123 : ¬ ((2 : Int32) < 0 ∨ cl123.slots.size ≤ ((2 : Int32)).toNatClampNeg) := inb_of S123 ⟨by decide, by decide⟩
            have f124 : Fld Z h120 a1 "com/example/plain_ranker/plainranker/data/BinArray" "bytes" "[B" (.ref bb) := (f114.other W120 (Or.inl ne113))
            obtain ⟨T125, X125, e125, st125⟩ := getF X120 hx hZ hown (host := "") (Or.inl (hw _ (List.mem_of_getElem? (i := 13) rfl))) Via.refl e120 f124 (g := (mkF m 19 #[.val (.ref a1), .val (.int p2), .val (.ref a3), .val (.int (2 : Int32))] [(.ref a1), (.int c2), (.int (2 : Int32)), (.ref a3)])) rfl rfl (hb hby d4_19)
            have f126 : Arv Z h120 bb bk .byte (3 : Int32) [(.int x0), (.int x1), (.int x2)] (.int (0 : Int32)) := (f116.other W120 H5)
            obtain ⟨cl127, Ar127, qc127, S127, M127, Hh127, G127⟩ := id f126
            have hin127 : ¬ ((2 : Int32) < 0 ∨ cl127.slots.size ≤ ((2 : Int32)).toNatClampNeg) := inb_of S127 ⟨by decide, by decide⟩
            have pre128 : ∀ t, Steps p.tables e below (T125.setTop (mkF m 24 #[.val (.ref a1), .val (.int p2), .val (.ref a3), .val (.int (2 : Int32))] [(.int x2), (.int c2), (.int (2 : Int32)), (.ref a3)])) t → Steps p.tables e below (s₁.setTop (entryFrame m #[(.ref a1), (.int p2), (.ref a3)] 4)) t := fun t kt => by
              refine pre121 t ?_
              show Steps p.tables e below (T120.setTop (mkF m 11 #[.val (.ref a1), .val (.int p2), .val (.ref a3), .val (.int (2 : Int32))] [(.int p2), (.int (2 : Int32))])) _
              refine XS.icmpNo X120.here hx rfl (hb hby d4_11) rfl (tlt (hc11_122 : (2 : Int32) < p2)).2.1 ?_
              show Steps p.tables e below (T120.setTop (mkF m 14 #[.val (.ref a1), .val (.int p2), .val (.ref a3), .val (.int (2 : Int32))] [])) _
              refine XS.aloadN X120.here hx rfl (hb hby d4_14) rfl rfl ?_
              show Steps p.tables e below (T120.setTop (mkF m 15 #[.val (.ref a1), .val (.int p2), .val (.ref a3), .val (.int (2 : Int32))] [(.ref a3)])) _
              refine XS.iloadN X120.here hx rfl (hb hby d4_15) rfl ?_
              show Steps p.tables e below (T120.setTop (mkF m 16 #[.val (.ref a1), .val (.int p2), .val (.ref a3), .val (.int (2 : Int32))] [(.int (2 : Int32)), (.ref a3)])) _
              refine XT.dup2 X120.here hx rfl (hb hby d4_16) rfl rfl rfl ?_
              show Steps p.tables e below (T120.setTop (mkF m 17 #[.val (.ref a1), .val (.int p2), .val (.ref a3), .val (.int (2 : Int32))] [(.int (2 : Int32)), (.ref a3), (.int (2 : Int32)), (.ref a3)])) _
              refine X120.iaload hx (j := (2 : Int32)) (v := (.int c2)) (by rw [e120]; exact Ar123.1) (State.isArrayOf_alike hZ.alike Ar123.2.1) Ar123.2.2 hin123 (Hh123.at hin123 (rfl)) (g := (mkF m 17 #[.val (.ref a1), .val (.int p2), .val (.ref a3), .val (.int (2 : Int32))] [(.int (2 : Int32)), (.ref a3), (.int (2 : Int32)), (.ref a3)])) rfl rfl (hb hby d4_17) _ ?_
              show Steps p.tables e below (T120.setTop (mkF m 18 #[.val (.ref a1), .val (.int p2), .val (.ref a3), .val (.int (2 : Int32))] [(.int c2), (.int (2 : Int32)), (.ref a3)])) _
              refine XS.aloadN X120.here hx rfl (hb hby d4_18) rfl rfl ?_
              show Steps p.tables e below (T120.setTop (mkF m 19 #[.val (.ref a1), .val (.int p2), .val (.ref a3), .val (.int (2 : Int32))] [(.ref a1), (.int c2), (.int (2 : Int32)), (.ref a3)])) _
              refine st125 _ ?_
              show Steps p.tables e below (T125.setTop (mkF m 22 #[.val (.ref a1), .val (.int p2), .val (.ref a3), .val (.int (2 : Int32))] [(.ref bb), (.int c2), (.int (2 : Int32)), (.ref a3)])) _
              refine XS.iloadN X125.here hx rfl (hb hby d4_22) rfl ?_
              show Steps p.tables e below (T125.setTop (mkF m 23 #[.val (.ref a1), .val (.int p2), .val (.ref a3), .val (.int (2 : Int32))] [(.int (2 : Int32)), (.ref bb), (.int c2), (.int (2 : Int32)), (.ref a3)])) _
              refine X125.baloadBytes hx (j := (2 : Int32)) (v := (.int x2)) (by rw [e125]; exact Ar127.1) (State.isArrayOf_alike hZ.alike Ar127.2.1) Ar127.2.2 hin127 (Hh127.at hin127 (rfl)) (g := (mkF m 23 #[.val (.ref a1), .val (.int p2), .val (.ref a3), .val (.int (2 : Int32))] [(.int (2 : Int32)), (.ref bb), (.int c2), (.int (2 : Int32)), (.ref a3)])) rfl rfl (hb hby d4_23) _ ?_
              show Steps p.tables e below (T125.setTop (mkF m 24 #[.val (.ref a1), .val (.int p2), .val (.ref a3), .val (.int (2 : Int32))] [(.int x2), (.int c2), (.int (2 : Int32)), (.ref a3)])) _
              exact kt
            by_cases hc24_129 : x2 = (0 : Int32)
            · skip
              obtain ⟨cl130, Ar130, qc130, S130, M130, Hh130, G130⟩ := id V120
              have hin130 : ¬ ((2 : Int32) < 0 ∨ cl130.slots.size ≤ ((2 : Int32)).toNatClampNeg) := inb_of S130 ⟨by decide, by decide⟩
              obtain ⟨T130, h130, X130, e130, W130, st130⟩ := stI X125 hx hZ e125 Ar130 (j := (2 : Int32)) hin130 (g := (mkF m 33 #[.val (.ref a1), .val (.int p2), .val (.ref a3), .val (.int (2 : Int32))] [(.int (c2 + (0 : Int32))), (.int (2 : Int32)), (.ref a3)])) rfl rfl (hb hby d4_33)
              have V130 : Arv Z h130 a3 ck .int (3 : Int32) [(.int (c0 + (0 : Int32))), (.int (c1 + (0 : Int32))), (.int (c2 + (0 : Int32)))] (.int (0 : Int32)) := Arv.set Ar130 qc130 S130 M130 Hh130 G130 rfl W130 2 rfl (by first | decide | (simp; done))
              have N130 := Fr.snoc X130 N120 H4
              obtain ⟨fs, hr, hrun, hended, hW, hsame⟩ := X130.leave (v := none) (fun _ => rfl)
              refine ⟨_, _, pre128 _ ?_, hrun, hended, _, _, rfl, ?_, ⟨_, rfl⟩, hW, hsame.mono (by decide) (by decide)⟩
              · skip
                show Steps p.tables e below (T125.setTop (mkF m 24 #[.val (.ref a1), .val (.int p2), .val (.ref a3), .val (.int (2 : Int32))] [(.int x2), (.int c2), (.int (2 : Int32)), (.ref a3)])) _
                refine XS.ifYes X125.here hx rfl (pc0 := 24) (pc' := 31) rfl (hb hby d4_24) rfl ((if0 _ _).trans (teq (hc24_129 : x2 = (0 : Int32))).1) (by decide) (by decide) ?_
                show Steps p.tables e below (T125.setTop (mkF m 31 #[.val (.ref a1), .val (.int p2), .val (.ref a3), .val (.int (2 : Int32))] [(.int c2), (.int (2 : Int32)), (.ref a3)])) _
                refine XS.iconst X125.here hx rfl (hb hby d4_31) ?_
                show Steps p.tables e below (T125.setTop (mkF m 32 #[.val (.ref a1), .val (.int p2), .val (.ref a3), .val (.int (2 : Int32))] [(.int (0 : Int32)), (.int c2), (.int (2 : Int32)), (.ref a3)])) _
                refine XS.iadd X125.here hx rfl (hb hby d4_32) rfl ?_
                show Steps p.tables e below (T125.setTop (mkF m 33 #[.val (.ref a1), .val (.int p2), .val (.ref a3), .val (.int (2 : Int32))] [(.int (c2 + (0 : Int32))), (.int (2 : Int32)), (.ref a3)])) _
                refine st130 _ ?_
                show Steps p.tables e below (T130.setTop (mkF m 34 #[.val (.ref a1), .val (.int p2), .val (.ref a3), .val (.int (2 : Int32))] [])) _
                refine XS.iinc X130.here hx rfl (hb hby d4_34) rfl (l' := #[.val (.ref a1), .val (.int p2), .val (.ref a3), .val (.int ((2 : Int32) + (1 : Int32)))]) rfl ?_
                show Steps p.tables e below (T130.setTop (mkF m 37 #[.val (.ref a1), .val (.int p2), .val (.ref a3), .val (.int ((2 : Int32) + (1 : Int32)))] [])) _
                rw [show ((2 : Int32) + (1 : Int32)) = (3 : Int32) from by decide]
                show Steps p.tables e below (T130.setTop (mkF m 37 #[.val (.ref a1), .val (.int p2), .val (.ref a3), .val (.int (3 : Int32))] [])) _
                refine XS.goto X130.here hx rfl (pc0 := 37) (pc' := 9) rfl (hb hby d4_37) (by decide) (by decide) ?_
                show Steps p.tables e below (T130.setTop (mkF m 9 #[.val (.ref a1), .val (.int p2), .val (.ref a3), .val (.int (3 : Int32))] [])) _
                refine XS.iloadN X130.here hx rfl (hb hby d4_9) rfl ?_
                show Steps p.tables e below (T130.setTop (mkF m 10 #[.val (.ref a1), .val (.int p2), .val (.ref a3), .val (.int (3 : Int32))] [(.int (3 : Int32))])) _
                refine XS.iloadN X130.here hx rfl (hb hby d4_10) rfl ?_
                show Steps p.tables e below (T130.setTop (mkF m 11 #[.val (.ref a1), .val (.int p2), .val (.ref a3), .val (.int (3 : Int32))] [(.int p2), (.int (3 : Int32))])) _
                refine XS.icmpYes X130.here hx rfl (pc0 := 11) (pc' := 40) rfl (hb hby d4_11) rfl (flt (H7 : ¬ ((3 : Int32) < p2))).2.1 (by decide) (by decide) ?_
                show Steps p.tables e below (T130.setTop (mkF m 40 #[.val (.ref a1), .val (.int p2), .val (.ref a3), .val (.int (3 : Int32))] [])) _
                refine XS.goto X130.here hx rfl (pc0 := 40) (pc' := 76) rfl (hb hby d4_40) (by decide) (by decide) ?_
                show Steps p.tables e below (T130.setTop (mkF m 76 #[.val (.ref a1), .val (.int p2), .val (.ref a3), .val (.int (3 : Int32))] [])) _
                exact X130.returnOut hx Bd.returns (hb hby d4_76) hr
              · show Q4n Z a1 p2 a3 bb bk ck x0 x1 x2 c0 c1 c2 h0 n0 _ T130.heap _
                rw [e130]
                exact ⟨rfl, N130, ((((Keep.refl h0 [a3]).wr W109 (Or.inl (List.mem_of_getElem? (i := 0) rfl))).wr W120 (Or.inl (List.mem_of_getElem? (i := 0) rfl))).wr W130 (Or.inl (List.mem_of_getElem? (i := 0) rfl))), (by simpa only [own_e, eq_true hc11_103, eq_true hc24_108, eq_true hc11_111, eq_true hc24_119, eq_true hc11_122, eq_true hc24_129, if_true, if_false] using V130)⟩
            · skip
              obtain ⟨cl131, Ar131, qc131, S131, M131, Hh131, G131⟩ := id V120
              have hin131 : ¬ ((2 : Int32) < 0 ∨ cl131.slots.size ≤ ((2 : Int32)).toNatClampNeg) := inb_of S131 ⟨by decide, by decide⟩
              obtain ⟨T131, h131, X131, e131, W131, st131⟩ := stI X125 hx hZ e125 Ar131 (j := (2 : Int32)) hin131 (g := (mkF m 33 #[.val (.ref a1), .val (.int p2), .val (.ref a3), .val (.int (2 : Int32))] [(.int (c2 + (1 : Int32))), (.int (2 : Int32)), (.ref a3)])) rfl rfl (hb hby d4_33)
              have V131 : Arv Z h131 a3 ck .int (3 : Int32) [(.int (c0 + (0 : Int32))), (.int (c1 + (0 : Int32))), (.int (c2 + (1 : Int32)))] (.int (0 : Int32)) := Arv.set Ar131 qc131 S131 M131 Hh131 G131 rfl W131 2 rfl (by first | decide | (simp; done))
              have N131 := Fr.snoc X131 N120 H4
              obtain ⟨fs, hr, hrun, hended, hW, hsame⟩ := X131.leave (v := none) (fun _ => rfl)
              refine ⟨_, _, pre128 _ ?_, hrun, hended, _, _, rfl, ?_, ⟨_, rfl⟩, hW, hsame.mono (by decide) (by decide)⟩
              · skip
                show Steps p.tables e below (T125.setTop (mkF m 24 #[.val (.ref a1), .val (.int p2), .val (.ref a3), .val (.int (2 : Int32))] [(.int x2), (.int c2), (.int (2 : Int32)), (.ref a3)])) _
                refine XS.ifNo X125.here hx rfl (hb hby d4_24) rfl ((if0 _ _).trans (feq (hc24_129 : ¬ (x2 = (0 : Int32)))).1) ?_
                show Steps p.tables e below (T125.setTop (mkF m 27 #[.val (.ref a1), .val (.int p2), .val (.ref a3), .val (.int (2 : Int32))] [(.int c2), (.int (2 : Int32)), (.ref a3)])) _
                refine XS.iconst X125.here hx rfl (hb hby d4_27) ?_
                show Steps p.tables e below (T125.setTop (mkF m 28 #[.val (.ref a1), .val (.int p2), .val (.ref a3), .val (.int (2 : Int32))] [(.int (1 : Int32)), (.int c2), (.int (2 : Int32)), (.ref a3)])) _
                refine XS.goto X125.here hx rfl (pc0 := 28) (pc' := 32) rfl (hb hby d4_28) (by decide) (by decide) ?_
                show Steps p.tables e below (T125.setTop (mkF m 32 #[.val (.ref a1), .val (.int p2), .val (.ref a3), .val (.int (2 : Int32))] [(.int (1 : Int32)), (.int c2), (.int (2 : Int32)), (.ref a3)])) _
                refine XS.iadd X125.here hx rfl (hb hby d4_32) rfl ?_
                show Steps p.tables e below (T125.setTop (mkF m 33 #[.val (.ref a1), .val (.int p2), .val (.ref a3), .val (.int (2 : Int32))] [(.int (c2 + (1 : Int32))), (.int (2 : Int32)), (.ref a3)])) _
                refine st131 _ ?_
                show Steps p.tables e below (T131.setTop (mkF m 34 #[.val (.ref a1), .val (.int p2), .val (.ref a3), .val (.int (2 : Int32))] [])) _
                refine XS.iinc X131.here hx rfl (hb hby d4_34) rfl (l' := #[.val (.ref a1), .val (.int p2), .val (.ref a3), .val (.int ((2 : Int32) + (1 : Int32)))]) rfl ?_
                show Steps p.tables e below (T131.setTop (mkF m 37 #[.val (.ref a1), .val (.int p2), .val (.ref a3), .val (.int ((2 : Int32) + (1 : Int32)))] [])) _
                rw [show ((2 : Int32) + (1 : Int32)) = (3 : Int32) from by decide]
                show Steps p.tables e below (T131.setTop (mkF m 37 #[.val (.ref a1), .val (.int p2), .val (.ref a3), .val (.int (3 : Int32))] [])) _
                refine XS.goto X131.here hx rfl (pc0 := 37) (pc' := 9) rfl (hb hby d4_37) (by decide) (by decide) ?_
                show Steps p.tables e below (T131.setTop (mkF m 9 #[.val (.ref a1), .val (.int p2), .val (.ref a3), .val (.int (3 : Int32))] [])) _
                refine XS.iloadN X131.here hx rfl (hb hby d4_9) rfl ?_
                show Steps p.tables e below (T131.setTop (mkF m 10 #[.val (.ref a1), .val (.int p2), .val (.ref a3), .val (.int (3 : Int32))] [(.int (3 : Int32))])) _
                refine XS.iloadN X131.here hx rfl (hb hby d4_10) rfl ?_
                show Steps p.tables e below (T131.setTop (mkF m 11 #[.val (.ref a1), .val (.int p2), .val (.ref a3), .val (.int (3 : Int32))] [(.int p2), (.int (3 : Int32))])) _
                refine XS.icmpYes X131.here hx rfl (pc0 := 11) (pc' := 40) rfl (hb hby d4_11) rfl (flt (H7 : ¬ ((3 : Int32) < p2))).2.1 (by decide) (by decide) ?_
                show Steps p.tables e below (T131.setTop (mkF m 40 #[.val (.ref a1), .val (.int p2), .val (.ref a3), .val (.int (3 : Int32))] [])) _
                refine XS.goto X131.here hx rfl (pc0 := 40) (pc' := 76) rfl (hb hby d4_40) (by decide) (by decide) ?_
                show Steps p.tables e below (T131.setTop (mkF m 76 #[.val (.ref a1), .val (.int p2), .val (.ref a3), .val (.int (3 : Int32))] [])) _
                exact X131.returnOut hx Bd.returns (hb hby d4_76) hr
              · show Q4n Z a1 p2 a3 bb bk ck x0 x1 x2 c0 c1 c2 h0 n0 _ T131.heap _
                rw [e131]
                exact ⟨rfl, N131, ((((Keep.refl h0 [a3]).wr W109 (Or.inl (List.mem_of_getElem? (i := 0) rfl))).wr W120 (Or.inl (List.mem_of_getElem? (i := 0) rfl))).wr W131 (Or.inl (List.mem_of_getElem? (i := 0) rfl))), (by simpa only [own_e, eq_true hc11_103, eq_true hc24_108, eq_true hc11_111, eq_true hc24_119, eq_true hc11_122, eq_false hc24_129, if_true, if_false] using V131)⟩
          · skip
            obtain ⟨fs, hr, hrun, hended, hW, hsame⟩ := X120.leave (v := none) (fun _ => rfl)
            refine ⟨_, _, pre121 _ ?_, hrun, hended, _, _, rfl, ?_, ⟨_, rfl⟩, hW, hsame.mono (by decide) (by decide)⟩
            · skip
              show Steps p.tables e below (T120.setTop (mkF m 11 #[.val (.ref a1), .val (.int p2), .val (.ref a3), .val (.int (2 : Int32))] [(.int p2), (.int (2 : Int32))])) _
              refine XS.icmpYes X120.here hx rfl (pc0 := 11) (pc' := 40) rfl (hb hby d4_11) rfl (flt (hc11_122 : ¬ ((2 : Int32) < p2))).2.1 (by decide) (by decide) ?_
              show Steps p.tables e below (T120.setTop (mkF m 40 #[.val (.ref a1), .val (.int p2), .val (.ref a3), .val (.int (2 : Int32))] [])) _
              refine XS.goto X120.here hx rfl (pc0 := 40) (pc' := 76) rfl (hb hby d4_40) (by decide) (by decide) ?_
              show Steps p.tables e below (T120.setTop (mkF m 76 #[.val (.ref a1), .val (.int p2), .val (.ref a3), .val (.int (2 : Int32))] [])) _
              exact X120.returnOut hx Bd.returns (hb hby d4_76) hr
            · show Q4n Z a1 p2 a3 bb bk ck x0 x1 x2 c0 c1 c2 h0 n0 _ T120.heap _
              rw [e120]
              exact ⟨rfl, N120, (((Keep.refl h0 [a3]).wr W109 (Or.inl (List.mem_of_getElem? (i := 0) rfl))).wr W120 (Or.inl (List.mem_of_getElem? (i := 0) rfl))), (by simpa only [own_e, eq_true hc11_103, eq_true hc24_108, eq_true hc11_111, eq_true hc24_119, eq_false hc11_122, if_true, if_false] using V120)⟩
        · skip
          obtain ⟨cl132, Ar132, qc132, S132, M132, Hh132, G132⟩ := id V109
          have hin132 : ¬ ((1 : Int32) < 0 ∨ cl132.slots.size ≤ ((1 : Int32)).toNatClampNeg) := inb_of S132 ⟨by decide, by decide⟩
          obtain ⟨T132, h132, X132, e132, W132, st132⟩ := stI X115 hx hZ e115 Ar132 (j := (1 : Int32)) hin132 (g := (mkF m 33 #[.val (.ref a1), .val (.int p2), .val (.ref a3), .val (.int (1 : Int32))] [(.int (c1 + (1 : Int32))), (.int (1 : Int32)), (.ref a3)])) rfl rfl (hb hby d4_33)
          have V132 : Arv Z h132 a3 ck .int (3 : Int32) [(.int (c0 + (0 : Int32))), (.int (c1 + (1 : Int32))), (.int c2)] (.int (0 : Int32)) := Arv.set Ar132 qc132 S132 M132 Hh132 G132 rfl W132 1 rfl (by first | decide | (simp; done))
          have N132 := Fr.snoc X132 N109 H4
          have pre133 : ∀ t, Steps p.tables e below (T132.setTop (mkF m 11 #[.val (.ref a1), .val (.int p2), .val (.ref a3), .val (.int (2 : Int32))] [(.int p2), (.int (2 : Int32))])) t → Steps p.tables e below (s₁.setTop (entryFrame m #[(.ref a1), (.int p2), (.ref a3)] 4)) t := fun t kt => by
            refine pre118 t ?_
            show Steps p.tables e below (T115.setTop (mkF m 24 #[.val (.ref a1), .val (.int p2), .val (.ref a3), .val (.int (1 : Int32))] [(.int x1), (.int c1), (.int (1 : Int32)), (.ref a3)])) _
            refine XS.ifNo X115.here hx rfl (hb hby d4_24) rfl ((if0 _ _).trans (feq (hc24_119 : ¬ (x1 = (0 : Int32)))).1) ?_
            show Steps p.tables e below (T115.setTop (mkF m 27 #[.val (.ref a1), .val (.int p2), .val (.ref a3), .val (.int (1 : Int32))] [(.int c1), (.int (1 : Int32)), (.ref a3)])) _
            refine XS.iconst X115.here hx rfl (hb hby d4_27) ?_
            show Steps p.tables e below (T115.setTop (mkF m 28 #[.val (.ref a1), .val (.int p2), .val (.ref a3), .val (.int (1 : Int32))] [(.int (1 : Int32)), (.int c1), (.int (1 : Int32)), (.ref a3)])) _
            refine XS.goto X115.here hx rfl (pc0 := 28) (pc' := 32) rfl (hb hby d4_28) (by decide) (by decide) ?_
            show Steps p.tables e below (T115.setTop (mkF m 32 #[.val (.ref a1), .val (.int p2), .val (.ref a3), .val (.int (1 : Int32))] [(.int (1 : Int32)), (.int c1), (.int (1 : Int32)), (.ref a3)])) _
            refine XS.iadd X115.here hx rfl (hb hby d4_32) rfl ?_
            show Steps p.tables e below (T115.setTop (mkF m 33 #[.val (.ref a1), .val (.int p2), .val (.ref a3), .val (.int (1 : Int32))] [(.int (c1 + (1 : Int32))), (.int (1 : Int32)), (.ref a3)])) _
            refine st132 _ ?_
            show Steps p.tables e below (T132.setTop (mkF m 34 #[.val (.ref a1), .val (.int p2), .val (.ref a3), .val (.int (1 : Int32))] [])) _
            refine XS.iinc X132.here hx rfl (hb hby d4_34) rfl (l' := #[.val (.ref a1), .val (.int p2), .val (.ref a3), .val (.int ((1 : Int32) + (1 : Int32)))]) rfl ?_
            show Steps p.tables e below (T132.setTop (mkF m 37 #[.val (.ref a1), .val (.int p2), .val (.ref a3), .val (.int ((1 : Int32) + (1 : Int32)))] [])) _
            rw [show ((1 : Int32) + (1 : Int32)) = (2 : Int32) from by decide]
            show Steps p.tables e below (T132.setTop (mkF m 37 #[.val (.ref a1), .val (.int p2), .val (.ref a3), .val (.int (2 : Int32))] [])) _
            refine XS.goto X132.here hx rfl (pc0 := 37) (pc' := 9) rfl (hb hby d4_37) (by decide) (by decide) ?_
            show Steps p.tables e below (T132.setTop (mkF m 9 #[.val (.ref a1), .val (.int p2), .val (.ref a3), .val (.int (2 : Int32))] [])) _
            refine XS.iloadN X132.here hx rfl (hb hby d4_9) rfl ?_
            show Steps p.tables e below (T132.setTop (mkF m 10 #[.val (.ref a1), .val (.int p2), .val (.ref a3), .val (.int (2 : Int32))] [(.int (2 : Int32))])) _
            refine XS.iloadN X132.here hx rfl (hb hby d4_10) rfl ?_
            show Steps p.tables e below (T132.setTop (mkF m 11 #[.val (.ref a1), .val (.int p2), .val (.ref a3), .val (.int (2 : Int32))] [(.int p2), (.int (2 : Int32))])) _
            exact kt
          by_cases hc11_134 : (2 : Int32) < p2
          · skip
            obtain ⟨cl135, Ar135, qc135, S135, M135, Hh135, G135⟩ := id V132
            have hin135 : ¬ ((2 : Int32) < 0 ∨ cl135.slots.size ≤ ((2 : Int32)).toNatClampNeg) := inb_of S135 ⟨by decide, by decide⟩
            have f136 : Fld Z h132 a1 "com/example/plain_ranker/plainranker/data/BinArray" "bytes" "[B" (.ref bb) := (f114.other W132 (Or.inl ne113))
            obtain ⟨T137, X137, e137, st137⟩ := getF X132 hx hZ hown (host := "") (Or.inl (hw _ (List.mem_of_getElem? (i := 13) rfl))) Via.refl e132 f136 (g := (mkF m 19 #[.val (.ref a1), .val (.int p2), .val (.ref a3), .val (.int (2 : Int32))] [(.ref a1), (.int c2), (.int (2 : Int32)), (.ref a3)])) rfl rfl (hb hby d4_19)
            have f138 : Arv Z h132 bb bk .byte (3 : Int32) [(.int x0), (.int x1), (.int x2)] (.int (0 : Int32)) := (f116.other W132 H5)
            obtain ⟨cl139, Ar139, qc139, S139, M139, Hh139, G139⟩ := id f138
            have hin139 : ¬ ((2 : Int32) < 0 ∨ cl139.slots.size ≤ ((2 : Int32)).toNatClampNeg) := inb_of S139 ⟨by decide, by decide⟩
            have pre140 : ∀ t, Steps p.tables e below (T137.setTop (mkF m 24 #[.val (.ref a1), .val (.int p2), .val (.ref a3), .val (.int (2 : Int32))] [(.int x2), (.int c2), (.int (2 : Int32)), (.ref a3)])) t → Steps p.tables e below (s₁.setTop (entryFrame m #[(.ref a1), (.int p2), (.ref a3)] 4)) t := fun t kt => by
              refine pre133 t ?_
              show Steps p.tables e below (T132.setTop (mkF m 11 #[.val (.ref a1), .val (.int p2), .val (.ref a3), .val (.int (2 : Int32))] [(.int p2), (.int (2 : Int32))])) _
              refine XS.icmpNo X132.here hx rfl (hb hby d4_11) rfl (tlt (hc11_134 : (2 : Int32) < p2)).2.1 ?_
              show Steps p.tables e below (T132.setTop (mkF m 14 #[.val (.ref a1), .val (.int p2), .val (.ref a3), .val (.int (2 : Int32))] [])) _
              refine XS.aloadN X132.here hx rfl (hb hby d4_14) rfl rfl ?_
              show Steps p.tables e below (T132.setTop (mkF m 15 #[.val (.ref a1), .val (.int p2), .val (.ref a3), .val (.int (2 : Int32))] [(.ref a3)])) _
              refine XS.iloadN X132.here hx rfl (hb hby d4_15) rfl ?_
              show Steps p.tables e below (T132.setTop (mkF m 16 #[.val (.ref a1), .val (.int p2), .val (.ref a3), .val (.int (2 : Int32))] [(.int (2 : Int32)), (.ref a3)])) _
              refine XT.dup2 X132.here hx rfl (hb hby d4_16) rfl rfl rfl ?_
              show Steps p.tables e below (T132.setTop (mkF m 17 #[.val (.ref a1), .val (.int p2), .val (.ref a3), .val (.int (2 : Int32))] [(.int (2 : Int32)), (.ref a3), (.int (2 : Int32)), (.ref a3)])) _
              refine X132.iaload hx (j := (2 : Int32)) (v := (.int c2)) (by rw [e132]; exact Ar135.1) (State.isArrayOf_alike hZ.alike Ar135.2.1) Ar135.2.2 hin135 (Hh135.at hin135 (rfl)) (g := (mkF m 17 #[.val (.ref a1), .val (.int p2), .val (.ref a3), .val (.int (2 : Int32))] [(.int (2 : Int32)), (.ref a3), (.int (2 : Int32)), (.ref a3)])) rfl rfl (hb hby d4_17) _ ?_
              show Steps p.tables e below (T132.setTop (mkF m 18 #[.val (.ref a1), .val (.int p2), .val (.ref a3), .val (.int (2 : Int32))] [(.int c2), (.int (2 : Int32)), (.ref a3)])) _
              refine XS.aloadN X132.here hx rfl (hb hby d4_18) rfl rfl ?_
              show Steps p.tables e below (T132.setTop (mkF m 19 #[.val (.ref a1), .val (.int p2), .val (.ref a3), .val (.int (2 : Int32))] [(.ref a1), (.int c2), (.int (2 : Int32)), (.ref a3)])) _
              refine st137 _ ?_
              show Steps p.tables e below (T137.setTop (mkF m 22 #[.val (.ref a1), .val (.int p2), .val (.ref a3), .val (.int (2 : Int32))] [(.ref bb), (.int c2), (.int (2 : Int32)), (.ref a3)])) _
              refine XS.iloadN X137.here hx rfl (hb hby d4_22) rfl ?_
              show Steps p.tables e below (T137.setTop (mkF m 23 #[.val (.ref a1), .val (.int p2), .val (.ref a3), .val (.int (2 : Int32))] [(.int (2 : Int32)), (.ref bb), (.int c2), (.int (2 : Int32)), (.ref a3)])) _
              refine X137.baloadBytes hx (j := (2 : Int32)) (v := (.int x2)) (by rw [e137]; exact Ar139.1) (State.isArrayOf_alike hZ.alike Ar139.2.1) Ar139.2.2 hin139 (Hh139.at hin139 (rfl)) (g := (mkF m 23 #[.val (.ref a1), .val (.int p2), .val (.ref a3), .val (.int (2 : Int32))] [(.int (2 : Int32)), (.ref bb), (.int c2), (.int (2 : Int32)), (.ref a3)])) rfl rfl (hb hby d4_23) _ ?_
              show Steps p.tables e below (T137.setTop (mkF m 24 #[.val (.ref a1), .val (.int p2), .val (.ref a3), .val (.int (2 : Int32))] [(.int x2), (.int c2), (.int (2 : Int32)), (.ref a3)])) _
              exact kt
            by_cases hc24_141 : x2 = (0 : Int32)
            · skip
              obtain ⟨cl142, Ar142, qc142, S142, M142, Hh142, G142⟩ := id V132
              have hin142 : ¬ ((2 : Int32) < 0 ∨ cl142.slots.size ≤ ((2 : Int32)).toNatClampNeg) := inb_of S142 ⟨by decide, by decide⟩
              obtain ⟨T142, h142, X142, e142, W142, st142⟩ := stI X137 hx hZ e137 Ar142 (j := (2 : Int32)) hin142 (g := (mkF m 33 #[.val (.ref a1), .val (.int p2), .val (.ref a3), .val (.int (2 : Int32))] [(.int (c2 + (0 : Int32))), (.int (2 : Int32)), (.ref a3)])) rfl rfl (hb hby d4_33)
              have V142 : Arv Z h142 a3 ck .int (3 : Int32) [(.int (c0 + (0 : Int32))), (.int (c1 + (1 : Int32))), (.int (c2 + (0 : Int32)))] (.int (0 : Int32)) := Arv.set Ar142 qc142 S142 M142 Hh142 G142 rfl W142 2 rfl (by first | decide | (simp; done))
              have N142 := Fr.snoc X142 N132 H4
              obtain ⟨fs, hr, hrun, hended, hW, hsame⟩ := X142.leave (v := none) (fun _ => rfl)
              refine ⟨_, _, pre140 _ ?_, hrun, hended, _, _, rfl, ?_, ⟨_, rfl⟩, hW, hsame.mono (by decide) (by decide)⟩
              · skip
                show Steps p.tables e below (T137.setTop (mkF m 24 #[.val (.ref a1), .val (.int p2), .val (.ref a3), .val (.int (2 : Int32))] [(.int x2), (.int c2), (.int (2 : Int32)), (.ref a3)])) _
                refine XS.ifYes X137.here hx rfl (pc0 := 24) (pc' := 31) rfl (hb hby d4_24) rfl ((if0 _ _).trans (teq (hc24_141 : x2 = (0 : Int32))).1) (by decide) (by decide) ?_
                show Steps p.tables e below (T137.setTop (mkF m 31 #[.val (.ref a1), .val (.int p2), .val (.ref a3), .val (.int (2 : Int32))] [(.int c2), (.int (2 : Int32)), (.ref a3)])) _
                refine XS.iconst X137.here hx rfl (hb hby d4_31) ?_
                show Steps p.tables e below (T137.setTop (mkF m 32 #[.val (.ref a1), .val (.int p2), .val (.ref a3), .val (.int (2 : Int32))] [(.int (0 : Int32)), (.int c2), (.int (2 : Int32)), (.ref a3)])) _
                refine XS.iadd X137.here hx rfl (hb hby d4_32) rfl ?_
                show Steps p.tables e below (T137.setTop (mkF m 33 #[.val (.ref a1), .val (.int p2), .val (.ref a3), .val (.int (2 : Int32))] [(.int (c2 + (0 : Int32))), (.int (2 : Int32)), (.ref a3)])) _
                refine st142 _ ?_
                show Steps p.tables e below (T142.setTop (mkF m 34 #[.val (.ref a1), .val (.int p2), .val (.ref a3), .val (.int (2 : Int32))] [])) _
                refine XS.iinc X142.here hx rfl (hb hby d4_34) rfl (l' := #[.val (.ref a1), .val (.int p2), .val (.ref a3), .val (.int ((2 : Int32) + (1 : Int32)))]) rfl ?_
                show Steps p.tables e below (T142.setTop (mkF m 37 #[.val (.ref a1), .val (.int p2), .val (.ref a3), .val (.int ((2 : Int32) + (1 : Int32)))] [])) _
                rw [show ((2 : Int32) + (1 : Int32)) = (3 : Int32) from by decide]
                show Steps p.tables e below (T142.setTop (mkF m 37 #[.val (.ref a1), .val (.int p2), .val (.ref a3), .val (.int (3 : Int32))] [])) _
                refine XS.goto X142.here hx rfl (pc0 := 37) (pc' := 9) rfl (hb hby d4_37) (by decide) (by decide) ?_
                show Steps p.tables e below (T142.setTop (mkF m 9 #[.val (.ref a1), .val (.int p2), .val (.ref a3), .val (.int (3 : Int32))] [])) _
                refine XS.iloadN X142.here hx rfl (hb hby d4_9) rfl ?_
                show Steps p.tables e below (T142.setTop (mkF m 10 #[.val (.ref a1), .val (.int p2), .val (.ref a3), .val (.int (3 : Int32))] [(.int (3 : Int32))])) _
                refine XS.iloadN X142.here hx rfl (hb hby d4_10) rfl ?_
                show Steps p.tables e below (T142.setTop (mkF m 11 #[.val (.ref a1), .val (.int p2), .val (.ref a3), .val (.int (3 : Int32))] [(.int p2), (.int (3 : Int32))])) _
                refine XS.icmpYes X142.here hx rfl (pc0 := 11) (pc' := 40) rfl (hb hby d4_11) rfl (flt (H7 : ¬ ((3 : Int32) < p2))).2.1 (by decide) (by decide) ?_
                show Steps p.tables e below (T142.setTop (mkF m 40 #[.val (.ref a1), .val (.int p2), .val (.ref a3), .val (.int (3 : Int32))] [])) _
                refine XS.goto X142.here hx rfl (pc0 := 40) (pc' := 76) rfl (hb hby d4_40) (by decide) (by decide) ?_
                show Steps p.tables e below (T142.setTop (mkF m 76 #[.val (.ref a1), .val (.int p2), .val (.ref a3), .val (.int (3 : Int32))] [])) _
                exact X142.returnOut hx Bd.returns (hb hby d4_76) hr
              · show Q4n Z a1 p2 a3 bb bk ck x0 x1 x2 c0 c1 c2 h0 n0 _ T142.heap _
                rw [e142]
                exact ⟨rfl, N142, ((((Keep.refl h0 [a3]).wr W109 (Or.inl (List.mem_of_getElem? (i := 0) rfl))).wr W132 (Or.inl (List.mem_of_getElem? (i := 0) rfl))).wr W142 (Or.inl (List.mem_of_getElem? (i := 0) rfl))), (by simpa only [own_e, eq_true hc11_103, eq_true hc24_108, eq_true hc11_111, eq_false hc24_119, eq_true hc11_134, eq_true hc24_141, if_true, if_false] using V142)⟩
            · skip
              obtain ⟨cl143, Ar143, qc143, S143, M143, Hh143, G143⟩ := id V132
              have hin143 : ¬ ((2 : Int32) < 0 ∨ cl143.slots.size ≤ ((2 : Int32)).toNatClampNeg) := inb_of S143 ⟨by decide, by decide⟩
              obtain ⟨T143, h143, X143, e143, W143, st143⟩ := stI X137 hx hZ e137 Ar143 (j := (2 : Int32)) hin143 (g := (mkF m 33 #[.val (.ref a1), .val (.int p2), .val (.ref a3), .val (.int (2 : Int32))] [(.int (c2 + (1 : Int32))), (.int (2 : Int32)), (.ref a3)])) rfl rfl (hb hby d4_33)
              have V143 : Arv Z h143 a3 ck .int (3 : Int32) [(.int (c0 + (0 : Int32))), (.int (c1 + (1 : Int32))), (.int (c2 + (1 : Int32)))] (.int (0 : Int32)) := Arv.set Ar143 qc143 S143 M143 Hh143 G143 rfl W143 2 rfl (by first | decide | (simp; done))
              have N143 := Fr.snoc X143 N132 H4
              obtain ⟨fs, hr, hrun, hended, hW, hsame⟩ := X143.leave (v := none) (fun _ => rfl)
              refine ⟨_, _, pre140 _ ?_, hrun, hended, _, _, rfl, ?_, ⟨_, rfl⟩, hW, hsame.mono (by decide) (by decide)⟩
              · skip
                show Steps p.tables e below (T137.setTop (mkF m 24 #[.val (.ref a1), .val (.int p2), .val (.ref a3), .val (.int (2 : Int32))] [(.int x2), (.int c2), (.int (2 : Int32)), (.ref a3)])) _
                refine XS.ifNo X137.here hx rfl (hb hby d4_24) rfl ((if0 _ _).trans (feq (hc24_141 : ¬ (x2 = (0 : Int32)))).1) ?_
                show Steps p.tables e below (T137.setTop (mkF m 27 #[.val (.ref a1), .val (.int p2), .val (.ref a3), .val (.int (2 : Int32))] [(.int c2), (.int (2 : Int32)), (.ref a3)])) _
                refine XS.iconst X137.here hx rfl (hb hby d4_27) ?_
                show Steps p.tables e below (T137.setTop (mkF m 28 #[.val (.ref a1), .val (.int p2), .val (.ref a3), .val (.int (2 : Int32))] [(.int (1 : Int32)), (.int c2), (.int (2 : Int32)), (.ref a3)])) _
                refine XS.goto X137.here hx rfl (pc0 := 28) (pc' := 32) rfl (hb hby d4_28) (by decide) (by decide) ?_
                show Steps p.tables e below (T137.setTop (mkF m 32 #[.val (.ref a1), .val (.int p2), .val (.ref a3), .val (.int (2 : Int32))] [(.int (1 : Int32)), (.int c2), (.int (2 : Int32)), (.ref a3)])) _
                refine XS.iadd X137.here hx rfl (hb hby d4_32) rfl ?_
                show Steps p.tables e below (T137.setTop (mkF m 33 #[.val (.ref a1), .val (.int p2), .val (.ref a3), .val (.int (2 : Int32))] [(.int (c2 + (1 : Int32))), (.int (2 : Int32)), (.ref a3)])) _
                refine st143 _ ?_
                show Steps p.tables e below (T143.setTop (mkF m 34 #[.val (.ref a1), .val (.int p2), .val (.ref a3), .val (.int (2 : Int32))] [])) _
                refine XS.iinc X143.here hx rfl (hb hby d4_34) rfl (l' := #[.val (.ref a1), .val (.int p2), .val (.ref a3), .val (.int ((2 : Int32) + (1 : Int32)))]) rfl ?_
                show Steps p.tables e below (T143.setTop (mkF m 37 #[.val (.ref a1), .val (.int p2), .val (.ref a3), .val (.int ((2 : Int32) + (1 : Int32)))] [])) _
                rw [show ((2 : Int32) + (1 : Int32)) = (3 : Int32) from by decide]
                show Steps p.tables e below (T143.setTop (mkF m 37 #[.val (.ref a1), .val (.int p2), .val (.ref a3), .val (.int (3 : Int32))] [])) _
                refine XS.goto X143.here hx rfl (pc0 := 37) (pc' := 9) rfl (hb hby d4_37) (by decide) (by decide) ?_
                show Steps p.tables e below (T143.setTop (mkF m 9 #[.val (.ref a1), .val (.int p2), .val (.ref a3), .val (.int (3 : Int32))] [])) _
                refine XS.iloadN X143.here hx rfl (hb hby d4_9) rfl ?_
                show Steps p.tables e below (T143.setTop (mkF m 10 #[.val (.ref a1), .val (.int p2), .val (.ref a3), .val (.int (3 : Int32))] [(.int (3 : Int32))])) _
                refine XS.iloadN X143.here hx rfl (hb hby d4_10) rfl ?_
                show Steps p.tables e below (T143.setTop (mkF m 11 #[.val (.ref a1), .val (.int p2), .val (.ref a3), .val (.int (3 : Int32))] [(.int p2), (.int (3 : Int32))])) _
                refine XS.icmpYes X143.here hx rfl (pc0 := 11) (pc' := 40) rfl (hb hby d4_11) rfl (flt (H7 : ¬ ((3 : Int32) < p2))).2.1 (by decide) (by decide) ?_
                show Steps p.tables e below (T143.setTop (mkF m 40 #[.val (.ref a1), .val (.int p2), .val (.ref a3), .val (.int (3 : Int32))] [])) _
                refine XS.goto X143.here hx rfl (pc0 := 40) (pc' := 76) rfl (hb hby d4_40) (by decide) (by decide) ?_
                show Steps p.tables e below (T143.setTop (mkF m 76 #[.val (.ref a1), .val (.int p2), .val (.ref a3), .val (.int (3 : Int32))] [])) _
                exact X143.returnOut hx Bd.returns (hb hby d4_76) hr
              · show Q4n Z a1 p2 a3 bb bk ck x0 x1 x2 c0 c1 c2 h0 n0 _ T143.heap _
                rw [e143]
                exact ⟨rfl, N143, ((((Keep.refl h0 [a3]).wr W109 (Or.inl (List.mem_of_getElem? (i := 0) rfl))).wr W132 (Or.inl (List.mem_of_getElem? (i := 0) rfl))).wr W143 (Or.inl (List.mem_of_getElem? (i := 0) rfl))), (by simpa only [own_e, eq_true hc11_103, eq_true hc24_108, eq_true hc11_111, eq_false hc24_119, eq_true hc11_134, eq_false hc24_141, if_true, if_false] using V143)⟩
          · skip
            obtain ⟨fs, hr, hrun, hended, hW, hsame⟩ := X132.leave (v := none) (fun _ => rfl)
            refine ⟨_, _, pre133 _ ?_, hrun, hended, _, _, rfl, ?_, ⟨_, rfl⟩, hW, hsame.mono (by decide) (by decide)⟩
            · skip
              show Steps p.tables e below (T132.setTop (mkF m 11 #[.val (.ref a1), .val (.int p2), .val (.ref a3), .val (.int (2 : Int32))] [(.int p2), (.int (2 : Int32))])) _
              refine XS.icmpYes X132.here hx rfl (pc0 := 11) (pc' := 40) rfl (hb hby d4_11) rfl (flt (hc11_134 : ¬ ((2 : Int32) < p2))).2.1 (by decide) (by decide) ?_
              show Steps p.tables e below (T132.setTop (mkF m 40 #[.val (.ref a1), .val (.int p2), .val (.ref a3), .val (.int (2 : Int32))] [])) _
              refine XS.goto X132.here hx rfl (pc0 := 40) (pc' := 76) rfl (hb hby d4_40) (by decide) (by decide) ?_
              show Steps p.tables e below (T132.setTop (mkF m 76 #[.val (.ref a1), .val (.int p2), .val (.ref a3), .val (.int (2 : Int32))] [])) _
              exact X132.returnOut hx Bd.returns (hb hby d4_76) hr
            · show Q4n Z a1 p2 a3 bb bk ck x0 x1 x2 c0 c1 c2 h0 n0 _ T132.heap _
              rw [e132]
              exact ⟨rfl, N132, (((Keep.refl h0 [a3]).wr W109 (Or.inl (List.mem_of_getElem? (i := 0) rfl))).wr W132 (Or.inl (List.mem_of_getElem? (i := 0) rfl))), (by simpa only [own_e, eq_true hc11_103, eq_true hc24_108, eq_true hc11_111, eq_false hc24_119, eq_false hc11_134, if_true, if_false] using V132)⟩
      · skip
        have hm2 : ¬ ((2 : Int32) < p2) := own_mono hc11_111 (by decide)
        obtain ⟨fs, hr, hrun, hended, hW, hsame⟩ := X109.leave (v := none) (fun _ => rfl)
        refine ⟨_, _, pre110 _ ?_, hrun, hended, _, _, rfl, ?_, ⟨_, rfl⟩, hW, hsame.mono (by decide) (by decide)⟩
        · skip
          show Steps p.tables e below (T109.setTop (mkF m 11 #[.val (.ref a1), .val (.int p2), .val (.ref a3), .val (.int (1 : Int32))] [(.int p2), (.int (1 : Int32))])) _
          refine XS.icmpYes X109.here hx rfl (pc0 := 11) (pc' := 40) rfl (hb hby d4_11) rfl (flt (hc11_111 : ¬ ((1 : Int32) < p2))).2.1 (by decide) (by decide) ?_
          show Steps p.tables e below (T109.setTop (mkF m 40 #[.val (.ref a1), .val (.int p2), .val (.ref a3), .val (.int (1 : Int32))] [])) _
          refine XS.goto X109.here hx rfl (pc0 := 40) (pc' := 76) rfl (hb hby d4_40) (by decide) (by decide) ?_
          show Steps p.tables e below (T109.setTop (mkF m 76 #[.val (.ref a1), .val (.int p2), .val (.ref a3), .val (.int (1 : Int32))] [])) _
          exact X109.returnOut hx Bd.returns (hb hby d4_76) hr
        · show Q4n Z a1 p2 a3 bb bk ck x0 x1 x2 c0 c1 c2 h0 n0 _ T109.heap _
          rw [e109]
          exact ⟨rfl, N109, ((Keep.refl h0 [a3]).wr W109 (Or.inl (List.mem_of_getElem? (i := 0) rfl))), (by simpa only [own_e, eq_true hc11_103, eq_true hc24_108, eq_false hc11_111, eq_false hm2, if_true, if_false] using V109)⟩
    · skip
      obtain ⟨cl144, Ar144, qc144, S144, M144, Hh144, G144⟩ := id H3
      have hin144 : ¬ ((0 : Int32) < 0 ∨ cl144.slots.size ≤ ((0 : Int32)).toNatClampNeg) := inb_of S144 ⟨by decide, by decide⟩
      obtain ⟨T144, h144, X144, e144, W144, st144⟩ := stI X105 hx hZ e105 Ar144 (j := (0 : Int32)) hin144 (g := (mkF m 33 #[.val (.ref a1), .val (.int p2), .val (.ref a3), .val (.int (0 : Int32))] [(.int (c0 + (1 : Int32))), (.int (0 : Int32)), (.ref a3)])) rfl rfl (hb hby d4_33)
      have V144 : Arv Z h144 a3 ck .int (3 : Int32) [(.int (c0 + (1 : Int32))), (.int c1), (.int c2)] (.int (0 : Int32)) := Arv.set Ar144 qc144 S144 M144 Hh144 G144 rfl W144 0 rfl (by first | decide | (simp; done))
      have N144 := Fr.snoc X144 N0 H4
      have pre145 : ∀ t, Steps p.tables e below (T144.setTop (mkF m 11 #[.val (.ref a1), .val (.int p2), .val (.ref a3), .val (.int (1 : Int32))] [(.int p2), (.int (1 : Int32))])) t → Steps p.tables e below (s₁.setTop (entryFrame m #[(.ref a1), (.int p2), (.ref a3)] 4)) t := fun t kt => by
        refine pre107 t ?_
        show Steps p.tables e below (T105.setTop (mkF m 24 #[.val (.ref a1), .val (.int p2), .val (.ref a3), .val (.int (0 : Int32))] [(.int x0), (.int c0), (.int (0 : Int32)), (.ref a3)])) _
        refine XS.ifNo X105.here hx rfl (hb hby d4_24) rfl ((if0 _ _).trans (feq (hc24_108 : ¬ (x0 = (0 : Int32)))).1) ?_
        show Steps p.tables e below (T105.setTop (mkF m 27 #[.val (.ref a1), .val (.int p2), .val (.ref a3), .val (.int (0 : Int32))] [(.int c0), (.int (0 : Int32)), (.ref a3)])) _
        refine XS.iconst X105.here hx rfl (hb hby d4_27) ?_
        show Steps p.tables e below (T105.setTop (mkF m 28 #[.val (.ref a1), .val (.int p2), .val (.ref a3), .val (.int (0 : Int32))] [(.int (1 : Int32)), (.int c0), (.int (0 : Int32)), (.ref a3)])) _
        refine XS.goto X105.here hx rfl (pc0 := 28) (pc' := 32) rfl (hb hby d4_28) (by decide) (by decide) ?_
        show Steps p.tables e below (T105.setTop (mkF m 32 #[.val (.ref a1), .val (.int p2), .val (.ref a3), .val (.int (0 : Int32))] [(.int (1 : Int32)), (.int c0), (.int (0 : Int32)), (.ref a3)])) _
        refine XS.iadd X105.here hx rfl (hb hby d4_32) rfl ?_
        show Steps p.tables e below (T105.setTop (mkF m 33 #[.val (.ref a1), .val (.int p2), .val (.ref a3), .val (.int (0 : Int32))] [(.int (c0 + (1 : Int32))), (.int (0 : Int32)), (.ref a3)])) _
        refine st144 _ ?_
        show Steps p.tables e below (T144.setTop (mkF m 34 #[.val (.ref a1), .val (.int p2), .val (.ref a3), .val (.int (0 : Int32))] [])) _
        refine XS.iinc X144.here hx rfl (hb hby d4_34) rfl (l' := #[.val (.ref a1), .val (.int p2), .val (.ref a3), .val (.int ((0 : Int32) + (1 : Int32)))]) rfl ?_
        show Steps p.tables e below (T144.setTop (mkF m 37 #[.val (.ref a1), .val (.int p2), .val (.ref a3), .val (.int ((0 : Int32) + (1 : Int32)))] [])) _
        rw [show ((0 : Int32) + (1 : Int32)) = (1 : Int32) from by decide]
        show Steps p.tables e below (T144.setTop (mkF m 37 #[.val (.ref a1), .val (.int p2), .val (.ref a3), .val (.int (1 : Int32))] [])) _
        refine XS.goto X144.here hx rfl (pc0 := 37) (pc' := 9) rfl (hb hby d4_37) (by decide) (by decide) ?_
        show Steps p.tables e below (T144.setTop (mkF m 9 #[.val (.ref a1), .val (.int p2), .val (.ref a3), .val (.int (1 : Int32))] [])) _
        refine XS.iloadN X144.here hx rfl (hb hby d4_9) rfl ?_
        show Steps p.tables e below (T144.setTop (mkF m 10 #[.val (.ref a1), .val (.int p2), .val (.ref a3), .val (.int (1 : Int32))] [(.int (1 : Int32))])) _
        refine XS.iloadN X144.here hx rfl (hb hby d4_10) rfl ?_
        show Steps p.tables e below (T144.setTop (mkF m 11 #[.val (.ref a1), .val (.int p2), .val (.ref a3), .val (.int (1 : Int32))] [(.int p2), (.int (1 : Int32))])) _
        exact kt
      by_cases hc11_146 : (1 : Int32) < p2
      · skip
        obtain ⟨cl147, Ar147, qc147, S147, M147, Hh147, G147⟩ := id V144
        have hin147 : ¬ ((1 : Int32) < 0 ∨ cl147.slots.size ≤ ((1 : Int32)).toNatClampNeg) := inb_of S147 ⟨by decide, by decide⟩
        have ne148 : a1 ≠ a3 := Exa.neArv (H6.wr W144) V144 (hw _ (List.mem_of_getElem? (i := 5) rfl))
        have f149 : Fld Z h144 a1 "com/example/plain_ranker/plainranker/data/BinArray" "bytes" "[B" (.ref bb) := (H0.other W144 (Or.inl ne148))
        obtain ⟨T150, X150, e150, st150⟩ := getF X144 hx hZ hown (host := "") (Or.inl (hw _ (List.mem_of_getElem? (i := 13) rfl))) Via.refl e144 f149 (g := (mkF m 19 #[.val (.ref a1), .val (.int p2), .val (.ref a3), .val (.int (1 : Int32))] [(.ref a1), (.int c1), (.int (1 : Int32)), (.ref a3)])) rfl rfl (hb hby d4_19)
        have f151 : Arv Z h144 bb bk .byte (3 : Int32) [(.int x0), (.int x1), (.int x2)] (.int (0 : Int32)) := (H2.other W144 H5)
        obtain ⟨cl152, Ar152, qc152, S152, M152, Hh152, G152⟩ := id f151
        have hin152 : ¬ ((1 : Int32) < 0 ∨ cl152.slots.size ≤ ((1 : Int32)).toNatClampNeg) := inb_of S152 ⟨by decide, by decide⟩
        have pre153 : ∀ t, Steps p.tables e below (T150.setTop (mkF m 24 #[.val (.ref a1), .val (.int p2), .val (.ref a3), .val (.int (1 : Int32))] [(.int x1), (.int c1), (.int (1 : Int32)), (.ref a3)])) t → Steps p.tables e below (s₁.setTop (entryFrame m #[(.ref a1), (.int p2), (.ref a3)] 4)) t := fun t kt => by
          refine pre145 t ?_
          show Steps p.tables e below (T144.setTop (mkF m 11 #[.val (.ref a1), .val (.int p2), .val (.ref a3), .val (.int (1 : Int32))] [(.int p2), (.int (1 : Int32))])) _
          refine XS.icmpNo X144.here hx rfl (hb hby d4_11) rfl (tlt (hc11_146 : (1 : Int32) < p2)).2.1 ?_
          show Steps p.tables e below (T144.setTop (mkF m 14 #[.val (.ref a1), .val (.int p2), .val (.ref a3), .val (.int (1 : Int32))] [])) _
          refine XS.aloadN X144.here hx rfl (hb hby d4_14) rfl rfl ?_
          show Steps p.tables e below (T144.setTop (mkF m 15 #[.val (.ref a1), .val (.int p2), .val (.ref a3), .val (.int (1 : Int32))] [(.ref a3)])) _
          refine XS.iloadN X144.here hx rfl (hb hby d4_15) rfl ?_
          show Steps p.tables e below (T144.setTop (mkF m 16 #[.val (.ref a1), .val (.int p2), .val (.ref a3), .val (.int (1 : Int32))] [(.int (1 : Int32)), (.ref a3)])) _
          refine XT.dup2 X144.here hx rfl (hb hby d4_16) rfl rfl rfl ?_
          show Steps p.tables e below (T144.setTop (mkF m 17 #[.val (.ref a1), .val (.int p2), .val (.ref a3), .val (.int (1 : Int32))] [(.int (1 : Int32)), (.ref a3), (.int (1 : Int32)), (.ref a3)])) _
          refine X144.iaload hx (j := (1 : Int32)) (v := (.int c1)) (by rw [e144]; exact Ar147.1) (State.isArrayOf_alike hZ.alike Ar147.2.1) Ar147.2.2 hin147 (Hh147.at hin147 (rfl)) (g := (mkF m 17 #[.val (.ref a1), .val (.int p2), .val (.ref a3), .val (.int (1 : Int32))] [(.int (1 : Int32)), (.ref a3), (.int (1 : Int32)), (.ref a3)])) rfl rfl (hb hby d4_17) _ ?_
          show Steps p.tables e below (T144.setTop (mkF m 18 #[.val (.ref a1), .val (.int p2), .val (.ref a3), .val (.int (1 : Int32))] [(.int c1), (.int (1 : Int32)), (.ref a3)])) _
          refine XS.aloadN X144.here hx rfl (hb hby d4_18) rfl rfl ?_
          show Steps p.tables e below (T144.setTop (mkF m 19 #[.val (.ref a1), .val (.int p2), .val (.ref a3), .val (.int (1 : Int32))] [(.ref a1), (.int c1), (.int (1 : Int32)), (.ref a3)])) _
          refine st150 _ ?_
          show Steps p.tables e below (T150.setTop (mkF m 22 #[.val (.ref a1), .val (.int p2), .val (.ref a3), .val (.int (1 : Int32))] [(.ref bb), (.int c1), (.int (1 : Int32)), (.ref a3)])) _
          refine XS.iloadN X150.here hx rfl (hb hby d4_22) rfl ?_
          show Steps p.tables e below (T150.setTop (mkF m 23 #[.val (.ref a1), .val (.int p2), .val (.ref a3), .val (.int (1 : Int32))] [(.int (1 : Int32)), (.ref bb), (.int c1), (.int (1 : Int32)), (.ref a3)])) _
          refine X150.baloadBytes hx (j := (1 : Int32)) (v := (.int x1)) (by rw [e150]; exact Ar152.1) (State.isArrayOf_alike hZ.alike Ar152.2.1) Ar152.2.2 hin152 (Hh152.at hin152 (rfl)) (g := (mkF m 23 #[.val (.ref a1), .val (.int p2), .val (.ref a3), .val (.int (1 : Int32))] [(.int (1 : Int32)), (.ref bb), (.int c1), (.int (1 : Int32)), (.ref a3)])) rfl rfl (hb hby d4_23) _ ?_
          show Steps p.tables e below (T150.setTop (mkF m 24 #[.val (.ref a1), .val (.int p2), .val (.ref a3), .val (.int (1 : Int32))] [(.int x1), (.int c1), (.int (1 : Int32)), (.ref a3)])) _
          exact kt
        by_cases hc24_154 : x1 = (0 : Int32)
        · skip
          obtain ⟨cl155, Ar155, qc155, S155, M155, Hh155, G155⟩ := id V144
          have hin155 : ¬ ((1 : Int32) < 0 ∨ cl155.slots.size ≤ ((1 : Int32)).toNatClampNeg) := inb_of S155 ⟨by decide, by decide⟩
          obtain ⟨T155, h155, X155, e155, W155, st155⟩ := stI X150 hx hZ e150 Ar155 (j := (1 : Int32)) hin155 (g := (mkF m 33 #[.val (.ref a1), .val (.int p2), .val (.ref a3), .val (.int (1 : Int32))] [(.int (c1 + (0 : Int32))), (.int (1 : Int32)), (.ref a3)])) rfl rfl (hb hby d4_33)
          have V155 : Arv Z h155 a3 ck .int (3 : Int32) [(.int (c0 + (1 : Int32))), (.int (c1 + (0 : Int32))), (.int c2)] (.int (0 : Int32)) := Arv.set Ar155 qc155 S155 M155 Hh155 G155 rfl W155 1 rfl (by first | decide | (simp; done))
          have N155 := Fr.snoc X155 N144 H4
          have pre156 : ∀ t, Steps p.tables e below (T155.setTop (mkF m 11 #[.val (.ref a1), .val (.int p2), .val (.ref a3), .val (.int (2 : Int32))] [(.int p2), (.int (2 : Int32))])) t → Steps p.tables e below (s₁.setTop (entryFrame m #[(.ref a1), (.int p2), (.ref a3)] 4)) t := fun t kt => by
            refine pre153 t ?_
            show Steps p.tables e below (T150.setTop (mkF m 24 #[.val (.ref a1), .val (.int p2), .val (.ref a3), .val (.int (1 : Int32))] [(.int x1), (.int c1), (.int (1 : Int32)), (.ref a3)])) _
            refine XS.ifYes X150.here hx rfl (pc0 := 24) (pc' := 31) rfl (hb hby d4_24) rfl ((if0 _ _).trans (teq (hc24_154 : x1 = (0 : Int32))).1) (by decide) (by decide) ?_
            show Steps p.tables e below (T150.setTop (mkF m 31 #[.val (.ref a1), .val (.int p2), .val (.ref a3), .val (.int (1 : Int32))] [(.int c1), (.int (1 : Int32)), (.ref a3)])) _
            refine XS.iconst X150.here hx rfl (hb hby d4_31) ?_
            show Steps p.tables e below (T150.setTop (mkF m 32 #[.val (.ref a1), .val (.int p2), .val (.ref a3), .val (.int (1 : Int32))] [(.int (0 : Int32)), (.int c1), (.int (1 : Int32)), (.ref a3)])) _
            refine XS.iadd X150.here hx rfl (hb hby d4_32) rfl ?_
            show Steps p.tables e below (T150.setTop (mkF m 33 #[.val (.ref a1), .val (.int p2), .val (.ref a3), .val (.int (1 : Int32))] [(.int (c1 + (0 : Int32))), (.int (1 : Int32)), (.ref a3)])) _
            refine st155 _ ?_
            show Steps p.tables e below (T155.setTop (mkF m 34 #[.val (.ref a1), .val (.int p2), .val (.ref a3), .val (.int (1 : Int32))] [])) _
            refine XS.iinc X155.here hx rfl (hb hby d4_34) rfl (l' := #[.val (.ref a1), .val (.int p2), .val (.ref a3), .val (.int ((1 : Int32) + (1 : Int32)))]) rfl ?_
            show Steps p.tables e below (T155.setTop (mkF m 37 #[.val (.ref a1), .val (.int p2), .val (.ref a3), .val (.int ((1 : Int32) + (1 : Int32)))] [])) _
            rw [show ((1 : Int32) + (1 : Int32)) = (2 : Int32) from by decide]
            show Steps p.tables e below (T155.setTop (mkF m 37 #[.val (.ref a1), .val (.int p2), .val (.ref a3), .val (.int (2 : Int32))] [])) _
            refine XS.goto X155.here hx rfl (pc0 := 37) (pc' := 9) rfl (hb hby d4_37) (by decide) (by decide) ?_
            show Steps p.tables e below (T155.setTop (mkF m 9 #[.val (.ref a1), .val (.int p2), .val (.ref a3), .val (.int (2 : Int32))] [])) _
            refine XS.iloadN X155.here hx rfl (hb hby d4_9) rfl ?_
            show Steps p.tables e below (T155.setTop (mkF m 10 #[.val (.ref a1), .val (.int p2), .val (.ref a3), .val (.int (2 : Int32))] [(.int (2 : Int32))])) _
            refine XS.iloadN X155.here hx rfl (hb hby d4_10) rfl ?_
            show Steps p.tables e below (T155.setTop (mkF m 11 #[.val (.ref a1), .val (.int p2), .val (.ref a3), .val (.int (2 : Int32))] [(.int p2), (.int (2 : Int32))])) _
            exact kt
          by_cases hc11_157 : (2 : Int32) < p2
          · skip
            obtain ⟨cl158, Ar158, qc158, S158, M158, Hh158, G158⟩ := id V155
            have hin158 : ¬ ((2 : Int32) < 0 ∨ cl158.slots.size ≤ ((2 : Int32)).toNatClampNeg) := inb_of S158 ⟨by decide, by decide⟩
            have f159 : Fld Z h155 a1 "com/example/plain_ranker/plainranker/data/BinArray" "bytes" "[B" (.ref bb) := (f149.other W155 (Or.inl ne148))
            obtain ⟨T160, X160, e160, st160⟩ := getF X155 hx hZ hown (host := "") (Or.inl (hw _ (List.mem_of_getElem? (i := 13) rfl))) Via.refl e155 f159 (g := (mkF m 19 #[.val (.ref a1), .val (.int p2), .val (.ref a3), .val (.int (2 : Int32))] [(.ref a1), (.int c2), (.int (2 : Int32)), (.ref a3)])) rfl rfl (hb hby d4_19)
            have f161 : Arv Z h155 bb bk .byte (3 : Int32) [(.int x0), (.int x1), (.int x2)] (.int (0 : Int32)) := (f151.other W155 H5)
            obtain ⟨cl162, Ar162, qc162, S162, M162, Hh162, G162⟩ := id f161
            have hin162 : ¬ ((2 : Int32) < 0 ∨ cl162.slots.size ≤ ((2 : Int32)).toNatClampNeg) := inb_of S162 ⟨by decide, by decide⟩
            have pre163 : ∀ t, Steps p.tables e below (T160.setTop (mkF m 24 #[.val (.ref a1), .val (.int p2), .val (.ref a3), .val (.int (2 : Int32))] [(.int x2), (.int c2), (.int (2 : Int32)), (.ref a3)])) t → Steps p.tables e below (s₁.setTop (entryFrame m #[(.ref a1), (.int p2), (.ref a3)] 4)) t := fun t kt => by
              refine pre156 t ?_
              show Steps p.tables e below (T155.setTop (mkF m 11 #[.val (.ref a1), .val (.int p2), .val (.ref a3), .val (.int (2 : Int32))] [(.int p2), (.int (2 : Int32))])) _
              refine XS.icmpNo X155.here hx rfl (hb hby d4_11) rfl (tlt (hc11_157 : (2 : Int32) < p2)).2.1 ?_
              show Steps p.tables e below (T155.setTop (mkF m 14 #[.val (.ref a1), .val (.int p2), .val (.ref a3), .val (.int (2 : Int32))] [])) _
              refine XS.aloadN X155.here hx rfl (hb hby d4_14) rfl rfl ?_
              show Steps p.tables e below (T155.setTop (mkF m 15 #[.val (.ref a1), .val (.int p2), .val (.ref a3), .val (.int (2 : Int32))] [(.ref a3)])) _
              refine XS.iloadN X155.here hx rfl (hb hby d4_15) rfl ?_
              show Steps p.tables e below (T155.setTop (mkF m 16 #[.val (.ref a1), .val (.int p2), .val (.ref a3), .val (.int (2 : Int32))] [(.int (2 : Int32)), (.ref a3)])) _
              refine XT.dup2 X155.here hx rfl (hb hby d4_16) rfl rfl rfl ?_
              show Steps p.tables e below (T155.setTop (mkF m 17 #[.val (.ref a1), .val (.int p2), .val (.ref a3), .val (.int (2 : Int32))] [(.int (2 : Int32)), (.ref a3), (.int (2 : Int32)), (.ref a3)])) _
              refine X155.iaload hx (j := (2 : Int32)) (v := (.int c2)) (by rw [e155]; exact Ar158.1) (State.isArrayOf_alike hZ.alike Ar158.2.1) Ar158.2.2 hin158 (Hh158.at hin158 (rfl)) (g := (mkF m 17 #[.val (.ref a1), .val (.int p2), .val (.ref a3), .val (.int (2 : Int32))] [(.int (2 : Int32)), (.ref a3), (.int (2 : Int32)), (.ref a3)])) rfl rfl (hb hby d4_17) _ ?_
              show Steps p.tables e below (T155.setTop (mkF m 18 #[.val (.ref a1), .val (.int p2), .val (.ref a3), .val (.int (2 : Int32))] [(.int c2), (.int (2 : Int32)), (.ref a3)])) _
              refine XS.aloadN X155.here hx rfl (hb hby d4_18) rfl rfl ?_
              show Steps p.tables e below (T155.setTop (mkF m 19 #[.val (.ref a1), .val (.int p2), .val (.ref a3), .val (.int (2 : Int32))] [(.ref a1), (.int c2), (.int (2 : Int32)), (.ref a3)])) _
              refine st160 _ ?_
              show Steps p.tables e below (T160.setTop (mkF m 22 #[.val (.ref a1), .val (.int p2), .val (.ref a3), .val (.int (2 : Int32))] [(.ref bb), (.int c2), (.int (2 : Int32)), (.ref a3)])) _
              refine XS.iloadN X160.here hx rfl (hb hby d4_22) rfl ?_
              show Steps p.tables e below (T160.setTop (mkF m 23 #[.val (.ref a1), .val (.int p2), .val (.ref a3), .val (.int (2 : Int32))] [(.int (2 : Int32)), (.ref bb), (.int c2), (.int (2 : Int32)), (.ref a3)])) _
              refine X160.baloadBytes hx (j := (2 : Int32)) (v := (.int x2)) (by rw [e160]; exact Ar162.1) (State.isArrayOf_alike hZ.alike Ar162.2.1) Ar162.2.2 hin162 (Hh162.at hin162 (rfl)) (g := (mkF m 23 #[.val (.ref a1), .val (.int p2), .val (.ref a3), .val (.int (2 : Int32))] [(.int (2 : Int32)), (.ref bb), (.int c2), (.int (2 : Int32)), (.ref a3)])) rfl rfl (hb hby d4_23) _ ?_
              show Steps p.tables e below (T160.setTop (mkF m 24 #[.val (.ref a1), .val (.int p2), .val (.ref a3), .val (.int (2 : Int32))] [(.int x2), (.int c2), (.int (2 : Int32)), (.ref a3)])) _
              exact kt
            by_cases hc24_164 : x2 = (0 : Int32)
            · skip
              obtain ⟨cl165, Ar165, qc165, S165, M165, Hh165, G165⟩ := id V155
              have hin165 : ¬ ((2 : Int32) < 0 ∨ cl165.slots.size ≤ ((2 : Int32)).toNatClampNeg) := inb_of S165 ⟨by decide, by decide⟩
              obtain ⟨T165, h165, X165, e165, W165, st165⟩ := stI X160 hx hZ e160 Ar165 (j := (2 : Int32)) hin165 (g := (mkF m 33 #[.val (.ref a1), .val (.int p2), .val (.ref a3), .val (.int (2 : Int32))] [(.int (c2 + (0 : Int32))), (.int (2 : Int32)), (.ref a3)])) rfl rfl (hb hby d4_33)
              have V165 : Arv Z h165 a3 ck .int (3 : Int32) [(.int (c0 + (1 : Int32))), (.int (c1 + (0 : Int32))), (.int (c2 + (0 : Int32)))] (.int (0 : Int32)) := Arv.set Ar165 qc165 S165 M165 Hh165 G165 rfl W165 2 rfl (by first | decide | (simp; done))
              have N165 := Fr.snoc X165 N155 H4
              obtain ⟨fs, hr, hrun, hended, hW, hsame⟩ := X165.leave (v := none) (fun _ => rfl)
              refine ⟨_, _, pre163 _ ?_, hrun, hended, _, _, rfl, ?_, ⟨_, rfl⟩, hW, hsame.mono (by decide) (by decide)⟩
              · skip
                show Steps p.tables e below (T160.setTop (mkF m 24 #[.val (.ref a1), .val (.int p2), .val (.ref a3), .val (.int (2 : Int32))] [(.int x2), (.int c2), (.int (2 : Int32)), (.ref a3)])) _
                refine XS.ifYes X160.here hx rfl (pc0 := 24) (pc' := 31) rfl (hb hby d4_24) rfl ((if0 _ _).trans (teq (hc24_164 : x2 = (0 : Int32))).1) (by decide) (by decide) ?_
                show Steps p.tables e below (T160.setTop (mkF m 31 #[.val (.ref a1), .val (.int p2), .val (.ref a3), .val (.int (2 : Int32))] [(.int c2), (.int (2 : Int32)), (.ref a3)])) _
                refine XS.iconst X160.here hx rfl (hb hby d4_31) ?_
                show Steps p.tables e below (T160.setTop (mkF m 32 #[.val (.ref a1), .val (.int p2), .val (.ref a3), .val (.int (2 : Int32))] [(.int (0 : Int32)), (.int c2), (.int (2 : Int32)), (.ref a3)])) _
                refine XS.iadd X160.here hx rfl (hb hby d4_32) rfl ?_
                show Steps p.tables e below (T160.setTop (mkF m 33 #[.val (.ref a1), .val (.int p2), .val (.ref a3), .val (.int (2 : Int32))] [(.int (c2 + (0 : Int32))), (.int (2 : Int32)), (.ref a3)])) _
                refine st165 _ ?_
                show Steps p.tables e below (T165.setTop (mkF m 34 #[.val (.ref a1), .val (.int p2), .val (.ref a3), .val (.int (2 : Int32))] [])) _
                refine XS.iinc X165.here hx rfl (hb hby d4_34) rfl (l' := #[.val (.ref a1), .val (.int p2), .val (.ref a3), .val (.int ((2 : Int32) + (1 : Int32)))]) rfl ?_
                show Steps p.tables e below (T165.setTop (mkF m 37 #[.val (.ref a1), .val (.int p2), .val (.ref a3), .val (.int ((2 : Int32) + (1 : Int32)))] [])) _
                rw [show ((2 : Int32) + (1 : Int32)) = (3 : Int32) from by decide]
                show Steps p.tables e below (T165.setTop (mkF m 37 #[.val (.ref a1), .val (.int p2), .val (.ref a3), .val (.int (3 : Int32))] [])) _
                refine XS.goto X165.here hx rfl (pc0 := 37) (pc' := 9) rfl (hb hby d4_37) (by decide) (by decide) ?_
                show Steps p.tables e below (T165.setTop (mkF m 9 #[.val (.ref a1), .val (.int p2), .val (.ref a3), .val (.int (3 : Int32))] [])) _
                refine XS.iloadN X165.here hx rfl (hb hby d4_9) rfl ?_
                show Steps p.tables e below (T165.setTop (mkF m 10 #[.val (.ref a1), .val (.int p2), .val (.ref a3), .val (.int (3 : Int32))] [(.int (3 : Int32))])) _
                refine XS.iloadN X165.here hx rfl (hb hby d4_10) rfl ?_
                show Steps p.tables e below (T165.setTop (mkF m 11 #[.val (.ref a1), .val (.int p2), .val (.ref a3), .val (.int (3 : Int32))] [(.int p2), (.int (3 : Int32))])) _
                refine XS.icmpYes X165.here hx rfl (pc0 := 11) (pc' := 40) rfl (hb hby d4_11) rfl (flt (H7 : ¬ ((3 : Int32) < p2))).2.1 (by decide) (by decide) ?_
                show Steps p.tables e below (T165.setTop (mkF m 40 #[.val (.ref a1), .val (.int p2), .val (.ref a3), .val (.int (3 : Int32))] [])) _
                refine XS.goto X165.here hx rfl (pc0 := 40) (pc' := 76) rfl (hb hby d4_40) (by decide) (by decide) ?_
                show Steps p.tables e below (T165.setTop (mkF m 76 #[.val (.ref a1), .val (.int p2), .val (.ref a3), .val (.int (3 : Int32))] [])) _
                exact X165.returnOut hx Bd.returns (hb hby d4_76) hr
              · show Q4n Z a1 p2 a3 bb bk ck x0 x1 x2 c0 c1 c2 h0 n0 _ T165.heap _
                rw [e165]
                exact ⟨rfl, N165, ((((Keep.refl h0 [a3]).wr W144 (Or.inl (List.mem_of_getElem? (i := 0) rfl))).wr W155 (Or.inl (List.mem_of_getElem? (i := 0) rfl))).wr W165 (Or.inl (List.mem_of_getElem? (i := 0) rfl))), (by simpa only [own_e, eq_true hc11_103, eq_false hc24_108, eq_true hc11_146, eq_true hc24_154, eq_true hc11_157, eq_true hc24_164, if_true, if_false] using V165)⟩
            · skip
              obtain ⟨cl166, Ar166, qc166, S166, M166, Hh166, G166⟩ := id V155
              have hin166 : ¬ ((2 : Int32) < 0 ∨ cl166.slots.size ≤ ((2 : Int32)).toNatClampNeg) := inb_of S166 ⟨by decide, by decide⟩
              obtain ⟨T166, h166, X166, e166, W166, st166⟩ := stI X160 hx hZ e160 Ar166 (j := (2 : Int32)) hin166 (g := (mkF m 33 #[.val (.ref a1), .val (.int p2), .val (.ref a3), .val (.int (2 : Int32))] [(.int (c2 + (1 : Int32))), (.int (2 : Int32)), (.ref a3)])) rfl rfl (hb hby d4_33)
              have V166 : Arv Z h166 a3 ck .int (3 : Int32) [(.int (c0 + (1 : Int32))), (.int (c1 + (0 : Int32))), (.int (c2 + (1 : Int32)))] (.int (0 : Int32)) := Arv.set Ar166 qc166 S166 M166 Hh166 G166 rfl W166 2 rfl (by first | decide | (simp; done))
              have N166 := Fr.snoc X166 N155 H4
              obtain ⟨fs, hr, hrun, hended, hW, hsame⟩ := X166.leave (v := none) (fun _ => rfl)
              refine ⟨_, _, pre163 _ ?_, hrun, hended, _, _, rfl, ?_, ⟨_, rfl⟩, hW, hsame.mono (by decide) (by decide)⟩
              · skip
                show Steps p.tables e below (T160.setTop (mkF m 24 #[.val (.ref a1), .val (.int p2), .val (.ref a3), .val (.int (2 : Int32))] [(.int x2), (.int c2), (.int (2 : Int32)), (.ref a3)])) _
                refine XS.ifNo X160.here hx rfl (hb hby d4_24) rfl ((if0 _ _).trans (feq (hc24_164 : ¬ (x2 = (0 : Int32)))).1) ?_
                show Steps p.tables e below (T160.setTop (mkF m 27 #[.val (.ref a1), .val (.int p2), .val (.ref a3), .val (.int (2 : Int32))] [(.int c2), (.int (2 : Int32)), (.ref a3)])) _
                refine XS.iconst X160.here hx rfl (hb hby d4_27) ?_
                show Steps p.tables e below (T160.setTop (mkF m 28 #[.val (.ref a1), .val (.int p2), .val (.ref a3), .val (.int (2 : Int32))] [(.int (1 : Int32)), (.int c2), (.int (2 : Int32)), (.ref a3)])) _
                refine XS.goto X160.here hx rfl (pc0 := 28) (pc' := 32) rfl (hb hby d4_28) (by decide) (by decide) ?_
                show Steps p.tables e below (T160.setTop (mkF m 32 #[.val (.ref a1), .val (.int p2), .val (.ref a3), .val (.int (2 : Int32))] [(.int (1 : Int32)), (.int c2), (.int (2 : Int32)), (.ref a3)])) _
                refine XS.iadd X160.here hx rfl (hb hby d4_32) rfl ?_
                show Steps p.tables e below (T160.setTop (mkF m 33 #[.val (.ref a1), .val (.int p2), .val (.ref a3), .val (.int (2 : Int32))] [(.int (c2 + (1 : Int32))), (.int (2 : Int32)), (.ref a3)])) _
                refine st166 _ ?_
                show Steps p.tables e below (T166.setTop (mkF m 34 #[.val (.ref a1), .val (.int p2), .val (.ref a3), .val (.int (2 : Int32))] [])) _
                refine XS.iinc X166.here hx rfl (hb hby d4_34) rfl (l' := #[.val (.ref a1), .val (.int p2), .val (.ref a3), .val (.int ((2 : Int32) + (1 : Int32)))]) rfl ?_
                show Steps p.tables e below (T166.setTop (mkF m 37 #[.val (.ref a1), .val (.int p2), .val (.ref a3), .val (.int ((2 : Int32) + (1 : Int32)))] [])) _
                rw [show ((2 : Int32) + (1 : Int32)) = (3 : Int32) from by decide]
                show Steps p.tables e below (T166.setTop (mkF m 37 #[.val (.ref a1), .val (.int p2), .val (.ref a3), .val (.int (3 : Int32))] [])) _
                refine XS.goto X166.here hx rfl (pc0 := 37) (pc' := 9) rfl (hb hby d4_37) (by decide) (by decide) ?_
                show Steps p.tables e below (T166.setTop (mkF m 9 #[.val (.ref a1), .val (.int p2), .val (.ref a3), .val (.int (3 : Int32))] [])) _
                refine XS.iloadN X166.here hx rfl (hb hby d4_9) rfl ?_
                show Steps p.tables e below (T166.setTop (mkF m 10 #[.val (.ref a1), .val (.int p2), .val (.ref a3), .val (.int (3 : Int32))] [(.int (3 : Int32))])) _
                refine XS.iloadN X166.here hx rfl (hb hby d4_10) rfl ?_
                show Steps p.tables e below (T166.setTop (mkF m 11 #[.val (.ref a1), .val (.int p2), .val (.ref a3), .val (.int (3 : Int32))] [(.int p2), (.int (3 : Int32))])) _
                refine XS.icmpYes X166.here hx rfl (pc0 := 11) (pc' := 40) rfl (hb hby d4_11) rfl (flt (H7 : ¬ ((3 : Int32) < p2))).2.1 (by decide) (by decide) ?_
                show Steps p.tables e below (T166.setTop (mkF m 40 #[.val (.ref a1), .val (.int p2), .val (.ref a3), .val (.int (3 : Int32))] [])) _
                refine XS.goto X166.here hx rfl (pc0 := 40) (pc' := 76) rfl (hb hby d4_40) (by decide) (by decide) ?_
                show Steps p.tables e below (T166.setTop (mkF m 76 #[.val (.ref a1), .val (.int p2), .val (.ref a3), .val (.int (3 : Int32))] [])) _
                exact X166.returnOut hx Bd.returns (hb hby d4_76) hr
              · show Q4n Z a1 p2 a3 bb bk ck x0 x1 x2 c0 c1 c2 h0 n0 _ T166.heap _
                rw [e166]
                exact ⟨rfl, N166, ((((Keep.refl h0 [a3]).wr W144 (Or.inl (List.mem_of_getElem? (i := 0) rfl))).wr W155 (Or.inl (List.mem_of_getElem? (i := 0) rfl))).wr W166 (Or.inl (List.mem_of_getElem? (i := 0) rfl))), (by simpa only [own_e, eq_true hc11_103, eq_false hc24_108, eq_true hc11_146, eq_true hc24_154, eq_true hc11_157, eq_false hc24_164, if_true, if_false] using V166)⟩
          · skip
            obtain ⟨fs, hr, hrun, hended, hW, hsame⟩ := X155.leave (v := none) (fun _ => rfl)
            refine ⟨_, _, pre156 _ ?_, hrun, hended, _, _, rfl, ?_, ⟨_, rfl⟩, hW, hsame.mono (by decide) (by decide)⟩
            · skip
              show Steps p.tables e below (T155.setTop (mkF m 11 #[.val (.ref a1), .val (.int p2), .val (.ref a3), .val (.int (2 : Int32))] [(.int p2), (.int (2 : Int32))])) _
              refine XS.icmpYes X155.here hx rfl (pc0 := 11) (pc' := 40) rfl (hb hby d4_11) rfl (flt (hc11_157 : ¬ ((2 : Int32) < p2))).2.1 (by decide) (by decide) ?_
              show Steps p.tables e below (T155.setTop (mkF m 40 #[.val (.ref a1), .val (.int p2), .val (.ref a3), .val (.int (2 : Int32))] [])) _
              refine XS.goto X155.here hx rfl (pc0 := 40) (pc' := 76) rfl (hb hby d4_40) (by decide) (by decide) ?_
              show Steps p.tables e below (T155.setTop (mkF m 76 #[.val (.ref a1), .val (.int p2), .val (.ref a3), .val (.int (2 : Int32))] [])) _
              exact X155.returnOut hx Bd.returns (hb hby d4_76) hr
            · show Q4n Z a1 p2 a3 bb bk ck x0 x1 x2 c0 c1 c2 h0 n0 _ T155.heap _
              rw [e155]
              exact ⟨rfl, N155, (((Keep.refl h0 [a3]).wr W144 (Or.inl (List.mem_of_getElem? (i := 0) rfl))).wr W155 (Or.inl (List.mem_of_getElem? (i := 0) rfl))), (by simpa only [own_e, eq_true hc11_103, eq_false hc24_108, eq_true hc11_146, eq_true hc24_154, eq_false hc11_157, if_true, if_false] using V155)⟩
        · skip
          obtain ⟨cl167, Ar167, qc167, S167, M167, Hh167, G167⟩ := id V144
          have hin167 : ¬ ((1 : Int32) < 0 ∨ cl167.slots.size ≤ ((1 : Int32)).toNatClampNeg) := inb_of S167 ⟨by decide, by decide⟩
          obtain ⟨T167, h167, X167, e167, W167, st167⟩ := stI X150 hx hZ e150 Ar167 (j := (1 : Int32)) hin167 (g := (mkF m 33 #[.val (.ref a1), .val (.int p2), .val (.ref a3), .val (.int (1 : Int32))] [(.int (c1 + (1 : Int32))), (.int (1 : Int32)), (.ref a3)])) rfl rfl (hb hby d4_33)
          have V167 : Arv Z h167 a3 ck .int (3 : Int32) [(.int (c0 + (1 : Int32))), (.int (c1 + (1 : Int32))), (.int c2)] (.int (0 : Int32)) := Arv.set Ar167 qc167 S167 M167 Hh167 G167 rfl W167 1 rfl (by first | decide | (simp; done))
          have N167 := Fr.snoc X167 N144 H4
          have pre168 : ∀ t, Steps p.tables e below (T167.setTop (mkF m 11 #[.val (.ref a1), .val (.int p2), .val (.ref a3), .val (.int (2 : Int32))] [(.int p2), (.int (2 : Int32))])) t → Steps p.tables e below (s₁.setTop (entryFrame m #[(.ref a1), (.int p2), (.ref a3)] 4)) t := fun t kt => by
            refine pre153 t ?_
            show Steps p.tables e below (T150.setTop (mkF m 24 #[.val (.ref a1), .val (.int p2), .val (.ref a3), .val (.int (1 : Int32))] [(.int x1), (.int c1), (.int (1 : Int32)), (.ref a3)])) _
            refine XS.ifNo X150.here hx rfl (hb hby d4_24) rfl ((if0 _ _).trans (feq (hc24_154 : ¬ (x1 = (0 : Int32)))).1) ?_
            show Steps p.tables e below (T150.setTop (mkF m 27 #[.val (.ref a1), .val (.int p2), .val (.ref a3), .val (.int (1 : Int32))] [(.int c1), (.int (1 : Int32)), (.ref a3)])) _
            refine XS.iconst X150.here hx rfl (hb hby d4_27) ?_
            show Steps p.tables e below (T150.setTop (mkF m 28 #[.val (.ref a1), .val (.int p2), .val (.ref a3), .val (.int (1 : Int32))] [(.int (1 : Int32)), (.int c1), (.int (1 : Int32)), (.ref a3)])) _
            refine XS.goto X150.here hx rfl (pc0 := 28) (pc' := 32) rfl (hb hby d4_28) (by decide) (by decide) ?_
            show Steps p.tables e below (T150.setTop (mkF m 32 #[.val (.ref a1), .val (.int p2), .val (.ref a3), .val (.int (1 : Int32))] [(.int (1 : Int32)), (.int c1), (.int (1 : Int32)), (.ref a3)])) _
            refine XS.iadd X150.here hx rfl (hb hby d4_32) rfl ?_
            show Steps p.tables e below (T150.setTop (mkF m 33 #[.val (.ref a1), .val (.int p2), .val (.ref a3), .val (.int (1 : Int32))] [(.int (c1 + (1 : Int32))), (.int (1 : Int32)), (.ref a3)])) _
            refine st167 _ ?_
            show Steps p.tables e below (T167.setTop (mkF m 34 #[.val (.ref a1), .val (.int p2), .val (.ref a3), .val (.int (1 : Int32))] [])) _
            refine XS.iinc X167.here hx rfl (hb hby d4_34) rfl (l' := #[.val (.ref a1), .val (.int p2), .val (.ref a3), .val (.int ((1 : Int32) + (1 : Int32)))]) rfl ?_
            show Steps p.tables e below (T167.setTop (mkF m 37 #[.val (.ref a1), .val (.int p2), .val (.ref a3), .val (.int ((1 : Int32) + (1 : Int32)))] [])) _
            rw [show ((1 : Int32) + (1 : Int32)) = (2 : Int32) from by decide]
            show Steps p.tables e below (T167.setTop (mkF m 37 #[.val (.ref a1), .val (.int p2), .val (.ref a3), .val (.int (2 : Int32))] [])) _
            refine XS.goto X167.here hx rfl (pc0 := 37) (pc' := 9) rfl (hb hby d4_37) (by decide) (by decide) ?_
            show Steps p.tables e below (T167.setTop (mkF m 9 #[.val (.ref a1), .val (.int p2), .val (.ref a3), .val (.int (2 : Int32))] [])) _
            refine XS.iloadN X167.here hx rfl (hb hby d4_9) rfl ?_
            show Steps p.tables e below (T167.setTop (mkF m 10 #[.val (.ref a1), .val (.int p2), .val (.ref a3), .val (.int (2 : Int32))] [(.int (2 : Int32))])) _
            refine XS.iloadN X167.here hx rfl (hb hby d4_10) rfl ?_
            show Steps p.tables e below (T167.setTop (mkF m 11 #[.val (.ref a1), .val (.int p2), .val (.ref a3), .val (.int (2 : Int32))] [(.int p2), (.int (2 : Int32))])) _
            exact kt
          by_cases hc11_169 : (2 : Int32) < p2
          · skip
            obtain ⟨cl170, Ar170, qc170, S170, M170, Hh170, G170⟩ := id V167
            have hin170 : ¬ ((2 : Int32) < 0 ∨ cl170.slots.size ≤ ((2 : Int32)).toNatClampNeg) := inb_of S170 ⟨by decide, by decide⟩
            have f171 : Fld Z h167 a1 "com/example/plain_ranker/plainranker/data/BinArray" "bytes" "[B" (.ref bb) := (f149.other W167 (Or.inl ne148))
            obtain ⟨T172, X172, e172, st172⟩ := getF X167 hx hZ hown (host := "") (Or.inl (hw _ (List.mem_of_getElem? (i := 13) rfl))) Via.refl e167 f171 (g := (mkF m 19 #[.val (.ref a1), .val (.int p2), .val (.ref a3), .val (.int (2 : Int32))] [(.ref a1), (.int c2), (.int (2 : Int32)), (.ref a3)])) rfl rfl (hb hby d4_19)
            have f173 : Arv Z h167 bb bk .byte (3 : Int32) [(.int x0), (.int x1), (.int x2)] (.int (0 : Int32)) := (f151.other W167 H5)
            obtain ⟨cl174, Ar174, qc174, S174, M174, Hh174, G174⟩ := id f173
            have hin174 : ¬ ((2 : Int32) < 0 ∨ cl174.slots.size ≤ ((2 : Int32)).toNatClampNeg) := inb_of S174 ⟨by decide, by decide⟩
            have pre175 : ∀ t, Steps p.tables e below (T172.setTop (mkF m 24 #[.val (.ref a1), .val (.int p2), .val (.ref a3), .val (.int (2 : Int32))] [(.int x2), (.int c2), (.int (2 : Int32)), (.ref a3)])) t → Steps p.tables e below (s₁.setTop (entryFrame m #[(.ref a1), (.int p2), (.ref a3)] 4)) t := fun t kt => by
              refine pre168 t ?_
              show Steps p.tables e below (T167.setTop (mkF m 11 #[.val (.ref a1), .val (.int p2), .val (.ref a3), .val (.int (2 : Int32))] [(.int p2), (.int (2 : Int32))])) _
              refine XS.icmpNo X167.here hx rfl (hb hby d4_11) rfl (tlt (hc11_169 : (2 : Int32) < p2)).2.1 ?_
              show Steps p.tables e below (T167.setTop (mkF m 14 #[.val (.ref a1), .val (.int p2), .val (.ref a3), .val (.int (2 : Int32))] [])) _
              refine XS.aloadN X167.here hx rfl (hb hby d4_14) rfl rfl ?_
              show Steps p.tables e below (T167.setTop (mkF m 15 #[.val (.ref a1), .val (.int p2), .val (.ref a3), .val (.int (2 : Int32))] [(.ref a3)])) _
              refine XS.iloadN X167.here hx rfl (hb hby d4_15) rfl ?_
              show Steps p.tables e below (T167.setTop (mkF m 16 #[.val (.ref a1), .val (.int p2), .val (.ref a3), .val (.int (2 : Int32))] [(.int (2 : Int32)), (.ref a3)])) _
              refine XT.dup2 X167.here hx rfl (hb hby d4_16) rfl rfl rfl ?_
              show Steps p.tables e below (T167.setTop (mkF m 17 #[.val (.ref a1), .val (.int p2), .val (.ref a3), .val (.int (2 : Int32))] [(.int (2 : Int32)), (.ref a3), (.int (2 : Int32)), (.ref a3)])) _
              refine X167.iaload hx (j := (2 : Int32)) (v := (.int c2)) (by rw [e167]; exact Ar170.1) (State.isArrayOf_alike hZ.alike Ar170.2.1) Ar170.2.2 hin170 (Hh170.at hin170 (rfl)) (g := (mkF m 17 #[.val (.ref a1), .val (.int p2), .val (.ref a3), .val (.int (2 : Int32))] [(.int (2 : Int32)), (.ref a3), (.int (2 : Int32)), (.ref a3)])) rfl rfl (hb hby d4_17) _ ?_
              show Steps p.tables e below (T167.setTop (mkF m 18 #[.val (.ref a1), .val (.int p2), .val (.ref a3), .val (.int (2 : Int32))] [(.int c2), (.int (2 : Int32)), (.ref a3)])) _
              refine XS.aloadN X167.here hx rfl (hb hby d4_18) rfl rfl ?_
              show Steps p.tables e below (T167.setTop (mkF m 19 #[.val (.ref a1), .val (.int p2), .val (.ref a3), .val (.int (2 : Int32))] [(.ref a1), (.int c2), (.int (2 : Int32)), (.ref a3)])) _
              refine st172 _ ?_
              show Steps p.tables e below (T172.setTop (mkF m 22 #[.val (.ref a1), .val (.int p2), .val (.ref a3), .val (.int (2 : Int32))] [(.ref bb), (.int c2), (.int (2 : Int32)), (.ref a3)])) _
              refine XS.iloadN X172.here hx rfl (hb hby d4_22) rfl ?_
              show Steps p.tables e below (T172.setTop (mkF m 23 #[.val (.ref a1), .val (.int p2), .val (.ref a3), .val (.int (2 : Int32))] [(.int (2 : Int32)), (.ref bb), (.int c2), (.int (2 : Int32)), (.ref a3)])) _
              refine X172.baloadBytes hx (j := (2 : Int32)) (v := (.int x2)) (by rw [e172]; exact Ar174.1) (State.isArrayOf_alike hZ.alike Ar174.2.1) Ar174.2.2 hin174 (Hh174.at hin174 (rfl)) (g := (mkF m 23 #[.val (.ref a1), .val (.int p2), .val (.ref a3), .val (.int (2 : Int32))] [(.int (2 : Int32)), (.ref bb), (.int c2), (.int (2 : Int32)), (.ref a3)])) rfl rfl (hb hby d4_23) _ ?_
              show Steps p.tables e below (T172.setTop (mkF m 24 #[.val (.ref a1), .val (.int p2), .val (.ref a3), .val (.int (2 : Int32))] [(.int x2), (.int c2), (.int (2 : Int32)), (.ref a3)])) _
              exact kt
            by_cases hc24_176 : x2 = (0 : Int32)
            · skip
              obtain ⟨cl177, Ar177, qc177, S177, M177, Hh177, G177⟩ := id V167
              have hin177 : ¬ ((2 : Int32) < 0 ∨ cl177.slots.size ≤ ((2 : Int32)).toNatClampNeg) := inb_of S177 ⟨by decide, by decide⟩
              obtain ⟨T177, h177, X177, e177, W177, st177⟩ := stI X172 hx hZ e172 Ar177 (j := (2 : Int32)) hin177 (g := (mkF m 33 #[.val (.ref a1), .val (.int p2), .val (.ref a3), .val (.int (2 : Int32))] [(.int (c2 + (0 : Int32))), (.int (2 : Int32)), (.ref a3)])) rfl rfl (hb hby d4_33)
              have V177 : Arv Z h177 a3 ck .int (3 : Int32) [(.int (c0 + (1 : Int32))), (.int (c1 + (1 : Int32))), (.int (c2 + (0 : Int32)))] (.int (0 : Int32)) := Arv.set Ar177 qc177 S177 M177 Hh177 G177 rfl W177 2 rfl (by first | decide | (simp; done))
              have N177 := Fr.snoc X177 N167 H4
              obtain ⟨fs, hr, hrun, hended, hW, hsame⟩ := X177.leave (v := none) (fun _ => rfl)
              refine ⟨_, _, pre175 _ ?_, hrun, hended, _, _, rfl, ?_, ⟨_, rfl⟩, hW, hsame.mono (by decide) (by decide)⟩
              · skip
                show Steps p.tables e below (T172.setTop (mkF m 24 #[.val (.ref a1), .val (.int p2), .val (.ref a3), .val (.int (2 : Int32))] [(.int x2), (.int c2), (.int (2 : Int32)), (.ref a3)])) _
                refine XS.ifYes X172.here hx rfl (pc0 := 24) (pc' := 31) rfl (hb hby d4_24) rfl ((if0 _ _).trans (teq (hc24_176 : x2 = (0 : Int32))).1) (by decide) (by decide) ?_
                show Steps p.tables e below (T172.setTop (mkF m 31 #[.val (.ref a1), .val (.int p2), .val (.ref a3), .val (.int (2 : Int32))] [(.int c2), (.int (2 : Int32)), (.ref a3)])) _
                refine XS.iconst X172.here hx rfl (hb hby d4_31) ?_
                show Steps p.tables e below (T172.setTop (mkF m 32 #[.val (.ref a1), .val (.int p2), .val (.ref a3), .val (.int (2 : Int32))] [(.int (0 : Int32)), (.int c2), (.int (2 : Int32)), (.ref a3)])) _
                refine XS.iadd X172.here hx rfl (hb hby d4_32) rfl ?_
                show Steps p.tables e below (T172.setTop (mkF m 33 #[.val (.ref a1), .val (.int p2), .val (.ref a3), .val (.int (2 : Int32))] [(.int (c2 + (0 : Int32))), (.int (2 : Int32)), (.ref a3)])) _
                refine st177 _ ?_
                show Steps p.tables e below (T177.setTop (mkF m 34 #[.val (.ref a1), .val (.int p2), .val (.ref a3), .val (.int (2 : Int32))] [])) _
                refine XS.iinc X177.here hx rfl (hb hby d4_34) rfl (l' := #[.val (.ref a1), .val (.int p2), .val (.ref a3), .val (.int ((2 : Int32) + (1 : Int32)))]) rfl ?_
                show Steps p.tables e below (T177.setTop (mkF m 37 #[.val (.ref a1), .val (.int p2), .val (.ref a3), .val (.int ((2 : Int32) + (1 : Int32)))] [])) _
                rw [show ((2 : Int32) + (1 : Int32)) = (3 : Int32) from by decide]
                show Steps p.tables e below (T177.setTop (mkF m 37 #[.val (.ref a1), .val (.int p2), .val (.ref a3), .val (.int (3 : Int32))] [])) _
                refine XS.goto X177.here hx rfl (pc0 := 37) (pc' := 9) rfl (hb hby d4_37) (by decide) (by decide) ?_
                show Steps p.tables e below (T177.setTop (mkF m 9 #[.val (.ref a1), .val (.int p2), .val (.ref a3), .val (.int (3 : Int32))] [])) _
                refine XS.iloadN X177.here hx rfl (hb hby d4_9) rfl ?_
                show Steps p.tables e below (T177.setTop (mkF m 10 #[.val (.ref a1), .val (.int p2), .val (.ref a3), .val (.int (3 : Int32))] [(.int (3 : Int32))])) _
                refine XS.iloadN X177.here hx rfl (hb hby d4_10) rfl ?_
                show Steps p.tables e below (T177.setTop (mkF m 11 #[.val (.ref a1), .val (.int p2), .val (.ref a3), .val (.int (3 : Int32))] [(.int p2), (.int (3 : Int32))])) _
                refine XS.icmpYes X177.here hx rfl (pc0 := 11) (pc' := 40) rfl (hb hby d4_11) rfl (flt (H7 : ¬ ((3 : Int32) < p2))).2.1 (by decide) (by decide) ?_
                show Steps p.tables e below (T177.setTop (mkF m 40 #[.val (.ref a1), .val (.int p2), .val (.ref a3), .val (.int (3 : Int32))] [])) _
                refine XS.goto X177.here hx rfl (pc0 := 40) (pc' := 76) rfl (hb hby d4_40) (by decide) (by decide) ?_
                show Steps p.tables e below (T177.setTop (mkF m 76 #[.val (.ref a1), .val (.int p2), .val (.ref a3), .val (.int (3 : Int32))] [])) _
                exact X177.returnOut hx Bd.returns (hb hby d4_76) hr
              · show Q4n Z a1 p2 a3 bb bk ck x0 x1 x2 c0 c1 c2 h0 n0 _ T177.heap _
                rw [e177]
                exact ⟨rfl, N177, ((((Keep.refl h0 [a3]).wr W144 (Or.inl (List.mem_of_getElem? (i := 0) rfl))).wr W167 (Or.inl (List.mem_of_getElem? (i := 0) rfl))).wr W177 (Or.inl (List.mem_of_getElem? (i := 0) rfl))), (by simpa only [own_e, eq_true hc11_103, eq_false hc24_108, eq_true hc11_146, eq_false hc24_154, eq_true hc11_169, eq_true hc24_176, if_true, if_false] using V177)⟩
            · skip
              obtain ⟨cl178, Ar178, qc178, S178, M178, Hh178, G178⟩ := id V167
              have hin178 : ¬ ((2 : Int32) < 0 ∨ cl178.slots.size ≤ ((2 : Int32)).toNatClampNeg) := inb_of S178 ⟨by decide, by decide⟩
              obtain ⟨T178, h178, X178, e178, W178, st178⟩ := stI X172 hx hZ e172 Ar178 (j := (2 : Int32)) hin178 (g := (mkF m 33 #[.val (.ref a1), .val (.int p2), .val (.ref a3), .val (.int (2 : Int32))] [(.int (c2 + (1 : Int32))), (.int (2 : Int32)), (.ref a3)])) rfl rfl (hb hby d4_33)
              have V178 : Arv Z h178 a3 ck .int (3 : Int32) [(.int (c0 + (1 : Int32))), (.int (c1 + (1 : Int32))), (.int (c2 + (1 : Int32)))] (.int (0 : Int32)) := Arv.set Ar178 qc178 S178 M178 Hh178 G178 rfl W178 2 rfl (by first | decide | (simp; done))
              have N178 := Fr.snoc X178 N167 H4
              obtain ⟨fs, hr, hrun, hended, hW, hsame⟩ := X178.leave (v := none) (fun _ => rfl)
              refine ⟨_, _, pre175 _ ?_, hrun, hended, _, _, rfl, ?_, ⟨_, rfl⟩, hW, hsame.mono (by decide) (by decide)⟩
              · skip
                show Steps p.tables e below (T172.setTop (mkF m 24 #[.val (.ref a1), .val (.int p2), .val (.ref a3), .val (.int (2 : Int32))] [(.int x2), (.int c2), (.int (2 : Int32)), (.ref a3)])) _
                refine XS.ifNo X172.here hx rfl (hb hby d4_24) rfl ((if0 _ _).trans (feq (hc24_176 : ¬ (x2 = (0 : Int32)))).1) ?_
                show Steps p.tables e below (T172.setTop (mkF m 27 #[.val (.ref a1), .val (.int p2), .val (.ref a3), .val (.int (2 : Int32))] [(.int c2), (.int (2 : Int32)), (.ref a3)])) _
                refine XS.iconst X172.here hx rfl (hb hby d4_27) ?_
                show Steps p.tables e below (T172.setTop (mkF m 28 #[.val (.ref a1), .val (.int p2), .val (.ref a3), .val (.int (2 : Int32))] [(.int (1 : Int32)), (.int c2), (.int (2 : Int32)), (.ref a3)])) _
                refine XS.goto X172.here hx rfl (pc0 := 28) (pc' := 32) rfl (hb hby d4_28) (by decide) (by decide) ?_
                show Steps p.tables e below (T172.setTop (mkF m 32 #[.val (.ref a1), .val (.int p2), .val (.ref a3), .val (.int (2 : Int32))] [(.int (1 : Int32)), (.int c2), (.int (2 : Int32)), (.ref a3)])) _
                refine XS.iadd X172.here hx rfl (hb hby d4_32) rfl ?_
                show Steps p.tables e below (T172.setTop (mkF m 33 #[.val (.ref a1), .val (.int p2), .val (.ref a3), .val (.int (2 : Int32))] [(.int (c2 + (1 : Int32))), (.int (2 : Int32)), (.ref a3)])) _
                refine st178 _ ?_
                show Steps p.tables e below (T178.setTop (mkF m 34 #[.val (.ref a1), .val (.int p2), .val (.ref a3), .val (.int (2 : Int32))] [])) _
                refine XS.iinc X178.here hx rfl (hb hby d4_34) rfl (l' := #[.val (.ref a1), .val (.int p2), .val (.ref a3), .val (.int ((2 : Int32) + (1 : Int32)))]) rfl ?_
                show Steps p.tables e below (T178.setTop (mkF m 37 #[.val (.ref a1), .val (.int p2), .val (.ref a3), .val (.int ((2 : Int32) + (1 : Int32)))] [])) _
                rw [show ((2 : Int32) + (1 : Int32)) = (3 : Int32) from by decide]
                show Steps p.tables e below (T178.setTop (mkF m 37 #[.val (.ref a1), .val (.int p2), .val (.ref a3), .val (.int (3 : Int32))] [])) _
                refine XS.goto X178.here hx rfl (pc0 := 37) (pc' := 9) rfl (hb hby d4_37) (by decide) (by decide) ?_
                show Steps p.tables e below (T178.setTop (mkF m 9 #[.val (.ref a1), .val (.int p2), .val (.ref a3), .val (.int (3 : Int32))] [])) _
                refine XS.iloadN X178.here hx rfl (hb hby d4_9) rfl ?_
                show Steps p.tables e below (T178.setTop (mkF m 10 #[.val (.ref a1), .val (.int p2), .val (.ref a3), .val (.int (3 : Int32))] [(.int (3 : Int32))])) _
                refine XS.iloadN X178.here hx rfl (hb hby d4_10) rfl ?_
                show Steps p.tables e below (T178.setTop (mkF m 11 #[.val (.ref a1), .val (.int p2), .val (.ref a3), .val (.int (3 : Int32))] [(.int p2), (.int (3 : Int32))])) _
                refine XS.icmpYes X178.here hx rfl (pc0 := 11) (pc' := 40) rfl (hb hby d4_11) rfl (flt (H7 : ¬ ((3 : Int32) < p2))).2.1 (by decide) (by decide) ?_
                show Steps p.tables e below (T178.setTop (mkF m 40 #[.val (.ref a1), .val (.int p2), .val (.ref a3), .val (.int (3 : Int32))] [])) _
                refine XS.goto X178.here hx rfl (pc0 := 40) (pc' := 76) rfl (hb hby d4_40) (by decide) (by decide) ?_
                show Steps p.tables e below (T178.setTop (mkF m 76 #[.val (.ref a1), .val (.int p2), .val (.ref a3), .val (.int (3 : Int32))] [])) _
                exact X178.returnOut hx Bd.returns (hb hby d4_76) hr
              · show Q4n Z a1 p2 a3 bb bk ck x0 x1 x2 c0 c1 c2 h0 n0 _ T178.heap _
                rw [e178]
                exact ⟨rfl, N178, ((((Keep.refl h0 [a3]).wr W144 (Or.inl (List.mem_of_getElem? (i := 0) rfl))).wr W167 (Or.inl (List.mem_of_getElem? (i := 0) rfl))).wr W178 (Or.inl (List.mem_of_getElem? (i := 0) rfl))), (by simpa only [own_e, eq_true hc11_103, eq_false hc24_108, eq_true hc11_146, eq_false hc24_154, eq_true hc11_169, eq_false hc24_176, if_true, if_false] using V178)⟩
          · skip
            obtain ⟨fs, hr, hrun, hended, hW, hsame⟩ := X167.leave (v := none) (fun _ => rfl)
            refine ⟨_, _, pre168 _ ?_, hrun, hended, _, _, rfl, ?_, ⟨_, rfl⟩, hW, hsame.mono (by decide) (by decide)⟩
            · skip
              show Steps p.tables e below (T167.setTop (mkF m 11 #[.val (.ref a1), .val (.int p2), .val (.ref a3), .val (.int (2 : Int32))] [(.int p2), (.int (2 : Int32))])) _
              refine XS.icmpYes X167.here hx rfl (pc0 := 11) (pc' := 40) rfl (hb hby d4_11) rfl (flt (hc11_169 : ¬ ((2 : Int32) < p2))).2.1 (by decide) (by decide) ?_
              show Steps p.tables e below (T167.setTop (mkF m 40 #[.val (.ref a1), .val (.int p2), .val (.ref a3), .val (.int (2 : Int32))] [])) _
              refine XS.goto X167.here hx rfl (pc0 := 40) (pc' := 76) rfl (hb hby d4_40) (by decide) (by decide) ?_
              show Steps p.tables e below (T167.setTop (mkF m 76 #[.val (.ref a1), .val (.int p2), .val (.ref a3), .val (.int (2 : Int32))] [])) _
              exact X167.returnOut hx Bd.returns (hb hby d4_76) hr
            · show Q4n Z a1 p2 a3 bb bk ck x0 x1 x2 c0 c1 c2 h0 n0 _ T167.heap _
              rw [e167]
              exact ⟨rfl, N167, (((Keep.refl h0 [a3]).wr W144 (Or.inl (List.mem_of_getElem? (i := 0) rfl))).wr W167 (Or.inl (List.mem_of_getElem? (i := 0) rfl))), (by simpa only [own_e, eq_true hc11_103, eq_false hc24_108, eq_true hc11_146, eq_false hc24_154, eq_false hc11_169, if_true, if_false] using V167)⟩
      · skip
        have hm2 : ¬ ((2 : Int32) < p2) := own_mono hc11_146 (by decide)
        obtain ⟨fs, hr, hrun, hended, hW, hsame⟩ := X144.leave (v := none) (fun _ => rfl)
        refine ⟨_, _, pre145 _ ?_, hrun, hended, _, _, rfl, ?_, ⟨_, rfl⟩, hW, hsame.mono (by decide) (by decide)⟩
        · skip
          show Steps p.tables e below (T144.setTop (mkF m 11 #[.val (.ref a1), .val (.int p2), .val (.ref a3), .val (.int (1 : Int32))] [(.int p2), (.int (1 : Int32))])) _
          refine XS.icmpYes X144.here hx rfl (pc0 := 11) (pc' := 40) rfl (hb hby d4_11) rfl (flt (hc11_146 : ¬ ((1 : Int32) < p2))).2.1 (by decide) (by decide) ?_
          show Steps p.tables e below (T144.setTop (mkF m 40 #[.val (.ref a1), .val (.int p2), .val (.ref a3), .val (.int (1 : Int32))] [])) _
          refine XS.goto X144.here hx rfl (pc0 := 40) (pc' := 76) rfl (hb hby d4_40) (by decide) (by decide) ?_
          show Steps p.tables e below (T144.setTop (mkF m 76 #[.val (.ref a1), .val (.int p2), .val (.ref a3), .val (.int (1 : Int32))] [])) _
          exact X144.returnOut hx Bd.returns (hb hby d4_76) hr
        · show Q4n Z a1 p2 a3 bb bk ck x0 x1 x2 c0 c1 c2 h0 n0 _ T144.heap _
          rw [e144]
          exact ⟨rfl, N144, ((Keep.refl h0 [a3]).wr W144 (Or.inl (List.mem_of_getElem? (i := 0) rfl))), (by simpa only [own_e, eq_true hc11_103, eq_false hc24_108, eq_false hc11_146, eq_false hm2, if_true, if_false] using V144)⟩
  · skip
    have hm1 : ¬ ((1 : Int32) < p2) := own_mono hc11_103 (by decide)
    have hm2 : ¬ ((2 : Int32) < p2) := own_mono hc11_103 (by decide)
    obtain ⟨fs, hr, hrun, hended, hW, hsame⟩ := X101.leave (v := none) (fun _ => rfl)
    refine ⟨_, _, pre102 _ ?_, hrun, hended, _, _, rfl, ?_, ⟨_, rfl⟩, hW, hsame.mono (by decide) (by decide)⟩
    · skip
      show Steps p.tables e below (T101.setTop (mkF m 11 #[.val (.ref a1), .val (.int p2), .val (.ref a3), .val (.int (0 : Int32))] [(.int p2), (.int (0 : Int32))])) _
      refine XS.icmpYes X101.here hx rfl (pc0 := 11) (pc' := 40) rfl (hb hby d4_11) rfl (flt (hc11_103 : ¬ ((0 : Int32) < p2))).2.1 (by decide) (by decide) ?_
      show Steps p.tables e below (T101.setTop (mkF m 40 #[.val (.ref a1), .val (.int p2), .val (.ref a3), .val (.int (0 : Int32))] [])) _
      refine XS.goto X101.here hx rfl (pc0 := 40) (pc' := 76) rfl (hb hby d4_40) (by decide) (by decide) ?_
      show Steps p.tables e below (T101.setTop (mkF m 76 #[.val (.ref a1), .val (.int p2), .val (.ref a3), .val (.int (0 : Int32))] [])) _
      exact X101.returnOut hx Bd.returns (hb hby d4_76) hr
    · show Q4n Z a1 p2 a3 bb bk ck x0 x1 x2 c0 c1 c2 h0 n0 _ T101.heap _
      rw [e101]
      exact ⟨rfl, N0, (Keep.refl h0 [a3]), (by simpa only [own_e, eq_false hc11_103, eq_false hm1, eq_false hm2, if_true, if_false] using H3)⟩
theorem d4_43 : decode prog_8_method_7_code 43 = .ok (.iconst 0, 1) := by decide +kernel
theorem d4_44 : decode prog_8_method_7_code 44 = .ok (.istore_n 3, 1) := by decide +kernel
theorem d4_45 : decode prog_8_method_7_code 45 = .ok (.iload_n 3, 1) := by decide +kernel
theorem d4_46 : decode prog_8_method_7_code 46 = .ok (.iload_n 1, 1) := by decide +kernel
theorem d4_47 : decode prog_8_method_7_code 47 = .ok (.if_icmp .ge 29, 3) := by decide +kernel
theorem d4_50 : decode prog_8_method_7_code 50 = .ok (.aload_n 2, 1) := by decide +kernel
theorem d4_51 : decode prog_8_method_7_code 51 = .ok (.iload_n 3, 1) := by decide +kernel
theorem d4_52 : decode prog_8_method_7_code 52 = .ok (.dup2, 1) := by decide +kernel
theorem d4_53 : decode prog_8_method_7_code 53 = .ok (.iaload, 1) := by decide +kernel
theorem d4_54 : decode prog_8_method_7_code 54 = .ok (.aload_n 0, 1) := by decide +kernel
theorem d4_55 : decode prog_8_method_7_code 55 = .ok (.getfield 14, 3) := by decide +kernel
theorem d4_58 : decode prog_8_method_7_code 58 = .ok (.iload_n 3, 1) := by decide +kernel
theorem d4_59 : decode prog_8_method_7_code 59 = .ok (.caload, 1) := by decide +kernel
theorem d4_60 : decode prog_8_method_7_code 60 = .ok (.ifCond .eq 7, 3) := by decide +kernel
theorem d4_67 : decode prog_8_method_7_code 67 = .ok (.iconst 0, 1) := by decide +kernel
theorem d4_68 : decode prog_8_method_7_code 68 = .ok (.iadd, 1) := by decide +kernel
theorem d4_69 : decode prog_8_method_7_code 69 = .ok (.iastore, 1) := by decide +kernel
theorem d4_70 : decode prog_8_method_7_code 70 = .ok (.iinc 3 1, 3) := by decide +kernel
theorem d4_73 : decode prog_8_method_7_code 73 = .ok (.goto (-28), 3) := by decide +kernel
theorem d4_63 : decode prog_8_method_7_code 63 = .ok (.iconst 1, 1) := by decide +kernel
theorem d4_64 : decode prog_8_method_7_code 64 = .ok (.goto 4, 3) := by decide +kernel
theorem ef_4w (m : MethodId) (a1 : Addr) (p2 : Int32) (a3 : Addr) : entryFrame m #[(.ref a1), (.int p2), (.ref a3)] 4 = mkF m 0 #[.val (.ref a1), .val (.int p2), .val (.ref a3), .unset] [] := by first | (simp [entryFrame, mkF, argsToLocals, Value.category]; done) | rfl
def Q4w (Z : State) (a1 : Addr) (p2 : Int32) (a3 : Addr) (bb : Addr) (bk : ClassId) (ck : ClassId) (x0 : Int32) (x1 : Int32) (x2 : Int32) (c0 : Int32) (c1 : Int32) (c2 : Int32) (h0 : Heap) (n0 : Nat) (v : Option Value) (h : Heap) (L : List Loc) : Prop := v = none ∧ Fr n0 L ∧ Keep h0 h [a3] ∧ Arv Z h a3 ck .int (3 : Int32) [(.int (own_e c0 (0 : Int32) p2 x0)), (.int (own_e c1 (1 : Int32) p2 x1)), (.int (own_e c2 (2 : Int32) p2 x2))] (.int (0 : Int32))
set_option maxRecDepth 65536 in
set_option maxHeartbeats 40000000 in
theorem rm4w (l : Launch) (Z : State) (a0 : Array Value) (hw : ∀ d ∈ tables_1, d.before a0 Z = true) (ws : List Jvm.Cond) (a1 : Addr) (p2 : Int32) (a3 : Addr) (bb : Addr) (bk : ClassId) (ck : ClassId) (x0 : Int32) (x1 : Int32) (x2 : Int32) (c0 : Int32) (c1 : Int32) (c2 : Int32) (h0 : Heap) (n0 : Nat) (Z0 : n0 ≤ h0.size) (H0 : Fld Z h0 a1 "com/example/plain_ranker/plainranker/data/BinArray" "bytes" "[B" .null) (H1 : Fld Z h0 a1 "com/example/plain_ranker/plainranker/data/BinArray" "chars" "[C" (.ref bb)) (H2 : Arv Z h0 bb bk .char (3 : Int32) [(.int x0), (.int x1), (.int x2)] (.int (0 : Int32))) (H3 : Arv Z h0 a3 ck .int (3 : Int32) [(.int c0), (.int c1), (.int c2)] (.int (0 : Int32))) (H4 : n0 ≤ a3) (H5 : bb ≠ a3) (H6 : Exa Z h0 a1 "com/example/plain_ranker/plainranker/data/BinArray") (H7 : ¬ ((3 : Int32) < p2)) :
    MetFree l (⟨"com/example/plain_ranker/plainranker/data/BinArray", "countNonZero", "(I[I)V"⟩ : MethodName) (head1 (Jvm.Cond.code (⟨"com/example/plain_ranker/plainranker/data/BinArray", "countNonZero", "(I[I)V"⟩ : MethodName) prog_8_method_7_code 4 none :: ws) ({ frames := 0, cells := 0, slots := 0, locals := 0 } : Room)) (fun a U => a = #[(.ref a1), (.int p2), (.ref a3)] ∧ Z.Warmed39 U.vm ∧ U.heap = h0) (fun _ _ _ _ _ => True) (fun _ U o U' => ∃ v L, o = .returned v ∧ Q4w Z a1 p2 a3 bb bk ck x0 x1 x2 c0 c1 c2 h0 n0 v U'.heap L ∧ FrameEnd U o U' L ({ frames := 0, cells := 0, slots := 0, locals := 0 } : Room).cells ({ frames := 0, cells := 0, slots := 0, locals := 0 } : Room).slots) := by
  refine MetFree.of_bodySF (plainFor_of_name pn_com_example_plain_ranker_plainranker_data_BinArray) hisR ?_
  intro p e s m args below meth c s₁ Bd hml0 hP hK
  obtain ⟨rfl, hZ, hh⟩ := hP
  have hx := Bd.exec
  have hby := Bd.bytes
  have hml : c.maxLocals = 4 := hml0
  have hown : s.vm.findClass "com/example/plain_ranker/plainranker/data/BinArray" = some m.cls := findClass_of_methodNamed Bd.named
  have hnm := (name_of_methodNamed Bd.named Bd.method).1
  have X0 : Stand p l e ({ frames := 0, cells := 0, slots := 0, locals := 0 } : Room) s m #[(.ref a1), (.int p2), (.ref a3)] below meth c s₁ [] 0 0 := Stand.of_body Bd
  have e0 : s₁.heap = h0 := by rw [← hh, Bd.state]; rfl
  have N0 := Fr.nil n0
  have pre0 : ∀ t, Steps p.tables e below (s₁.setTop (mkF m 0 #[.val (.ref a1), .val (.int p2), .val (.ref a3), .unset] [])) t → Steps p.tables e below (s₁.setTop (entryFrame m #[(.ref a1), (.int p2), (.ref a3)] 4)) t := fun t k => castTop (ef_4w m a1 p2 a3) k
  obtain ⟨T101, X101, e101, st101⟩ := getF X0 hx hZ hown (host := "") (Or.inl (hw _ (List.mem_of_getElem? (i := 13) rfl))) Via.refl e0 H0 (g := (mkF m 1 #[.val (.ref a1), .val (.int p2), .val (.ref a3), .unset] [(.ref a1)])) rfl rfl (hb hby d4_1)
  have pre102 : ∀ t, Steps p.tables e below (T101.setTop (mkF m 47 #[.val (.ref a1), .val (.int p2), .val (.ref a3), .val (.int (0 : Int32))] [(.int p2), (.int (0 : Int32))])) t → Steps p.tables e below (s₁.setTop (entryFrame m #[(.ref a1), (.int p2), (.ref a3)] 4)) t := fun t kt => by
    refine pre0 t ?_
    show Steps p.tables e below (s₁.setTop (mkF m 0 #[.val (.ref a1), .val (.int p2), .val (.ref a3), .unset] [])) _
    refine XS.aloadN X0.here hx rfl (hb hby d4_0) rfl rfl ?_
    show Steps p.tables e below (s₁.setTop (mkF m 1 #[.val (.ref a1), .val (.int p2), .val (.ref a3), .unset] [(.ref a1)])) _
    refine st101 _ ?_
    show Steps p.tables e below (T101.setTop (mkF m 4 #[.val (.ref a1), .val (.int p2), .val (.ref a3), .unset] [.null])) _
    refine XS.ifnullYes X101.here hx rfl (pc0 := 4) (pc' := 43) rfl (hb hby d4_4) rfl (by decide) (by decide) ?_
    show Steps p.tables e below (T101.setTop (mkF m 43 #[.val (.ref a1), .val (.int p2), .val (.ref a3), .unset] [])) _
    refine XS.iconst X101.here hx rfl (hb hby d4_43) ?_
    show Steps p.tables e below (T101.setTop (mkF m 44 #[.val (.ref a1), .val (.int p2), .val (.ref a3), .unset] [(.int (0 : Int32))])) _
    refine XS.istoreN X101.here hx rfl (hb hby d4_44) rfl (l' := #[.val (.ref a1), .val (.int p2), .val (.ref a3), .val (.int (0 : Int32))]) rfl ?_
    show Steps p.tables e below (T101.setTop (mkF m 45 #[.val (.ref a1), .val (.int p2), .val (.ref a3), .val (.int (0 : Int32))] [])) _
    refine XS.iloadN X101.here hx rfl (hb hby d4_45) rfl ?_
    show Steps p.tables e below (T101.setTop (mkF m 46 #[.val (.ref a1), .val (.int p2), .val (.ref a3), .val (.int (0 : Int32))] [(.int (0 : Int32))])) _
    refine XS.iloadN X101.here hx rfl (hb hby d4_46) rfl ?_
    show Steps p.tables e below (T101.setTop (mkF m 47 #[.val (.ref a1), .val (.int p2), .val (.ref a3), .val (.int (0 : Int32))] [(.int p2), (.int (0 : Int32))])) _
    exact kt
  by_cases hc47_103 : (0 : Int32) < p2
  · skip
    obtain ⟨cl104, Ar104, qc104, S104, M104, Hh104, G104⟩ := id H3
    have hin104 : ¬ ((0 : Int32) < 0 ∨ cl104.slots.size ≤ ((0 : Int32)).toNatClampNeg) := inb_of S104 ⟨by decide, by decide⟩
    obtain ⟨T105, X105, e105, st105⟩ := getF X101 hx hZ hown (host := "") (Or.inl (hw _ (List.mem_of_getElem? (i := 17) rfl))) Via.refl e101 H1 (g := (mkF m 55 #[.val (.ref a1), .val (.int p2), .val (.ref a3), .val (.int (0 : Int32))] [(.ref a1), (.int c0), (.int (0 : Int32)), (.ref a3)])) rfl rfl (hb hby d4_55)
    obtain ⟨cl106, Ar106, qc106, S106, M106, Hh106, G106⟩ := id H2
    have hin106 : ¬ ((0 : Int32) < 0 ∨ cl106.slots.size ≤ ((0 : Int32)).toNatClampNeg) := inb_of S106 ⟨by decide, by decide⟩
    have pre107 : ∀ t, Steps p.tables e below (T105.setTop (mkF m 60 #[.val (.ref a1), .val (.int p2), .val (.ref a3), .val (.int (0 : Int32))] [(.int x0), (.int c0), (.int (0 : Int32)), (.ref a3)])) t → Steps p.tables e below (s₁.setTop (entryFrame m #[(.ref a1), (.int p2), (.ref a3)] 4)) t := fun t kt => by
      refine pre102 t ?_
      show Steps p.tables e below (T101.setTop (mkF m 47 #[.val (.ref a1), .val (.int p2), .val (.ref a3), .val (.int (0 : Int32))] [(.int p2), (.int (0 : Int32))])) _
      refine XS.icmpNo X101.here hx rfl (hb hby d4_47) rfl (tlt (hc47_103 : (0 : Int32) < p2)).2.1 ?_
      show Steps p.tables e below (T101.setTop (mkF m 50 #[.val (.ref a1), .val (.int p2), .val (.ref a3), .val (.int (0 : Int32))] [])) _
      refine XS.aloadN X101.here hx rfl (hb hby d4_50) rfl rfl ?_
      show Steps p.tables e below (T101.setTop (mkF m 51 #[.val (.ref a1), .val (.int p2), .val (.ref a3), .val (.int (0 : Int32))] [(.ref a3)])) _
      refine XS.iloadN X101.here hx rfl (hb hby d4_51) rfl ?_
      show Steps p.tables e below (T101.setTop (mkF m 52 #[.val (.ref a1), .val (.int p2), .val (.ref a3), .val (.int (0 : Int32))] [(.int (0 : Int32)), (.ref a3)])) _
      refine XT.dup2 X101.here hx rfl (hb hby d4_52) rfl rfl rfl ?_
      show Steps p.tables e below (T101.setTop (mkF m 53 #[.val (.ref a1), .val (.int p2), .val (.ref a3), .val (.int (0 : Int32))] [(.int (0 : Int32)), (.ref a3), (.int (0 : Int32)), (.ref a3)])) _
      refine X101.iaload hx (j := (0 : Int32)) (v := (.int c0)) (by rw [e101]; exact Ar104.1) (State.isArrayOf_alike hZ.alike Ar104.2.1) Ar104.2.2 hin104 (Hh104.at hin104 (rfl)) (g := (mkF m 53 #[.val (.ref a1), .val (.int p2), .val (.ref a3), .val (.int (0 : Int32))] [(.int (0 : Int32)), (.ref a3), (.int (0 : Int32)), (.ref a3)])) rfl rfl (hb hby d4_53) _ ?_
      show Steps p.tables e below (T101.setTop (mkF m 54 #[.val (.ref a1), .val (.int p2), .val (.ref a3), .val (.int (0 : Int32))] [(.int c0), (.int (0 : Int32)), (.ref a3)])) _
      refine XS.aloadN X101.here hx rfl (hb hby d4_54) rfl rfl ?_
      show Steps p.tables e below (T101.setTop (mkF m 55 #[.val (.ref a1), .val (.int p2), .val (.ref a3), .val (.int (0 : Int32))] [(.ref a1), (.int c0), (.int (0 : Int32)), (.ref a3)])) _
      refine st105 _ ?_
      show Steps p.tables e below (T105.setTop (mkF m 58 #[.val (.ref a1), .val (.int p2), .val (.ref a3), .val (.int (0 : Int32))] [(.ref bb), (.int c0), (.int (0 : Int32)), (.ref a3)])) _
      refine XS.iloadN X105.here hx rfl (hb hby d4_58) rfl ?_
      show Steps p.tables e below (T105.setTop (mkF m 59 #[.val (.ref a1), .val (.int p2), .val (.ref a3), .val (.int (0 : Int32))] [(.int (0 : Int32)), (.ref bb), (.int c0), (.int (0 : Int32)), (.ref a3)])) _
      refine X105.caload hx (j := (0 : Int32)) (v := (.int x0)) (by rw [e105]; exact Ar106.1) (State.isArrayOf_alike hZ.alike Ar106.2.1) Ar106.2.2 hin106 (Hh106.at hin106 (rfl)) (g := (mkF m 59 #[.val (.ref a1), .val (.int p2), .val (.ref a3), .val (.int (0 : Int32))] [(.int (0 : Int32)), (.ref bb), (.int c0), (.int (0 : Int32)), (.ref a3)])) rfl rfl (hb hby d4_59) _ ?_
      show Steps p.tables e below (T105.setTop (mkF m 60 #[.val (.ref a1), .val (.int p2), .val (.ref a3), .val (.int (0 : Int32))] [(.int x0), (.int c0), (.int (0 : Int32)), (.ref a3)])) _
      exact kt
    by_cases hc60_108 : x0 = (0 : Int32)
    · skip
      obtain ⟨cl109, Ar109, qc109, S109, M109, Hh109, G109⟩ := id H3
      have hin109 : ¬ ((0 : Int32) < 0 ∨ cl109.slots.size ≤ ((0 : Int32)).toNatClampNeg) := inb_of S109 ⟨by decide, by decide⟩
      obtain ⟨T109, h109, X109, e109, W109, st109⟩ := stI X105 hx hZ e105 Ar109 (j := (0 : Int32)) hin109 (g := (mkF m 69 #[.val (.ref a1), .val (.int p2), .val (.ref a3), .val (.int (0 : Int32))] [(.int (c0 + (0 : Int32))), (.int (0 : Int32)), (.ref a3)])) rfl rfl (hb hby d4_69)
      have V109 : Arv Z h109 a3 ck .int (3 : Int32) [(.int (c0 + (0 : Int32))), (.int c1), (.int c2)] (.int (0 : Int32)) := Arv.set Ar109 qc109 S109 M109 Hh109 G109 rfl W109 0 rfl (by first | decide | (simp; done))
      have N109 := Fr.snoc X109 N0 H4
      have pre110 : ∀ t, Steps p.tables e below (T109.setTop (mkF m 47 #[.val (.ref a1), .val (.int p2), .val (.ref a3), .val (.int (1 : Int32))] [(.int p2), (.int (1 : Int32))])) t → Steps p.tables e below (s₁.setTop (entryFrame m #[(.ref a1), (.int p2), (.ref a3)] 4)) t := fun t kt => by
        refine pre107 t ?_
        show Steps p.tables e below (T105.setTop (mkF m 60 #[.val (.ref a1), .val (.int p2), .val (.ref a3), .val (.int (0 : Int32))] [(.int x0), (.int c0), (.int (0 : Int32)), (.ref a3)])) _
        refine XS.ifYes X105.here hx rfl (pc0 := 60) (pc' := 67) rfl (hb hby d4_60) rfl ((if0 _ _).trans (teq (hc60_108 : x0 = (0 : Int32))).1) (by decide) (by decide) ?_
        show Steps p.tables e below (T105.setTop (mkF m 67 #[.val (.ref a1), .val (.int p2), .val (.ref a3), .val (.int (0 : Int32))] [(.int c0), (.int (0 : Int32)), (.ref a3)])) _
        refine XS.iconst X105.here hx rfl (hb hby d4_67) ?_
        show Steps p.tables e below (T105.setTop (mkF m 68 #[.val (.ref a1), .val (.int p2), .val (.ref a3), .val (.int (0 : Int32))] [(.int (0 : Int32)), (.int c0), (.int (0 : Int32)), (.ref a3)])) _
        refine XS.iadd X105.here hx rfl (hb hby d4_68) rfl ?_
        show Steps p.tables e below (T105.setTop (mkF m 69 #[.val (.ref a1), .val (.int p2), .val (.ref a3), .val (.int (0 : Int32))] [(.int (c0 + (0 : Int32))), (.int (0 : Int32)), (.ref a3)])) _
        refine st109 _ ?_
        show Steps p.tables e below (T109.setTop (mkF m 70 #[.val (.ref a1), .val (.int p2), .val (.ref a3), .val (.int (0 : Int32))] [])) _
        refine XS.iinc X109.here hx rfl (hb hby d4_70) rfl (l' := #[.val (.ref a1), .val (.int p2), .val (.ref a3), .val (.int ((0 : Int32) + (1 : Int32)))]) rfl ?_
        show Steps p.tables e below (T109.setTop (mkF m 73 #[.val (.ref a1), .val (.int p2), .val (.ref a3), .val (.int ((0 : Int32) + (1 : Int32)))] [])) _
        rw [show ((0 : Int32) + (1 : Int32)) = (1 : Int32) from by decide]
        show Steps p.tables e below (T109.setTop (mkF m 73 #[.val (.ref a1), .val (.int p2), .val (.ref a3), .val (.int (1 : Int32))] [])) _
        refine XS.goto X109.here hx rfl (pc0 := 73) (pc' := 45) rfl (hb hby d4_73) (by decide) (by decide) ?_
        show Steps p.tables e below (T109.setTop (mkF m 45 #[.val (.ref a1), .val (.int p2), .val (.ref a3), .val (.int (1 : Int32))] [])) _
        refine XS.iloadN X109.here hx rfl (hb hby d4_45) rfl ?_
        show Steps p.tables e below (T109.setTop (mkF m 46 #[.val (.ref a1), .val (.int p2), .val (.ref a3), .val (.int (1 : Int32))] [(.int (1 : Int32))])) _
        refine XS.iloadN X109.here hx rfl (hb hby d4_46) rfl ?_
        show Steps p.tables e below (T109.setTop (mkF m 47 #[.val (.ref a1), .val (.int p2), .val (.ref a3), .val (.int (1 : Int32))] [(.int p2), (.int (1 : Int32))])) _
        exact kt
      by_cases hc47_111 : (1 : Int32) < p2
      · skip
        obtain ⟨cl112, Ar112, qc112, S112, M112, Hh112, G112⟩ := id V109
        have hin112 : ¬ ((1 : Int32) < 0 ∨ cl112.slots.size ≤ ((1 : Int32)).toNatClampNeg) := inb_of S112 ⟨by decide, by decide⟩
        have ne113 : a1 ≠ a3 := Exa.neArv (H6.wr W109) V109 (hw _ (List.mem_of_getElem? (i := 5) rfl))
        have f114 : Fld Z h109 a1 "com/example/plain_ranker/plainranker/data/BinArray" "chars" "[C" (.ref bb) := (H1.other W109 (Or.inl ne113))
        obtain ⟨T115, X115, e115, st115⟩ := getF X109 hx hZ hown (host := "") (Or.inl (hw _ (List.mem_of_getElem? (i := 17) rfl))) Via.refl e109 f114 (g := (mkF m 55 #[.val (.ref a1), .val (.int p2), .val (.ref a3), .val (.int (1 : Int32))] [(.ref a1), (.int c1), (.int (1 : Int32)), (.ref a3)])) rfl rfl (hb hby d4_55)
        have f116 : Arv Z h109 bb bk .char (3 : Int32) [(.int x0), (.int x1), (.int x2)] (.int (0 : Int32)) := (H2.other W109 H5)
        obtain ⟨cl117, Ar117, qc117, S117, M117, Hh117, G117⟩ := id f116
        have hin117 : ¬ ((1 : Int32) < 0 ∨ cl117.slots.size ≤ ((1 : Int32)).toNatClampNeg) := inb_of S117 ⟨by decide, by decide⟩
        have pre118 : ∀ t, Steps p.tables e below (T115.setTop (mkF m 60 #[.val (.ref a1), .val (.int p2), .val (.ref a3), .val (.int (1 : Int32))] [(.int x1), (.int c1), (.int (1 : Int32)), (.ref a3)])) t → Steps p.tables e below (s₁.setTop (entryFrame m #[(.ref a1), (.int p2), (.ref a3)] 4)) t := fun t kt => by
          refine pre110 t ?_
          show Steps p.tables e below (T109.setTop (mkF m 47 #[.val (.ref a1), .val (.int p2), .val (.ref a3), .val (.int (1 : Int32))] [(.int p2), (.int (1 : Int32))])) _
          refine XS.icmpNo X109.here hx rfl (hb hby d4_47) rfl (tlt (hc47_111 : (1 : Int32) < p2)).2.1 ?_
          show Steps p.tables e below (T109.setTop (mkF m 50 #[.val (.ref a1), .val (.int p2), .val (.ref a3), .val (.int (1 : Int32))] [])) _
          refine XS.aloadN X109.here hx rfl (hb hby d4_50) rfl rfl ?_
          show Steps p.tables e below (T109.setTop (mkF m 51 #[.val (.ref a1), .val (.int p2), .val (.ref a3), .val (.int (1 : Int32))] [(.ref a3)])) _
          refine XS.iloadN X109.here hx rfl (hb hby d4_51) rfl ?_
          show Steps p.tables e below (T109.setTop (mkF m 52 #[.val (.ref a1), .val (.int p2), .val (.ref a3), .val (.int (1 : Int32))] [(.int (1 : Int32)), (.ref a3)])) _
          refine XT.dup2 X109.here hx rfl (hb hby d4_52) rfl rfl rfl ?_
          show Steps p.tables e below (T109.setTop (mkF m 53 #[.val (.ref a1), .val (.int p2), .val (.ref a3), .val (.int (1 : Int32))] [(.int (1 : Int32)), (.ref a3), (.int (1 : Int32)), (.ref a3)])) _
          refine X109.iaload hx (j := (1 : Int32)) (v := (.int c1)) (by rw [e109]; exact Ar112.1) (State.isArrayOf_alike hZ.alike Ar112.2.1) Ar112.2.2 hin112 (Hh112.at hin112 (rfl)) (g := (mkF m 53 #[.val (.ref a1), .val (.int p2), .val (.ref a3), .val (.int (1 : Int32))] [(.int (1 : Int32)), (.ref a3), (.int (1 : Int32)), (.ref a3)])) rfl rfl (hb hby d4_53) _ ?_
          show Steps p.tables e below (T109.setTop (mkF m 54 #[.val (.ref a1), .val (.int p2), .val (.ref a3), .val (.int (1 : Int32))] [(.int c1), (.int (1 : Int32)), (.ref a3)])) _
          refine XS.aloadN X109.here hx rfl (hb hby d4_54) rfl rfl ?_
          show Steps p.tables e below (T109.setTop (mkF m 55 #[.val (.ref a1), .val (.int p2), .val (.ref a3), .val (.int (1 : Int32))] [(.ref a1), (.int c1), (.int (1 : Int32)), (.ref a3)])) _
          refine st115 _ ?_
          show Steps p.tables e below (T115.setTop (mkF m 58 #[.val (.ref a1), .val (.int p2), .val (.ref a3), .val (.int (1 : Int32))] [(.ref bb), (.int c1), (.int (1 : Int32)), (.ref a3)])) _
          refine XS.iloadN X115.here hx rfl (hb hby d4_58) rfl ?_
          show Steps p.tables e below (T115.setTop (mkF m 59 #[.val (.ref a1), .val (.int p2), .val (.ref a3), .val (.int (1 : Int32))] [(.int (1 : Int32)), (.ref bb), (.int c1), (.int (1 : Int32)), (.ref a3)])) _
          refine X115.caload hx (j := (1 : Int32)) (v := (.int x1)) (by rw [e115]; exact Ar117.1) (State.isArrayOf_alike hZ.alike Ar117.2.1) Ar117.2.2 hin117 (Hh117.at hin117 (rfl)) (g := (mkF m 59 #[.val (.ref a1), .val (.int p2), .val (.ref a3), .val (.int (1 : Int32))] [(.int (1 : Int32)), (.ref bb), (.int c1), (.int (1 : Int32)), (.ref a3)])) rfl rfl (hb hby d4_59) _ ?_
          show Steps p.tables e below (T115.setTop (mkF m 60 #[.val (.ref a1), .val (.int p2), .val (.ref a3), .val (.int (1 : Int32))] [(.int x1), (.int c1), (.int (1 : Int32)), (.ref a3)])) _
          exact kt
        by_cases hc60_119 : x1 = (0 : Int32)
        · skip
          obtain ⟨cl120, Ar120, qc120, S120, M120, Hh120, G120⟩ := id V109
          have hin120 : ¬ ((1 : Int32) < 0 ∨ cl120.slots.size ≤ ((1 : Int32)).toNatClampNeg) := inb_of S120 ⟨by decide, by decide⟩
          obtain ⟨T120, h120, X120, e120, W120, st120⟩ := stI X115 hx hZ e115 Ar120 (j := (1 : Int32)) hin120 (g := (mkF m 69 #[.val (.ref a1), .val (.int p2), .val (.ref a3), .val (.int (1 : Int32))] [(.int (c1 + (0 : Int32))), (.int (1 : Int32)), (.ref a3)])) rfl rfl (hb hby d4_69)
          have V120 : Arv Z h120 a3 ck .int (3 : Int32) [(.int (c0 + (0 : Int32))), (.int (c1 + (0 : Int32))), (.int c2)] (.int (0 : Int32)) := Arv.set Ar120 qc120 S120 M120 Hh120 G120 rfl W120 1 rfl (by first | decide | (simp; done))
          have N120 := Fr.snoc X120 N109 H4
          have pre121 : ∀ t, Steps p.tables e below (T120.setTop (mkF m 47 #[.val (.ref a1), .val (.int p2), .val (.ref a3), .val (.int (2 : Int32))] [(.int p2), (.int (2 : Int32))])) t → Steps p.tables e below (s₁.setTop (entryFrame m #[(.ref a1), (.int p2), (.ref a3)] 4)) t := fun t kt => by
            refine pre118 t ?_
            show Steps p.tables e below (T115.setTop (mkF m 60 #[.val (.ref a1), .val (.int p2), .val (.ref a3), .val (.int (1 : Int32))] [(.int x1), (.int c1), (.int (1 : Int32)), (.ref a3)])) _
            refine XS.ifYes X115.here hx rfl (pc0 := 60) (pc' := 67) rfl (hb hby d4_60) rfl ((if0 _ _).trans (teq (hc60_119 : x1 = (0 : Int32))).1) (by decide) (by decide) ?_
            show Steps p.tables e below (T115.setTop (mkF m 67 #[.val (.ref a1), .val (.int p2), .val (.ref a3), .val (.int (1 : Int32))] [(.int c1), (.int (1 : Int32)), (.ref a3)])) _
            refine XS.iconst X115.here hx rfl (hb hby d4_67) ?_
            show Steps p.tables e below (T115.setTop (mkF m 68 #[.val (.ref a1), .val (.int p2), .val (.ref a3), .val (.int (1 : Int32))] [(.int (0 : Int32)), (.int c1), (.int (1 : Int32)), (.ref a3)])) _
            refine XS.iadd X115.here hx rfl (hb hby d4_68) rfl ?_
            show Steps p.tables e below (T115.setTop (mkF m 69 #[.val (.ref a1), .val (.int p2), .val (.ref a3), .val (.int (1 : Int32))] [(.int (c1 + (0 : Int32))), (.int (1 : Int32)), (.ref a3)])) _
            refine st120 _ ?_
            show Steps p.tables e below (T120.setTop (mkF m 70 #[.val (.ref a1), .val (.int p2), .val (.ref a3), .val (.int (1 : Int32))] [])) _
            refine XS.iinc X120.here hx rfl (hb hby d4_70) rfl (l' := #[.val (.ref a1), .val (.int p2), .val (.ref a3), .val (.int ((1 : Int32) + (1 : Int32)))]) rfl ?_
            show Steps p.tables e below (T120.setTop (mkF m 73 #[.val (.ref a1), .val (.int p2), .val (.ref a3), .val (.int ((1 : Int32) + (1 : Int32)))] [])) _
            rw [show ((1 : Int32) + (1 : Int32)) = (2 : Int32) from by decide]
            show Steps p.tables e below (T120.setTop (mkF m 73 #[.val (.ref a1), .val (.int p2), .val (.ref a3), .val (.int (2 : Int32))] [])) _
            refine XS.goto X120.here hx rfl (pc0 := 73) (pc' := 45) rfl (hb hby d4_73) (by decide) (by decide) ?_
            show Steps p.tables e below (T120.setTop (mkF m 45 #[.val (.ref a1), .val (.int p2), .val (.ref a3), .val (.int (2 : Int32))] [])) _
            refine XS.iloadN X120.here hx rfl (hb hby d4_45) rfl ?_
            show Steps p.tables e below (T120.setTop (mkF m 46 #[.val (.ref a1), .val (.int p2), .val (.ref a3), .val (.int (2 : Int32))] [(.int (2 : Int32))])) _
            refine XS.iloadN X120.here hx rfl (hb hby d4_46) rfl ?_
            show Steps p.tables e below (T120.setTop (mkF m 47 #[.val (.ref a1), .val (.int p2), .val (.ref a3), .val (.int (2 : Int32))] [(.int p2), (.int (2 : Int32))])) _
            exact kt
          by_cases hc47_122 : (2 : Int32) < p2
          · skip
            obtain ⟨cl123, Ar123, qc123, S123, M123, Hh123, G123⟩ := id V120
            have hin123 : ¬ ((2 : Int32) < 0 ∨ cl123.slots.size ≤ ((2 : Int32)).toNatClampNeg) := inb_of S123 ⟨by decide, by decide⟩
            have f124 : Fld Z h120 a1 "com/example/plain_ranker/plainranker/data/BinArray" "chars" "[C" (.ref bb) := (f114.other W120 (Or.inl ne113))
            obtain ⟨T125, X125, e125, st125⟩ := getF X120 hx hZ hown (host := "") (Or.inl (hw _ (List.mem_of_getElem? (i := 17) rfl))) Via.refl e120 f124 (g := (mkF m 55 #[.val (.ref a1), .val (.int p2), .val (.ref a3), .val (.int (2 : Int32))] [(.ref a1), (.int c2), (.int (2 : Int32)), (.ref a3)])) rfl rfl (hb hby d4_55)
            have f126 : Arv Z h120 bb bk .char (3 : Int32) [(.int x0), (.int x1), (.int x2)] (.int (0 : Int32)) := (f116.other W120 H5)
            obtain ⟨cl127, Ar127, qc127, S127, M127, Hh127, G127⟩ := id f126
            have hin127 : ¬ ((2 : Int32) < 0 ∨ cl127.slots.size ≤ ((2 : Int32)).toNatClampNeg) := inb_of S127 ⟨by decide, by decide⟩
            have pre128 : ∀ t, Steps p.tables e below (T125.setTop (mkF m 60 #[.val (.ref a1), .val (.int p2), .val (.ref a3), .val (.int (2 : Int32))] [(.int x2), (.int c2), (.int (2 : Int32)), (.ref a3)])) t → Steps p.tables e below (s₁.setTop (entryFrame m #[(.ref a1), (.int p2), (.ref a3)] 4)) t := fun t kt => by
              refine pre121 t ?_
              show Steps p.tables e below (T120.setTop (mkF m 47 #[.val (.ref a1), .val (.int p2), .val (.ref a3), .val (.int (2 : Int32))] [(.int p2), (.int (2 : Int32))])) _
              refine XS.icmpNo X120.here hx rfl (hb hby d4_47) rfl (tlt (hc47_122 : (2 : Int32) < p2)).2.1 ?_
              show Steps p.tables e below (T120.setTop (mkF m 50 #[.val (.ref a1), .val (.int p2), .val (.ref a3), .val (.int (2 : Int32))] [])) _
              refine XS.aloadN X120.here hx rfl (hb hby d4_50) rfl rfl ?_
              show Steps p.tables e below (T120.setTop (mkF m 51 #[.val (.ref a1), .val (.int p2), .val (.ref a3), .val (.int (2 : Int32))] [(.ref a3)])) _
              refine XS.iloadN X120.here hx rfl (hb hby d4_51) rfl ?_
              show Steps p.tables e below (T120.setTop (mkF m 52 #[.val (.ref a1), .val (.int p2), .val (.ref a3), .val (.int (2 : Int32))] [(.int (2 : Int32)), (.ref a3)])) _
              refine XT.dup2 X120.here hx rfl (hb hby d4_52) rfl rfl rfl ?_
              show Steps p.tables e below (T120.setTop (mkF m 53 #[.val (.ref a1), .val (.int p2), .val (.ref a3), .val (.int (2 : Int32))] [(.int (2 : Int32)), (.ref a3), (.int (2 : Int32)), (.ref a3)])) _
              refine X120.iaload hx (j := (2 : Int32)) (v := (.int c2)) (by rw [e120]; exact Ar123.1) (State.isArrayOf_alike hZ.alike Ar123.2.1) Ar123.2.2 hin123 (Hh123.at hin123 (rfl)) (g := (mkF m 53 #[.val (.ref a1), .val (.int p2), .val (.ref a3), .val (.int (2 : Int32))] [(.int (2 : Int32)), (.ref a3), (.int (2 : Int32)), (.ref a3)])) rfl rfl (hb hby d4_53) _ ?_
              show Steps p.tables e below (T120.setTop (mkF m 54 #[.val (.ref a1), .val (.int p2), .val (.ref a3), .val (.int (2 : Int32))] [(.int c2), (.int (2 : Int32)), (.ref a3)])) _
              refine XS.aloadN X120.here hx rfl (hb hby d4_54) rfl rfl ?_
              show Steps p.tables e below (T120.setTop (mkF m 55 #[.val (.ref a1), .val (.int p2), .val (.ref a3), .val (.int (2 : Int32))] [(.ref a1), (.int c2), (.int (2 : Int32)), (.ref a3)])) _
              refine st125 _ ?_
              show Steps p.tables e below (T125.setTop (mkF m 58 #[.val (.ref a1), .val (.int p2), .val (.ref a3), .val (.int (2 : Int32))] [(.ref bb), (.int c2), (.int (2 : Int32)), (.ref a3)])) _
              refine XS.iloadN X125.here hx rfl (hb hby d4_58) rfl ?_
              show Steps p.tables e below (T125.setTop (mkF m 59 #[.val (.ref a1), .val (.int p2), .val (.ref a3), .val (.int (2 : Int32))] [(.int (2 : Int32)), (.ref bb), (.int c2), (.int (2 : Int32)), (.ref a3)])) _
              refine X125.caload hx (j := (2 : Int32)) (v := (.int x2)) (by rw [e125]; exact Ar127.1) (State.isArrayOf_alike hZ.alike Ar127.2.1) Ar127.2.2 hin127 (Hh127.at hin127 (rfl)) (g := (mkF m 59 #[.val (.ref a1), .val (.int p2), .val (.ref a3), .val (.int (2 : Int32))] [(.int (2 : Int32)), (.ref bb), (.int c2), (.int (2 : Int32)), (.ref a3)])) rfl rfl (hb hby d4_59) _ ?_
              show Steps p.tables e below (T125.setTop (mkF m 60 #[.val (.ref a1), .val (.int p2), .val (.ref a3), .val (.int (2 : Int32))] [(.int x2), (.int c2), (.int (2 : Int32)), (.ref a3)])) _
              exact kt
            by_cases hc60_129 : x2 = (0 : Int32)
            · skip
              obtain ⟨cl130, Ar130, qc130, S130, M130, Hh130, G130⟩ := id V120
              have hin130 : ¬ ((2 : Int32) < 0 ∨ cl130.slots.size ≤ ((2 : Int32)).toNatClampNeg) := inb_of S130 ⟨by decide, by decide⟩
              obtain ⟨T130, h130, X130, e130, W130, st130⟩ := stI X125 hx hZ e125 Ar130 (j := (2 : Int32)) hin130 (g := (mkF m 69 #[.val (.ref a1), .val (.int p2), .val (.ref a3), .val (.int (2 : Int32))] [(.int (c2 + (0 : Int32))), (.int (2 : Int32)), (.ref a3)])) rfl rfl (hb hby d4_69)
              have V130 : Arv Z h130 a3 ck .int (3 : Int32) [(.int (c0 + (0 : Int32))), (.int (c1 + (0 : Int32))), (.int (c2 + (0 : Int32)))] (.int (0 : Int32)) := Arv.set Ar130 qc130 S130 M130 Hh130 G130 rfl W130 2 rfl (by first | decide | (simp; done))
              have N130 := Fr.snoc X130 N120 H4
              obtain ⟨fs, hr, hrun, hended, hW, hsame⟩ := X130.leave (v := none) (fun _ => rfl)
              refine ⟨_, _, pre128 _ ?_, hrun, hended, _, _, rfl, ?_, ⟨_, rfl⟩, hW, hsame.mono (by decide) (by decide)⟩
              · skip
                show Steps p.tables e below (T125.setTop (mkF m 60 #[.val (.ref a1), .val (.int p2), .val (.ref a3), .val (.int (2 : Int32))] [(.int x2), (.int c2), (.int (2 : Int32)), (.ref a3)])) _
                refine XS.ifYes X125.here hx rfl (pc0 := 60) (pc' := 67) rfl (hb hby d4_60) rfl ((if0 _ _).trans (teq (hc60_129 : x2 = (0 : Int32))).1) (by decide) (by decide) ?_
                show Steps p.tables e below (T125.setTop (mkF m 67 #[.val (.ref a1), .val (.int p2), .val (.ref a3), .val (.int (2 : Int32))] [(.int c2), (.int (2 : Int32)), (.ref a3)])) _
                refine XS.iconst X125.here hx rfl (hb hby d4_67) ?_
                show Steps p.tables e below (T125.setTop (mkF m 68 #[.val (.ref a1), .val (.int p2), .val (.ref a3), .val (.int (2 : Int32))] [(.int (0 : Int32)), (.int c2), (.int (2 : Int32)), (.ref a3)])) _
                refine XS.iadd X125.here hx rfl (hb hby d4_68) rfl ?_
                show Steps p.tables e below (T125.setTop (mkF m 69 #[.val (.ref a1), .val (.int p2), .val (.ref a3), .val (.int (2 : Int32))] [(.int (c2 + (0 : Int32))), (.int (2 : Int32)), (.ref a3)])) _
                refine st130 _ ?_
                show Steps p.tables e below (T130.setTop (mkF m 70 #[.val (.ref a1), .val (.int p2), .val (.ref a3), .val (.int (2 : Int32))] [])) _
                refine XS.iinc X130.here hx rfl (hb hby d4_70) rfl (l' := #[.val (.ref a1), .val (.int p2), .val (.ref a3), .val (.int ((2 : Int32) + (1 : Int32)))]) rfl ?_
                show Steps p.tables e below (T130.setTop (mkF m 73 #[.val (.ref a1), .val (.int p2), .val (.ref a3), .val (.int ((2 : Int32) + (1 : Int32)))] [])) _
                rw [show ((2 : Int32) + (1 : Int32)) = (3 : Int32) from by decide]
                show Steps p.tables e below (T130.setTop (mkF m 73 #[.val (.ref a1), .val (.int p2), .val (.ref a3), .val (.int (3 : Int32))] [])) _
                refine XS.goto X130.here hx rfl (pc0 := 73) (pc' := 45) rfl (hb hby d4_73) (by decide) (by decide) ?_
                show Steps p.tables e below (T130.setTop (mkF m 45 #[.val (.ref a1), .val (.int p2), .val (.ref a3), .val (.int (3 : Int32))] [])) _
                refine XS.iloadN X130.here hx rfl (hb hby d4_45) rfl ?_
                show Steps p.tables e below (T130.setTop (mkF m 46 #[.val (.ref a1), .val (.int p2), .val (.ref a3), .val (.int (3 : Int32))] [(.int (3 : Int32))])) _
                refine XS.iloadN X130.here hx rfl (hb hby d4_46) rfl ?_
                show Steps p.tables e below (T130.setTop (mkF m 47 #[.val (.ref a1), .val (.int p2), .val (.ref a3), .val (.int (3 : Int32))] [(.int p2), (.int (3 : Int32))])) _
                refine XS.icmpYes X130.here hx rfl (pc0 := 47) (pc' := 76) rfl (hb hby d4_47) rfl (flt (H7 : ¬ ((3 : Int32) < p2))).2.1 (by decide) (by decide) ?_
                show Steps p.tables e below (T130.setTop (mkF m 76 #[.val (.ref a1), .val (.int p2), .val (.ref a3), .val (.int (3 : Int32))] [])) _
                exact X130.returnOut hx Bd.returns (hb hby d4_76) hr
              · show Q4w Z a1 p2 a3 bb bk ck x0 x1 x2 c0 c1 c2 h0 n0 _ T130.heap _
                rw [e130]
                exact ⟨rfl, N130, ((((Keep.refl h0 [a3]).wr W109 (Or.inl (List.mem_of_getElem? (i := 0) rfl))).wr W120 (Or.inl (List.mem_of_getElem? (i := 0) rfl))).wr W130 (Or.inl (List.mem_of_getElem? (i := 0) rfl))), (by simpa only [own_e, eq_true hc47_103, eq_true hc60_108, eq_true hc47_111, eq_true hc60_119, eq_true hc47_122, eq_true hc60_129, if_true, if_false] using V130)⟩
            · skip
              obtain ⟨cl131, Ar131, qc131, S131, M131, Hh131, G131⟩ := id V120
              have hin131 : ¬ ((2 : Int32) < 0 ∨ cl131.slots.size ≤ ((2 : Int32)).toNatClampNeg) := inb_of S131 ⟨by decide, by decide⟩
              obtain ⟨T131, h131, X131, e131, W131, st131⟩ := stI X125 hx hZ e125 Ar131 (j := (2 : Int32)) hin131 (g := (mkF m 69 #[.val (.ref a1), .val (.int p2), .val (.ref a3), .val (.int (2 : Int32))] [(.int (c2 + (1 : Int32))), (.int (2 : Int32)), (.ref a3)])) rfl rfl (hb hby d4_69)
              have V131 : Arv Z h131 a3 ck .int (3 : Int32) [(.int (c0 + (0 : Int32))), (.int (c1 + (0 : Int32))), (.int (c2 + (1 : Int32)))] (.int (0 : Int32)) := Arv.set Ar131 qc131 S131 M131 Hh131 G131 rfl W131 2 rfl (by first | decide | (simp; done))
              have N131 := Fr.snoc X131 N120 H4
              obtain ⟨fs, hr, hrun, hended, hW, hsame⟩ := X131.leave (v := none) (fun _ => rfl)
              refine ⟨_, _, pre128 _ ?_, hrun, hended, _, _, rfl, ?_, ⟨_, rfl⟩, hW, hsame.mono (by decide) (by decide)⟩
              · skip
                show Steps p.tables e below (T125.setTop (mkF m 60 #[.val (.ref a1), .val (.int p2), .val (.ref a3), .val (.int (2 : Int32))] [(.int x2), (.int c2), (.int (2 : Int32)), (.ref a3)])) _
                refine XS.ifNo X125.here hx rfl (hb hby d4_60) rfl ((if0 _ _).trans (feq (hc60_129 : ¬ (x2 = (0 : Int32)))).1) ?_
                show Steps p.tables e below (T125.setTop (mkF m 63 #[.val (.ref a1), .val (.int p2), .val (.ref a3), .val (.int (2 : Int32))] [(.int c2), (.int (2 : Int32)), (.ref a3)])) _
                refine XS.iconst X125.here hx rfl (hb hby d4_63) ?_
                show Steps p.tables e below (T125.setTop (mkF m 64 #[.val (.ref a1), .val (.int p2), .val (.ref a3), .val (.int (2 : Int32))] [(.int (1 : Int32)), (.int c2), (.int (2 : Int32)), (.ref a3)])) _
                refine XS.goto X125.here hx rfl (pc0 := 64) (pc' := 68) rfl (hb hby d4_64) (by decide) (by decide) ?_
                show Steps p.tables e below (T125.setTop (mkF m 68 #[.val (.ref a1), .val (.int p2), .val (.ref a3), .val (.int (2 : Int32))] [(.int (1 : Int32)), (.int c2), (.int (2 : Int32)), (.ref a3)])) _
                refine XS.iadd X125.here hx rfl (hb hby d4_68) rfl ?_
                show Steps p.tables e below (T125.setTop (mkF m 69 #[.val (.ref a1), .val (.int p2), .val (.ref a3), .val (.int (2 : Int32))] [(.int (c2 + (1 : Int32))), (.int (2 : Int32)), (.ref a3)])) _
                refine st131 _ ?_
                show Steps p.tables e below (T131.setTop (mkF m 70 #[.val (.ref a1), .val (.int p2), .val (.ref a3), .val (.int (2 : Int32))] [])) _
                refine XS.iinc X131.here hx rfl (hb hby d4_70) rfl (l' := #[.val (.ref a1), .val (.int p2), .val (.ref a3), .val (.int ((2 : Int32) + (1 : Int32)))]) rfl ?_
                show Steps p.tables e below (T131.setTop (mkF m 73 #[.val (.ref a1), .val (.int p2), .val (.ref a3), .val (.int ((2 : Int32) + (1 : Int32)))] [])) _
                rw [show ((2 : Int32) + (1 : Int32)) = (3 : Int32) from by decide]
                show Steps p.tables e below (T131.setTop (mkF m 73 #[.val (.ref a1), .val (.int p2), .val (.ref a3), .val (.int (3 : Int32))] [])) _
                refine XS.goto X131.here hx rfl (pc0 := 73) (pc' := 45) rfl (hb hby d4_73) (by decide) (by decide) ?_
                show Steps p.tables e below (T131.setTop (mkF m 45 #[.val (.ref a1), .val (.int p2), .val (.ref a3), .val (.int (3 : Int32))] [])) _
                refine XS.iloadN X131.here hx rfl (hb hby d4_45) rfl ?_
                show Steps p.tables e below (T131.setTop (mkF m 46 #[.val (.ref a1), .val (.int p2), .val (.ref a3), .val (.int (3 : Int32))] [(.int (3 : Int32))])) _
                refine XS.iloadN X131.here hx rfl (hb hby d4_46) rfl ?_
                show Steps p.tables e below (T131.setTop (mkF m 47 #[.val (.ref a1), .val (.int p2), .val (.ref a3), .val (.int (3 : Int32))] [(.int p2), (.int (3 : Int32))])) _
                refine XS.icmpYes X131.here hx rfl (pc0 := 47) (pc' := 76) rfl (hb hby d4_47) rfl (flt (H7 : ¬ ((3 : Int32) < p2))).2.1 (by decide) (by decide) ?_
                show Steps p.tables e below (T131.setTop (mkF m 76 #[.val (.ref a1), .val (.int p2), .val (.ref a3), .val (.int (3 : Int32))] [])) _
                exact X131.returnOut hx Bd.returns (hb hby d4_76) hr
              · show Q4w Z a1 p2 a3 bb bk ck x0 x1 x2 c0 c1 c2 h0 n0 _ T131.heap _
                rw [e131]
                exact ⟨rfl, N131, ((((Keep.refl h0 [a3]).wr W109 (Or.inl (List.mem_of_getElem? (i := 0) rfl))).wr W120 (Or.inl (List.mem_of_getElem? (i := 0) rfl))).wr W131 (Or.inl (List.mem_of_getElem? (i := 0) rfl))), (by simpa only [own_e, eq_true hc47_103, eq_true hc60_108, eq_true hc47_111, eq_true hc60_119, eq_true hc47_122, eq_false hc60_129, if_true, if_false] using V131)⟩
          · skip
            obtain ⟨fs, hr, hrun, hended, hW, hsame⟩ := X120.leave (v := none) (fun _ => rfl)
            refine ⟨_, _, pre121 _ ?_, hrun, hended, _, _, rfl, ?_, ⟨_, rfl⟩, hW, hsame.mono (by decide) (by decide)⟩
            · skip
              show Steps p.tables e below (T120.setTop (mkF m 47 #[.val (.ref a1), .val (.int p2), .val (.ref a3), .val (.int (2 : Int32))] [(.int p2), (.int (2 : Int32))])) _
              refine XS.icmpYes X120.here hx rfl (pc0 := 47) (pc' := 76) rfl (hb hby d4_47) rfl (flt (hc47_122 : ¬ ((2 : Int32) < p2))).2.1 (by decide) (by decide) ?_
              show Steps p.tables e below (T120.setTop (mkF m 76 #[.val (.ref a1), .val (.int p2), .val (.ref a3), .val (.int (2 : Int32))] [])) _
              exact X120.returnOut hx Bd.returns (hb hby d4_76) hr
            · show Q4w Z a1 p2 a3 bb bk ck x0 x1 x2 c0 c1 c2 h0 n0 _ T120.heap _
              rw [e120]
              exact ⟨rfl, N120, (((Keep.refl h0 [a3]).wr W109 (Or.inl (List.mem_of_getElem? (i := 0) rfl))).wr W120 (Or.inl (List.mem_of_getElem? (i := 0) rfl))), (by simpa only [own_e, eq_true hc47_103, eq_true hc60_108, eq_true hc47_111, eq_true hc60_119, eq_false hc47_122, if_true, if_false] using V120)⟩
        · skip
          obtain ⟨cl132, Ar132, qc132, S132, M132, Hh132, G132⟩ := id V109
          have hin132 : ¬ ((1 : Int32) < 0 ∨ cl132.slots.size ≤ ((1 : Int32)).toNatClampNeg) := inb_of S132 ⟨by decide, by decide⟩
          obtain ⟨T132, h132, X132, e132, W132, st132⟩ := stI X115 hx hZ e115 Ar132 (j := (1 : Int32)) hin132 (g := (mkF m 69 #[.val (.ref a1), .val (.int p2), .val (.ref a3), .val (.int (1 : Int32))] [(.int (c1 + (1 : Int32))), (.int (1 : Int32)), (.ref a3)])) rfl rfl (hb hby d4_69)
          have V132 : Arv Z h132 a3 ck .int (3 : Int32) [(.int (c0 + (0 : Int32))), (.int (c1 + (1 : Int32))), (.int c2)] (.int (0 : Int32)) := Arv.set Ar132 qc132 S132 M132 Hh132 G132 rfl W132 1 rfl (by first | decide | (simp; done))
          have N132 := Fr.snoc X132 N109 H4
          have pre133 : ∀ t, Steps p.tables e below (T132.setTop (mkF m 47 #[.val (.ref a1), .val (.int p2), .val (.ref a3), .val (.int (2 : Int32))] [(.int p2), (.int (2 : Int32))])) t → Steps p.tables e below (s₁.setTop (entryFrame m #[(.ref a1), (.int p2), (.ref a3)] 4)) t := fun t kt => by
            refine pre118 t ?_
            show Steps p.tables e below (T115.setTop (mkF m 60 #[.val (.ref a1), .val (.int p2), .val (.ref a3), .val (.int (1 : Int32))] [(.int x1), (.int c1), (.int (1 : Int32)), (.ref a3)])) _
            refine XS.ifNo X115.here hx rfl (hb hby d4_60) rfl ((if0 _ _).trans (feq (hc60_119 : ¬ (x1 = (0 : Int32)))).1) ?_
            show Steps p.tables e below (T115.setTop (mkF m 63 #[.val (.ref a1), .val (.int p2), .val (.ref a3), .val (.int (1 : Int32))] [(.int c1), (.int (1 : Int32)), (.ref a3)])) _
            refine XS.iconst X115.here hx rfl (hb hby d4_63) ?_
            show Steps p.tables e below (T115.setTop (mkF m 64 #[.val (.ref a1), .val (.int p2), .val (.ref a3), .val (.int (1 : Int32))] [(.int (1 : Int32)), (.int c1), (.int (1 : Int32)), (.ref a3)])) _
            refine XS.goto X115.here hx rfl (pc0 := 64) (pc' := 68) rfl (hb hby d4_64) (by decide) (by decide) ?_
            show Steps p.tables e below (T115.setTop (mkF m 68 #[.val (.ref a1), .val (.int p2), .val (.ref a3), .val (.int (1 : Int32))] [(.int (1 : Int32)), (.int c1), (.int (1 : Int32)), (.ref a3)])) _
            refine XS.iadd X115.here hx rfl (hb hby d4_68) rfl ?_
            show Steps p.tables e below (T115.setTop (mkF m 69 #[.val (.ref a1), .val (.int p2), .val (.ref a3), .val (.int (1 : Int32))] [(.int (c1 + (1 : Int32))), (.int (1 : Int32)), (.ref a3)])) _
            refine st132 _ ?_
            show Steps p.tables e below (T132.setTop (mkF m 70 #[.val (.ref a1), .val (.int p2), .val (.ref a3), .val (.int (1 : Int32))] [])) _
            refine XS.iinc X132.here hx rfl (hb hby d4_70) rfl (l' := #[.val (.ref a1), .val (.int p2), .val (.ref a3), .val (.int ((1 : Int32) + (1 : Int32)))]) rfl ?_
            show Steps p.tables e below (T132.setTop (mkF m 73 #[.val (.ref a1), .val (.int p2), .val (.ref a3), .val (.int ((1 : Int32) + (1 : Int32)))] [])) _
            rw [show ((1 : Int32) + (1 : Int32)) = (2 : Int32) from by decide]
            show Steps p.tables e below (T132.setTop (mkF m 73 #[.val (.ref a1), .val (.int p2), .val (.ref a3), .val (.int (2 : Int32))] [])) _
            refine XS.goto X132.here hx rfl (pc0 := 73) (pc' := 45) rfl (hb hby d4_73) (by decide) (by decide) ?_
            show Steps p.tables e below (T132.setTop (mkF m 45 #[.val (.ref a1), .val (.int p2), .val (.ref a3), .val (.int (2 : Int32))] [])) _
            refine XS.iloadN X132.here hx rfl (hb hby d4_45) rfl ?_
            show Steps p.tables e below (T132.setTop (mkF m 46 #[.val (.ref a1), .val (.int p2), .val (.ref a3), .val (.int (2 : Int32))] [(.int (2 : Int32))])) _
            refine XS.iloadN X132.here hx rfl (hb hby d4_46) rfl ?_
            show Steps p.tables e below (T132.setTop (mkF m 47 #[.val (.ref a1), .val (.int p2), .val (.ref a3), .val (.int (2 : Int32))] [(.int p2), (.int (2 : Int32))])) _
            exact kt
          by_cases hc47_134 : (2 : Int32) < p2
          · skip
            obtain ⟨cl135, Ar135, qc135, S135, M135, Hh135, G135⟩ := id V132
            have hin135 : ¬ ((2 : Int32) < 0 ∨ cl135.slots.size ≤ ((2 : Int32)).toNatClampNeg) := inb_of S135 ⟨by decide, by decide⟩
            have f136 : Fld Z h132 a1 "com/example/plain_ranker/plainranker/data/BinArray" "chars" "[C" (.ref bb) := (f114.other W132 (Or.inl ne113))
            obtain ⟨T137, X137, e137, st137⟩ := getF X132 hx hZ hown (host := "") (Or.inl (hw _ (List.mem_of_getElem? (i := 17) rfl))) Via.refl e132 f136 (g := (mkF m 55 #[.val (.ref a1), .val (.int p2), .val (.ref a3), .val (.int (2 : Int32))] [(.ref a1), (.int c2), (.int (2 : Int32)), (.ref a3)])) rfl rfl (hb hby d4_55)
            have f138 : Arv Z h132 bb bk .char (3 : Int32) [(.int x0), (.int x1), (.int x2)] (.int (0 : Int32)) := (f116.other W132 H5)
            obtain ⟨cl139, Ar139, qc139, S139, M139, Hh139, G139⟩ := id f138
            have hin139 : ¬ ((2 : Int32) < 0 ∨ cl139.slots.size ≤ ((2 : Int32)).toNatClampNeg) := inb_of S139 ⟨by decide, by decide⟩
            have pre140 : ∀ t, Steps p.tables e below (T137.setTop (mkF m 60 #[.val (.ref a1), .val (.int p2), .val (.ref a3), .val (.int (2 : Int32))] [(.int x2), (.int c2), (.int (2 : Int32)), (.ref a3)])) t → Steps p.tables e below (s₁.setTop (entryFrame m #[(.ref a1), (.int p2), (.ref a3)] 4)) t := fun t kt => by
              refine pre133 t ?_
              show Steps p.tables e below (T132.setTop (mkF m 47 #[.val (.ref a1), .val (.int p2), .val (.ref a3), .val (.int (2 : Int32))] [(.int p2), (.int (2 : Int32))])) _
              refine XS.icmpNo X132.here hx rfl (hb hby d4_47) rfl (tlt (hc47_134 : (2 : Int32) < p2)).2.1 ?_
              show Steps p.tables e below (T132.setTop (mkF m 50 #[.val (.ref a1), .val (.int p2), .val (.ref a3), .val (.int (2 : Int32))] [])) _
              refine XS.aloadN X132.here hx rfl (hb hby d4_50) rfl rfl ?_
              show Steps p.tables e below (T132.setTop (mkF m 51 #[.val (.ref a1), .val (.int p2), .val (.ref a3), .val (.int (2 : Int32))] [(.ref a3)])) _
              refine XS.iloadN X132.here hx rfl (hb hby d4_51) rfl ?_
              show Steps p.tables e below (T132.setTop (mkF m 52 #[.val (.ref a1), .val (.int p2), .val (.ref a3), .val (.int (2 : Int32))] [(.int (2 : Int32)), (.ref a3)])) _
              refine XT.dup2 X132.here hx rfl (hb hby d4_52) rfl rfl rfl ?_
              show Steps p.tables e below (T132.setTop (mkF m 53 #[.val (.ref a1), .val (.int p2), .val (.ref a3), .val (.int (2 : Int32))] [(.int (2 : Int32)), (.ref a3), (.int (2 : Int32)), (.ref a3)])) _
              refine X132.iaload hx (j := (2 : Int32)) (v := (.int c2)) (by rw [e132]; exact Ar135.1) (State.isArrayOf_alike hZ.alike Ar135.2.1) Ar135.2.2 hin135 (Hh135.at hin135 (rfl)) (g := (mkF m 53 #[.val (.ref a1), .val (.int p2), .val (.ref a3), .val (.int (2 : Int32))] [(.int (2 : Int32)), (.ref a3), (.int (2 : Int32)), (.ref a3)])) rfl rfl (hb hby d4_53) _ ?_
              show Steps p.tables e below (T132.setTop (mkF m 54 #[.val (.ref a1), .val (.int p2), .val (.ref a3), .val (.int (2 : Int32))] [(.int c2), (.int (2 : Int32)), (.ref a3)])) _
              refine XS.aloadN X132.here hx rfl (hb hby d4_54) rfl rfl ?_
              show Steps p.tables e below (T132.setTop (mkF m 55 #[.val (.ref a1), .val (.int p2), .val (.ref a3), .val (.int (2 : Int32))] [(.ref a1), (.int c2), (.int (2 : Int32)), (.ref a3)])) _
              refine st137 _ ?_
              show Steps p.tables e below (T137.setTop (mkF m 58 #[.val (.ref a1), .val (.int p2), .val (.ref a3), .val (.int (2 : Int32))] [(.ref bb), (.int c2), (.int (2 : Int32)), (.ref a3)])) _
              refine XS.iloadN X137.here hx rfl (hb hby d4_58) rfl ?_
              show Steps p.tables e below (T137.setTop (mkF m 59 #[.val (.ref a1), .val (.int p2), .val (.ref a3), .val (.int (2 : Int32))] [(.int (2 : Int32)), (.ref bb), (.int c2), (.int (2 : Int32)), (.ref a3)])) _
              refine X137.caload hx (j := (2 : Int32)) (v := (.int x2)) (by rw [e137]; exact Ar139.1) (State.isArrayOf_alike hZ.alike Ar139.2.1) Ar139.2.2 hin139 (Hh139.at hin139 (rfl)) (g := (mkF m 59 #[.val (.ref a1), .val (.int p2), .val (.ref a3), .val (.int (2 : Int32))] [(.int (2 : Int32)), (.ref bb), (.int c2), (.int (2 : Int32)), (.ref a3)])) rfl rfl (hb hby d4_59) _ ?_
              show Steps p.tables e below (T137.setTop (mkF m 60 #[.val (.ref a1), .val (.int p2), .val (.ref a3), .val (.int (2 : Int32))] [(.int x2), (.int c2), (.int (2 : Int32)), (.ref a3)])) _
              exact kt
            by_cases hc60_141 : x2 = (0 : Int32)
            · skip
              obtain ⟨cl142, Ar142, qc142, S142, M142, Hh142, G142⟩ := id V132
              have hin142 : ¬ ((2 : Int32) < 0 ∨ cl142.slots.size ≤ ((2 : Int32)).toNatClampNeg) := inb_of S142 ⟨by decide, by decide⟩
              obtain ⟨T142, h142, X142, e142, W142, st142⟩ := stI X137 hx hZ e137 Ar142 (j := (2 : Int32)) hin142 (g := (mkF m 69 #[.val (.ref a1), .val (.int p2), .val (.ref a3), .val (.int (2 : Int32))] [(.int (c2 + (0 : Int32))), (.int (2 : Int32)), (.ref a3)])) rfl rfl (hb hby d4_69)
              have V142 : Arv Z h142 a3 ck .int (3 : Int32) [(.int (c0 + (0 : Int32))), (.int (c1 + (1 : Int32))), (.int (c2 + (0 : Int32)))] (.int (0 : Int32)) := Arv.set Ar142 qc142 S142 M142 Hh142 G142 rfl W142 2 rfl (by first | decide | (simp; done))
              have N142 := Fr.snoc X142 N132 H4
              obtain ⟨fs, hr, hrun, hended, hW, hsame⟩ := X142.leave (v := none) (fun _ => rfl)
              refine ⟨_, _, pre140 _ ?_, hrun, hended, _, _, rfl, ?_, ⟨_, rfl⟩, hW, hsame.mono (by decide) (by decide)⟩
              · skip
                show Steps p.tables e below (T137.setTop (mkF m 60 #[.val (.ref a1), .val (.int p2), .val (.ref a3), .val (.int (2 : Int32))] [(.int x2), (.int c2), (.int (2 : Int32)), (.ref a3)])) _
                refine XS.ifYes X137.here hx rfl (pc0 := 60) (pc' := 67) rfl (hb hby d4_60) rfl ((if0 _ _).trans (teq (hc60_141 : x2 = (0 : Int32))).1) (by decide) (by decide) ?_
                show Steps p.tables e below (T137.setTop (mkF m 67 #[.val (.ref a1), .val (.int p2), .val (.ref a3), .val (.int (2 : Int32))] [(.int c2), (.int (2 : Int32)), (.ref a3)])) _
                refine XS.iconst X137.here hx rfl (hb hby d4_67) ?_
                show Steps p.tables e below (T137.setTop (mkF m 68 #[.val (.ref a1), .val (.int p2), .val (.ref a3), .val (.int (2 : Int32))] [(.int (0 : Int32)), (.int c2), (.int (2 : Int32)), (.ref a3)])) _
                refine XS.iadd X137.here hx rfl (hb hby d4_68) rfl ?_
                show Steps p.tables e below (T137.setTop (mkF m 69 #[.val (.ref a1), .val (.int p2), .val (.ref a3), .val (.int (2 : Int32))] [(.int (c2 + (0 : Int32))), (.int (2 : Int32)), (.ref a3)])) _
                refine st142 _ ?_
                show Steps p.tables e below (T142.setTop (mkF m 70 #[.val (.ref a1), .val (.int p2), .val (.ref a3), .val (.int (2 : Int32))] [])) _
                refine XS.iinc X142.here hx rfl (hb hby d4_70) rfl (l' := #[.val (.ref a1), .val (.int p2), .val (.ref a3), .val (.int ((2 : Int32) + (1 : Int32)))]) rfl ?_
                show Steps p.tables e below (T142.setTop (mkF m 73 #[.val (.ref a1), .val (.int p2), .val (.ref a3), .val (.int ((2 : Int32) + (1 : Int32)))] [])) _
                rw [show ((2 : Int32) + (1 : Int32)) = (3 : Int32) from by decide]
                show Steps p.tables e below (T142.setTop (mkF m 73 #[.val (.ref a1), .val (.int p2), .val (.ref a3), .val (.int (3 : Int32))] [])) _
                refine XS.goto X142.here hx rfl (pc0 := 73) (pc' := 45) rfl (hb hby d4_73) (by decide) (by decide) ?_
                show Steps p.tables e below (T142.setTop (mkF m 45 #[.val (.ref a1), .val (.int p2), .val (.ref a3), .val (.int (3 : Int32))] [])) _
                refine XS.iloadN X142.here hx rfl (hb hby d4_45) rfl ?_
                show Steps p.tables e below (T142.setTop (mkF m 46 #[.val (.ref a1), .val (.int p2), .val (.ref a3), .val (.int (3 : Int32))] [(.int (3 : Int32))])) _
                refine XS.iloadN X142.here hx rfl (hb hby d4_46) rfl ?_
                show Steps p.tables e below (T142.setTop (mkF m 47 #[.val (.ref a1), .val (.int p2), .val (.ref a3), .val (.int (3 : Int32))] [(.int p2), (.int (3 : Int32))])) _
                refine XS.icmpYes X142.here hx rfl (pc0 := 47) (pc' := 76) rfl (hb hby d4_47) rfl (flt (H7 : ¬ ((3 : Int32) < p2))).2.1 (by decide) (by decide) ?_
                show Steps p.tables e below (T142.setTop (mkF m 76 #[.val (.ref a1), .val (.int p2), .val (.ref a3), .val (.int (3 : Int32))] [])) _
                exact X142.returnOut hx Bd.returns (hb hby d4_76) hr
              · show Q4w Z a1 p2 a3 bb bk ck x0 x1 x2 c0 c1 c2 h0 n0 _ T142.heap _
                rw [e142]
                exact ⟨rfl, N142, ((((Keep.refl h0 [a3]).wr W109 (Or.inl (List.mem_of_getElem? (i := 0) rfl))).wr W132 (Or.inl (List.mem_of_getElem? (i := 0) rfl))).wr W142 (Or.inl (List.mem_of_getElem? (i := 0) rfl))), (by simpa only [own_e, eq_true hc47_103, eq_true hc60_108, eq_true hc47_111, eq_false hc60_119, eq_true hc47_134, eq_true hc60_141, if_true, if_false] using V142)⟩
            · skip
              obtain ⟨cl143, Ar143, qc143, S143, M143, Hh143, G143⟩ := id V132
              have hin143 : ¬ ((2 : Int32) < 0 ∨ cl143.slots.size ≤ ((2 : Int32)).toNatClampNeg) := inb_of S143 ⟨by decide, by decide⟩
              obtain ⟨T143, h143, X143, e143, W143, st143⟩ := stI X137 hx hZ e137 Ar143 (j := (2 : Int32)) hin143 (g := (mkF m 69 #[.val (.ref a1), .val (.int p2), .val (.ref a3), .val (.int (2 : Int32))] [(.int (c2 + (1 : Int32))), (.int (2 : Int32)), (.ref a3)])) rfl rfl (hb hby d4_69)
              have V143 : Arv Z h143 a3 ck .int (3 : Int32) [(.int (c0 + (0 : Int32))), (.int (c1 + (1 : Int32))), (.int (c2 + (1 : Int32)))] (.int (0 : Int32)) := Arv.set Ar143 qc143 S143 M143 Hh143 G143 rfl W143 2 rfl (by first | decide | (simp; done))
              have N143 := Fr.snoc X143 N132 H4
              obtain ⟨fs, hr, hrun, hended, hW, hsame⟩ := X143.leave (v := none) (fun _ => rfl)
              refine ⟨_, _, pre140 _ ?_, hrun, hended, _, _, rfl, ?_, ⟨_, rfl⟩, hW, hsame.mono (by decide) (by decide)⟩
              · skip
                show Steps p.tables e below (T137.setTop (mkF m 60 #[.val (.ref a1), .val (.int p2), .val (.ref a3), .val (.int (2 : Int32))] [(.int x2), (.int c2), (.int (2 : Int32)), (.ref a3)])) _
                refine XS.ifNo X137.here hx rfl (hb hby d4_60) rfl ((if0 _ _).trans (feq (hc60_141 : ¬ (x2 = (0 : Int32)))).1) ?_
                show Steps p.tables e below (T137.setTop (mkF m 63 #[.val (.ref a1), .val (.int p2), .val (.ref a3), .val (.int (2 : Int32))] [(.int c2), (.int (2 : Int32)), (.ref a3)])) _
                refine XS.iconst X137.here hx rfl (hb hby d4_63) ?_
                show Steps p.tables e below (T137.setTop (mkF m 64 #[.val (.ref a1), .val (.int p2), .val (.ref a3), .val (.int (2 : Int32))] [(.int (1 : Int32)), (.int c2), (.int (2 : Int32)), (.ref a3)])) _
                refine XS.goto X137.here hx rfl (pc0 := 64) (pc' := 68) rfl (hb hby d4_64) (by decide) (by decide) ?_
                show Steps p.tables e below (T137.setTop (mkF m 68 #[.val (.ref a1), .val (.int p2), .val (.ref a3), .val (.int (2 : Int32))] [(.int (1 : Int32)), (.int c2), (.int (2 : Int32)), (.ref a3)])) _
                refine XS.iadd X137.here hx rfl (hb hby d4_68) rfl ?_
                show Steps p.tables e below (T137.setTop (mkF m 69 #[.val (.ref a1), .val (.int p2), .val (.ref a3), .val (.int (2 : Int32))] [(.int (c2 + (1 : Int32))), (.int (2 : Int32)), (.ref a3)])) _
                refine st143 _ ?_
                show Steps p.tables e below (T143.setTop (mkF m 70 #[.val (.ref a1), .val (.int p2), .val (.ref a3), .val (.int (2 : Int32))] [])) _
                refine XS.iinc X143.here hx rfl (hb hby d4_70) rfl (l' := #[.val (.ref a1), .val (.int p2), .val (.ref a3), .val (.int ((2 : Int32) + (1 : Int32)))]) rfl ?_
                show Steps p.tables e below (T143.setTop (mkF m 73 #[.val (.ref a1), .val (.int p2), .val (.ref a3), .val (.int ((2 : Int32) + (1 : Int32)))] [])) _
                rw [show ((2 : Int32) + (1 : Int32)) = (3 : Int32) from by decide]
                show Steps p.tables e below (T143.setTop (mkF m 73 #[.val (.ref a1), .val (.int p2), .val (.ref a3), .val (.int (3 : Int32))] [])) _
                refine XS.goto X143.here hx rfl (pc0 := 73) (pc' := 45) rfl (hb hby d4_73) (by decide) (by decide) ?_
                show Steps p.tables e below (T143.setTop (mkF m 45 #[.val (.ref a1), .val (.int p2), .val (.ref a3), .val (.int (3 : Int32))] [])) _
                refine XS.iloadN X143.here hx rfl (hb hby d4_45) rfl ?_
                show Steps p.tables e below (T143.setTop (mkF m 46 #[.val (.ref a1), .val (.int p2), .val (.ref a3), .val (.int (3 : Int32))] [(.int (3 : Int32))])) _
                refine XS.iloadN X143.here hx rfl (hb hby d4_46) rfl ?_
                show Steps p.tables e below (T143.setTop (mkF m 47 #[.val (.ref a1), .val (.int p2), .val (.ref a3), .val (.int (3 : Int32))] [(.int p2), (.int (3 : Int32))])) _
                refine XS.icmpYes X143.here hx rfl (pc0 := 47) (pc' := 76) rfl (hb hby d4_47) rfl (flt (H7 : ¬ ((3 : Int32) < p2))).2.1 (by decide) (by decide) ?_
                show Steps p.tables e below (T143.setTop (mkF m 76 #[.val (.ref a1), .val (.int p2), .val (.ref a3), .val (.int (3 : Int32))] [])) _
                exact X143.returnOut hx Bd.returns (hb hby d4_76) hr
              · show Q4w Z a1 p2 a3 bb bk ck x0 x1 x2 c0 c1 c2 h0 n0 _ T143.heap _
                rw [e143]
                exact ⟨rfl, N143, ((((Keep.refl h0 [a3]).wr W109 (Or.inl (List.mem_of_getElem? (i := 0) rfl))).wr W132 (Or.inl (List.mem_of_getElem? (i := 0) rfl))).wr W143 (Or.inl (List.mem_of_getElem? (i := 0) rfl))), (by simpa only [own_e, eq_true hc47_103, eq_true hc60_108, eq_true hc47_111, eq_false hc60_119, eq_true hc47_134, eq_false hc60_141, if_true, if_false] using V143)⟩
          · skip
            obtain ⟨fs, hr, hrun, hended, hW, hsame⟩ := X132.leave (v := none) (fun _ => rfl)
            refine ⟨_, _, pre133 _ ?_, hrun, hended, _, _, rfl, ?_, ⟨_, rfl⟩, hW, hsame.mono (by decide) (by decide)⟩
            · skip
              show Steps p.tables e below (T132.setTop (mkF m 47 #[.val (.ref a1), .val (.int p2), .val (.ref a3), .val (.int (2 : Int32))] [(.int p2), (.int (2 : Int32))])) _
              refine XS.icmpYes X132.here hx rfl (pc0 := 47) (pc' := 76) rfl (hb hby d4_47) rfl (flt (hc47_134 : ¬ ((2 : Int32) < p2))).2.1 (by decide) (by decide) ?_
              show Steps p.tables e below (T132.setTop (mkF m 76 #[.val (.ref a1), .val (.int p2), .val (.ref a3), .val (.int (2 : Int32))] [])) _
              exact X132.returnOut hx Bd.returns (hb hby d4_76) hr
            · show Q4w Z a1 p2 a3 bb bk ck x0 x1 x2 c0 c1 c2 h0 n0 _ T132.heap _
              rw [e132]
              exact ⟨rfl, N132, (((Keep.refl h0 [a3]).wr W109 (Or.inl (List.mem_of_getElem? (i := 0) rfl))).wr W132 (Or.inl (List.mem_of_getElem? (i := 0) rfl))), (by simpa only [own_e, eq_true hc47_103, eq_true hc60_108, eq_true hc47_111, eq_false hc60_119, eq_false hc47_134, if_true, if_false] using V132)⟩
      · skip
        have hm2 : ¬ ((2 : Int32) < p2) := own_mono hc47_111 (by decide)
        obtain ⟨fs, hr, hrun, hended, hW, hsame⟩ := X109.leave (v := none) (fun _ => rfl)
        refine ⟨_, _, pre110 _ ?_, hrun, hended, _, _, rfl, ?_, ⟨_, rfl⟩, hW, hsame.mono (by decide) (by decide)⟩
        · skip
          show Steps p.tables e below (T109.setTop (mkF m 47 #[.val (.ref a1), .val (.int p2), .val (.ref a3), .val (.int (1 : Int32))] [(.int p2), (.int (1 : Int32))])) _
          refine XS.icmpYes X109.here hx rfl (pc0 := 47) (pc' := 76) rfl (hb hby d4_47) rfl (flt (hc47_111 : ¬ ((1 : Int32) < p2))).2.1 (by decide) (by decide) ?_
          show Steps p.tables e below (T109.setTop (mkF m 76 #[.val (.ref a1), .val (.int p2), .val (.ref a3), .val (.int (1 : Int32))] [])) _
          exact X109.returnOut hx Bd.returns (hb hby d4_76) hr
        · show Q4w Z a1 p2 a3 bb bk ck x0 x1 x2 c0 c1 c2 h0 n0 _ T109.heap _
          rw [e109]
          exact ⟨rfl, N109, ((Keep.refl h0 [a3]).wr W109 (Or.inl (List.mem_of_getElem? (i := 0) rfl))), (by simpa only [own_e, eq_true hc47_103, eq_true hc60_108, eq_false hc47_111, eq_false hm2, if_true, if_false] using V109)⟩
    · skip
      obtain ⟨cl144, Ar144, qc144, S144, M144, Hh144, G144⟩ := id H3
      have hin144 : ¬ ((0 : Int32) < 0 ∨ cl144.slots.size ≤ ((0 : Int32)).toNatClampNeg) := inb_of S144 ⟨by decide, by decide⟩
      obtain ⟨T144, h144, X144, e144, W144, st144⟩ := stI X105 hx hZ e105 Ar144 (j := (0 : Int32)) hin144 (g := (mkF m 69 #[.val (.ref a1), .val (.int p2), .val (.ref a3), .val (.int (0 : Int32))] [(.int (c0 + (1 : Int32))), (.int (0 : Int32)), (.ref a3)])) rfl rfl (hb hby d4_69)
      have V144 : Arv Z h144 a3 ck .int (3 : Int32) [(.int (c0 + (1 : Int32))), (.int c1), (.int c2)] (.int (0 : Int32)) := Arv.set Ar144 qc144 S144 M144 Hh144 G144 rfl W144 0 rfl (by first | decide | (simp; done))
      have N144 := Fr.snoc X144 N0 H4
      have pre145 : ∀ t, Steps p.tables e below (T144.setTop (mkF m 47 #[.val (.ref a1), .val (.int p2), .val (.ref a3), .val (.int (1 : Int32))] [(.int p2), (.int (1 : Int32))])) t → Steps p.tables e below (s₁.setTop (entryFrame m #[(.ref a1), (.int p2), (.ref a3)] 4)) t := fun t kt => by
        refine pre107 t ?_
        show Steps p.tables e below (T105.setTop (mkF m 60 #[.val (.ref a1), .val (.int p2), .val (.ref a3), .val (.int (0 : Int32))] [(.int x0), (.int c0), (.int (0 : Int32)), (.ref a3)])) _
        refine XS.ifNo X105.here hx rfl (hb hby d4_60) rfl ((if0 _ _).trans (feq (hc60_108 : ¬ (x0 = (0 : Int32)))).1) ?_
        show Steps p.tables e below (T105.setTop (mkF m 63 #[.val (.ref a1), .val (.int p2), .val (.ref a3), .val (.int (0 : Int32))] [(.int c0), (.int (0 : Int32)), (.ref a3)])) _
        refine XS.iconst X105.here hx rfl (hb hby d4_63) ?_
        show Steps p.tables e below (T105.setTop (mkF m 64 #[.val (.ref a1), .val (.int p2), .val (.ref a3), .val (.int (0 : Int32))] [(.int (1 : Int32)), (.int c0), (.int (0 : Int32)), (.ref a3)])) _
        refine XS.goto X105.here hx rfl (pc0 := 64) (pc' := 68) rfl (hb hby d4_64) (by decide) (by decide) ?_
        show Steps p.tables e below (T105.setTop (mkF m 68 #[.val (.ref a1), .val (.int p2), .val (.ref a3), .val (.int (0 : Int32))] [(.int (1 : Int32)), (.int c0), (.int (0 : Int32)), (.ref a3)])) _
        refine XS.iadd X105.here hx rfl (hb hby d4_68) rfl ?_
        show Steps p.tables e below (T105.setTop (mkF m 69 #[.val (.ref a1), .val (.int p2), .val (.ref a3), .val (.int (0 : Int32))] [(.int (c0 + (1 : Int32))), (.int (0 : Int32)), (.ref a3)])) _
        refine st144 _ ?_
        show Steps p.tables e below (T144.setTop (mkF m 70 #[.val (.ref a1), .val (.int p2), .val (.ref a3), .val (.int (0 : Int32))] [])) _
        refine XS.iinc X144.here hx rfl (hb hby d4_70) rfl (l' := #[.val (.ref a1), .val (.int p2), .val (.ref a3), .val (.int ((0 : Int32) + (1 : Int32)))]) rfl ?_
        show Steps p.tables e below (T144.setTop (mkF m 73 #[.val (.ref a1), .val (.int p2), .val (.ref a3), .val (.int ((0 : Int32) + (1 : Int32)))] [])) _
        rw [show ((0 : Int32) + (1 : Int32)) = (1 : Int32) from by decide]
        show Steps p.tables e below (T144.setTop (mkF m 73 #[.val (.ref a1), .val (.int p2), .val (.ref a3), .val (.int (1 : Int32))] [])) _
        refine XS.goto X144.here hx rfl (pc0 := 73) (pc' := 45) rfl (hb hby d4_73) (by decide) (by decide) ?_
        show Steps p.tables e below (T144.setTop (mkF m 45 #[.val (.ref a1), .val (.int p2), .val (.ref a3), .val (.int (1 : Int32))] [])) _
        refine XS.iloadN X144.here hx rfl (hb hby d4_45) rfl ?_
        show Steps p.tables e below (T144.setTop (mkF m 46 #[.val (.ref a1), .val (.int p2), .val (.ref a3), .val (.int (1 : Int32))] [(.int (1 : Int32))])) _
        refine XS.iloadN X144.here hx rfl (hb hby d4_46) rfl ?_
        show Steps p.tables e below (T144.setTop (mkF m 47 #[.val (.ref a1), .val (.int p2), .val (.ref a3), .val (.int (1 : Int32))] [(.int p2), (.int (1 : Int32))])) _
        exact kt
      by_cases hc47_146 : (1 : Int32) < p2
      · skip
        obtain ⟨cl147, Ar147, qc147, S147, M147, Hh147, G147⟩ := id V144
        have hin147 : ¬ ((1 : Int32) < 0 ∨ cl147.slots.size ≤ ((1 : Int32)).toNatClampNeg) := inb_of S147 ⟨by decide, by decide⟩
        have ne148 : a1 ≠ a3 := Exa.neArv (H6.wr W144) V144 (hw _ (List.mem_of_getElem? (i := 5) rfl))
        have f149 : Fld Z h144 a1 "com/example/plain_ranker/plainranker/data/BinArray" "chars" "[C" (.ref bb) := (H1.other W144 (Or.inl ne148))
        obtain ⟨T150, X150, e150, st150⟩ := getF X144 hx hZ hown (host := "") (Or.inl (hw _ (List.mem_of_getElem? (i := 17) rfl))) Via.refl e144 f149 (g := (mkF m 55 #[.val (.ref a1), .val (.int p2), .val (.ref a3), .val (.int (1 : Int32))] [(.ref a1), (.int c1), (.int (1 : Int32)), (.ref a3)])) rfl rfl (hb hby d4_55)
        have f151 : Arv Z h144 bb bk .char (3 : Int32) [(.int x0), (.int x1), (.int x2)] (.int (0 : Int32)) := (H2.other W144 H5)
        obtain ⟨cl152, Ar152, qc152, S152, M152, Hh152, G152⟩ := id f151
        have hin152 : ¬ ((1 : Int32) < 0 ∨ cl152.slots.size ≤ ((1 : Int32)).toNatClampNeg) := inb_of S152 ⟨by decide, by decide⟩
        have pre153 : ∀ t, Steps p.tables e below (T150.setTop (mkF m 60 #[.val (.ref a1), .val (.int p2), .val (.ref a3), .val (.int (1 : Int32))] [(.int x1), (.int c1), (.int (1 : Int32)), (.ref a3)])) t → Steps p.tables e below (s₁.setTop (entryFrame m #[(.ref a1), (.int p2), (.ref a3)] 4)) t := fun t kt => by
          refine pre145 t ?_
          show Steps p.tables e below (T144.setTop (mkF m 47 #[.val (.ref a1), .val (.int p2), .val (.ref a3), .val (.int (1 : Int32))] [(.int p2), (.int (1 : Int32))])) _
          refine XS.icmpNo X144.here hx rfl (hb hby d4_47) rfl (tlt (hc47_146 : (1 : Int32) < p2)).2.1 ?_
          show Steps p.tables e below (T144.setTop (mkF m 50 #[.val (.ref a1), .val (.int p2), .val (.ref a3), .val (.int (1 : Int32))] [])) _
          refine XS.aloadN X144.here hx rfl (hb hby d4_50) rfl rfl ?_
          show Steps p.tables e below (T144.setTop (mkF m 51 #[.val (.ref a1), .val (.int p2), .val (.ref a3), .val (.int (1 : Int32))] [(.ref a3)])) _
          refine XS.iloadN X144.here hx rfl (hb hby d4_51) rfl ?_
          show Steps p.tables e below (T144.setTop (mkF m 52 #[.val (.ref a1), .val (.int p2), .val (.ref a3), .val (.int (1 : Int32))] [(.int (1 : Int32)), (.ref a3)])) _
          refine XT.dup2 X144.here hx rfl (hb hby d4_52) rfl rfl rfl ?_
          show Steps p.tables e below (T144.setTop (mkF m 53 #[.val (.ref a1), .val (.int p2), .val (.ref a3), .val (.int (1 : Int32))] [(.int (1 : Int32)), (.ref a3), (.int (1 : Int32)), (.ref a3)])) _
          refine X144.iaload hx (j := (1 : Int32)) (v := (.int c1)) (by rw [e144]; exact Ar147.1) (State.isArrayOf_alike hZ.alike Ar147.2.1) Ar147.2.2 hin147 (Hh147.at hin147 (rfl)) (g := (mkF m 53 #[.val (.ref a1), .val (.int p2), .val (.ref a3), .val (.int (1 : Int32))] [(.int (1 : Int32)), (.ref a3), (.int (1 : Int32)), (.ref a3)])) rfl rfl (hb hby d4_53) _ ?_
          show Steps p.tables e below (T144.setTop (mkF m 54 #[.val (.ref a1), .val (.int p2), .val (.ref a3), .val (.int (1 : Int32))] [(.int c1), (.int (1 : Int32)), (.ref a3)])) _
          refine XS.aloadN X144.here hx rfl (hb hby d4_54) rfl rfl ?_
          show Steps p.tables e below (T144.setTop (mkF m 55 #[.val (.ref a1), .val (.int p2), .val (.ref a3), .val (.int (1 : Int32))] [(.ref a1), (.int c1), (.int (1 : Int32)), (.ref a3)])) _
          refine st150 _ ?_
          show Steps p.tables e below (T150.setTop (mkF m 58 #[.val (.ref a1), .val (.int p2), .val (.ref a3), .val (.int (1 : Int32))] [(.ref bb), (.int c1), (.int (1 : Int32)), (.ref a3)])) _
          refine XS.iloadN X150.here hx rfl (hb hby d4_58) rfl ?_
          show Steps p.tables e below (T150.setTop (mkF m 59 #[.val (.ref a1), .val (.int p2), .val (.ref a3), .val (.int (1 : Int32))] [(.int (1 : Int32)), (.ref bb), (.int c1), (.int (1 : Int32)), (.ref a3)])) _
          refine X150.caload hx (j := (1 : Int32)) (v := (.int x1)) (by rw [e150]; exact Ar152.1) (State.isArrayOf_alike hZ.alike Ar152.2.1) Ar152.2.2 hin152 (Hh152.at hin152 (rfl)) (g := (mkF m 59 #[.val (.ref a1), .val (.int p2), .val (.ref a3), .val (.int (1 : Int32))] [(.int (1 : Int32)), (.ref bb), (.int c1), (.int (1 : Int32)), (.ref a3)])) rfl rfl (hb hby d4_59) _ ?_
          show Steps p.tables e below (T150.setTop (mkF m 60 #[.val (.ref a1), .val (.int p2), .val (.ref a3), .val (.int (1 : Int32))] [(.int x1), (.int c1), (.int (1 : Int32)), (.ref a3)])) _
          exact kt
        by_cases hc60_154 : x1 = (0 : Int32)
        · skip
          obtain ⟨cl155, Ar155, qc155, S155, M155, Hh155, G155⟩ := id V144
          have hin155 : ¬ ((1 : Int32) < 0 ∨ cl155.slots.size ≤ ((1 : Int32)).toNatClampNeg) := inb_of S155 ⟨by decide, by decide⟩
          obtain ⟨T155, h155, X155, e155, W155, st155⟩ := stI X150 hx hZ e150 Ar155 (j := (1 : Int32)) hin155 (g := (mkF m 69 #[.val (.ref a1), .val (.int p2), .val (.ref a3), .val (.int (1 : Int32))] [(.int (c1 + (0 : Int32))), (.int (1 : Int32)), (.ref a3)])) rfl rfl (hb hby d4_69)
          have V155 : Arv Z h155 a3 ck .int (3 : Int32) [(.int (c0 + (1 : Int32))), (.int (c1 + (0 : Int32))), (.int c2)] (.int (0 : Int32)) := Arv.set Ar155 qc155 S155 M155 Hh155 G155 rfl W155 1 rfl (by first | decide | (simp; done))
          have N155 := Fr.snoc X155 N144 H4
          have pre156 : ∀ t, Steps p.tables e below (T155.setTop (mkF m 47 #[.val (.ref a1), .val (.int p2), .val (.ref a3), .val (.int (2 : Int32))] [(.int p2), (.int (2 : Int32))])) t → Steps p.tables e below (s₁.setTop (entryFrame m #[(.ref a1), (.int p2), (.ref a3)] 4)) t := fun t kt => by
            refine pre153 t ?_
            show Steps p.tables e below (T150.setTop (mkF m 60 #[.val (.ref a1), .val (.int p2), .val (.ref a3), .val (.int (1 : Int32))] [(.int x1), (.int c1), (.int (1 : Int32)), (.ref a3)])) _
            refine XS.ifYes X150.here hx rfl (pc0 := 60) (pc' := 67) rfl (hb hby d4_60) rfl ((if0 _ _).trans (teq (hc60_154 : x1 = (0 : Int32))).1) (by decide) (by decide) ?_
            show Steps p.tables e below (T150.setTop (mkF m 67 #[.val (.ref a1), .val (.int p2), .val (.ref a3), .val (.int (1 : Int32))] [(.int c1), (.int (1 : Int32)), (.ref a3)])) _
            refine XS.iconst X150.here hx rfl (hb hby d4_67) ?_
            show Steps p.tables e below (T150.setTop (mkF m 68 #[.val (.ref a1), .val (.int p2), .val (.ref a3), .val (.int (1 : Int32))] [(.int (0 : Int32)), (.int c1), (.int (1 : Int32)), (.ref a3)])) _
            refine XS.iadd X150.here hx rfl (hb hby d4_68) rfl ?_
            show Steps p.tables e below (T150.setTop (mkF m 69 #[.val (.ref a1), .val (.int p2), .val (.ref a3), .val (.int (1 : Int32))] [(.int (c1 + (0 : Int32))), (.int (1 : Int32)), (.ref a3)])) _
            refine st155 _ ?_
            show Steps p.tables e below (T155.setTop (mkF m 70 #[.val (.ref a1), .val (.int p2), .val (.ref a3), .val (.int (1 : Int32))] [])) _
            refine XS.iinc X155.here hx rfl (hb hby d4_70) rfl (l' := #[.val (.ref a1), .val (.int p2), .val (.ref a3), .val (.int ((1 : Int32) + (1 : Int32)))]) rfl ?_
            show Steps p.tables e below (T155.setTop (mkF m 73 #[.val (.ref a1), .val (.int p2), .val (.ref a3), .val (.int ((1 : Int32) + (1 : Int32)))] [])) _
            rw [show ((1 : Int32) + (1 : Int32)) = (2 : Int32) from by decide]
            show Steps p.tables e below (T155.setTop (mkF m 73 #[.val (.ref a1), .val (.int p2), .val (.ref a3), .val (.int (2 : Int32))] [])) _
            refine XS.goto X155.here hx rfl (pc0 := 73) (pc' := 45) rfl (hb hby d4_73) (by decide) (by decide) ?_
            show Steps p.tables e below (T155.setTop (mkF m 45 #[.val (.ref a1), .val (.int p2), .val (.ref a3), .val (.int (2 : Int32))] [])) _
            refine XS.iloadN X155.here hx rfl (hb hby d4_45) rfl ?_
            show Steps p.tables e below (T155.setTop (mkF m 46 #[.val (.ref a1), .val (.int p2), .val (.ref a3), .val (.int (2 : Int32))] [(.int (2 : Int32))])) _
            refine XS.iloadN X155.here hx rfl (hb hby d4_46) rfl ?_
            show Steps p.tables e below (T155.setTop (mkF m 47 #[.val (.ref a1), .val (.int p2), .val (.ref a3), .val (.int (2 : Int32))] [(.int p2), (.int (2 : Int32))])) _
            exact kt
          by_cases hc47_157 : (2 : Int32) < p2
          · skip
            obtain ⟨cl158, Ar158, qc158, S158, M158, Hh158, G158⟩ := id V155
            have hin158 : ¬ ((2 : Int32) < 0 ∨ cl158.slots.size ≤ ((2 : Int32)).toNatClampNeg) := inb_of S158 ⟨by decide, by decide⟩
            have f159 : Fld Z h155 a1 "com/example/plain_ranker/plainranker/data/BinArray" "chars" "[C" (.ref bb) := (f149.other W155 (Or.inl ne148))
            obtain ⟨T160, X160, e160, st160⟩ := getF X155 hx hZ hown (host := "") (Or.inl (hw _ (List.mem_of_getElem? (i := 17) rfl))) Via.refl e155 f159 (g := (mkF m 55 #[.val (.ref a1), .val (.int p2), .val (.ref a3), .val (.int (2 : Int32))] [(.ref a1), (.int c2), (.int (2 : Int32)), (.ref a3)])) rfl rfl (hb hby d4_55)
            have f161 : Arv Z h155 bb bk .char (3 : Int32) [(.int x0), (.int x1), (.int x2)] (.int (0 : Int32)) := (f151.other W155 H5)
            obtain ⟨cl162, Ar162, qc162, S162, M162, Hh162, G162⟩ := id f161
            have hin162 : ¬ ((2 : Int32) < 0 ∨ cl162.slots.size ≤ ((2 : Int32)).toNatClampNeg) := inb_of S162 ⟨by decide, by decide⟩
            have pre163 : ∀ t, Steps p.tables e below (T160.setTop (mkF m 60 #[.val (.ref a1), .val (.int p2), .val (.ref a3), .val (.int (2 : Int32))] [(.int x2), (.int c2), (.int (2 : Int32)), (.ref a3)])) t → Steps p.tables e below (s₁.setTop (entryFrame m #[(.ref a1), (.int p2), (.ref a3)] 4)) t := fun t kt => by
              refine pre156 t ?_
              show Steps p.tables e below (T155.setTop (mkF m 47 #[.val (.ref a1), .val (.int p2), .val (.ref a3), .val (.int (2 : Int32))] [(.int p2), (.int (2 : Int32))])) _
              refine XS.icmpNo X155.here hx rfl (hb hby d4_47) rfl (tlt (hc47_157 : (2 : Int32) < p2)).2.1 ?_
              show Steps p.tables e below (T155.setTop (mkF m 50 #[.val (.ref a1), .val (.int p2), .val (.ref a3), .val (.int (2 : Int32))] [])) _
              refine XS.aloadN X155.here hx rfl (hb hby d4_50) rfl rfl ?_
              show Steps p.tables e below (T155.setTop (mkF m 51 #[.val (.ref a1), .val (.int p2), .val (.ref a3), .val (.int (2 : Int32))] [(.ref a3)])) _
              refine XS.iloadN X155.here hx rfl (hb hby d4_51) rfl ?_
              show Steps p.tables e below (T155.setTop (mkF m 52 #[.val (.ref a1), .val (.int p2), .val (.ref a3), .val (.int (2 : Int32))] [(.int (2 : Int32)), (.ref a3)])) _
              refine XT.dup2 X155.here hx rfl (hb hby d4_52) rfl rfl rfl ?_
              show Steps p.tables e below (T155.setTop (mkF m 53 #[.val (.ref a1), .val (.int p2), .val (.ref a3), .val (.int (2 : Int32))] [(.int (2 : Int32)), (.ref a3), (.int (2 : Int32)), (.ref a3)])) _
              refine X155.iaload hx (j := (2 : Int32)) (v := (.int c2)) (by rw [e155]; exact Ar158.1) (State.isArrayOf_alike hZ.alike Ar158.2.1) Ar158.2.2 hin158 (Hh158.at hin158 (rfl)) (g := (mkF m 53 #[.val (.ref a1), .val (.int p2), .val (.ref a3), .val (.int (2 : Int32))] [(.int (2 : Int32)), (.ref a3), (.int (2 : Int32)), (.ref a3)])) rfl rfl (hb hby d4_53) _ ?_
              show Steps p.tables e below (T155.setTop (mkF m 54 #[.val (.ref a1), .val (.int p2), .val (.ref a3), .val (.int (2 : Int32))] [(.int c2), (.int (2 : Int32)), (.ref a3)])) _
              refine XS.aloadN X155.here hx rfl (hb hby d4_54) rfl rfl ?_
              show Steps p.tables e below (T155.setTop (mkF m 55 #[.val (.ref a1), .val (.int p2), .val (.ref a3), .val (.int (2 : Int32))] [(.ref a1), (.int c2), (.int (2 : Int32)), (.ref a3)])) _
              refine st160 _ ?_
              show Steps p.tables e below (T160.setTop (mkF m 58 #[.val (.ref a1), .val (.int p2), .val (.ref a3), .val (.int (2 : Int32))] [(.ref bb), (.int c2), (.int (2 : Int32)), (.ref a3)])) _
              refine XS.iloadN X160.here hx rfl (hb hby d4_58) rfl ?_
              show Steps p.tables e below (T160.setTop (mkF m 59 #[.val (.ref a1), .val (.int p2), .val (.ref a3), .val (.int (2 : Int32))] [(.int (2 : Int32)), (.ref bb), (.int c2), (.int (2 : Int32)), (.ref a3)])) _
              refine X160.caload hx (j := (2 : Int32)) (v := (.int x2)) (by rw [e160]; exact Ar162.1) (State.isArrayOf_alike hZ.alike Ar162.2.1) Ar162.2.2 hin162 (Hh162.at hin162 (rfl)) (g := (mkF m 59 #[.val (.ref a1), .val (.int p2), .val (.ref a3), .val (.int (2 : Int32))] [(.int (2 : Int32)), (.ref bb), (.int c2), (.int (2 : Int32)), (.ref a3)])) rfl rfl (hb hby d4_59) _ ?_
              show Steps p.tables e below (T160.setTop (mkF m 60 #[.val (.ref a1), .val (.int p2), .val (.ref a3), .val (.int (2 : Int32))] [(.int x2), (.int c2), (.int (2 : Int32)), (.ref a3)])) _
              exact kt
            by_cases hc60_164 : x2 = (0 : Int32)
            · skip
              obtain ⟨cl165, Ar165, qc165, S165, M165, Hh165, G165⟩ := id V155
              have hin165 : ¬ ((2 : Int32) < 0 ∨ cl165.slots.size ≤ ((2 : Int32)).toNatClampNeg) := inb_of S165 ⟨by decide, by decide⟩
              obtain ⟨T165, h165, X165, e165, W165, st165⟩ := stI X160 hx hZ e160 Ar165 (j := (2 : Int32)) hin165 (g := (mkF m 69 #[.val (.ref a1), .val (.int p2), .val (.ref a3), .val (.int (2 : Int32))] [(.int (c2 + (0 : Int32))), (.int (2 : Int32)), (.ref a3)])) rfl rfl (hb hby d4_69)
              have V165 : Arv Z h165 a3 ck .int (3 : Int32) [(.int (c0 + (1 : Int32))), (.int (c1 + (0 : Int32))), (.int (c2 + (0 : Int32)))] (.int (0 : Int32)) := Arv.set Ar165 qc165 S165 M165 Hh165 G165 rfl W165 2 rfl (by first | decide | (simp; done))
              have N165 := Fr.snoc X165 N155 H4
              obtain ⟨fs, hr, hrun, hended, hW, hsame⟩ := X165.leave (v := none) (fun _ => rfl)
              refine ⟨_, _, pre163 _ ?_, hrun, hended, _, _, rfl, ?_, ⟨_, rfl⟩, hW, hsame.mono (by decide) (by decide)⟩
              · skip
                show Steps p.tables e below (T160.setTop (mkF m 60 #[.val (.ref a1), .val (.int p2), .val (.ref a3), .val (.int (2 : Int32))] [(.int x2), (.int c2), (.int (2 : Int32)), (.ref a3)])) _
                refine XS.ifYes X160.here hx rfl (pc0 := 60) (pc' := 67) rfl (hb hby d4_60) rfl ((if0 _ _).trans (teq (hc60_164 : x2 = (0 : Int32))).1) (by decide) (by decide) ?_
                show Steps p.tables e below (T160.setTop (mkF m 67 #[.val (.ref a1), .val (.int p2), .val (.ref a3), .val (.int (2 : Int32))] [(.int c2), (.int (2 : Int32)), (.ref a3)])) _
                refine XS.iconst X160.here hx rfl (hb hby d4_67) ?_
                show Steps p.tables e below (T160.setTop (mkF m 68 #[.val (.ref a1), .val (.int p2), .val (.ref a3), .val (.int (2 : Int32))] [(.int (0 : Int32)), (.int c2), (.int (2 : Int32)), (.ref a3)])) _
                refine XS.iadd X160.here hx rfl (hb hby d4_68) rfl ?_
                show Steps p.tables e below (T160.setTop (mkF m 69 #[.val (.ref a1), .val (.int p2), .val (.ref a3), .val (.int (2 : Int32))] [(.int (c2 + (0 : Int32))), (.int (2 : Int32)), (.ref a3)])) _
                refine st165 _ ?_
                show Steps p.tables e below (T165.setTop (mkF m 70 #[.val (.ref a1), .val (.int p2), .val (.ref a3), .val (.int (2 : Int32))] [])) _
                refine XS.iinc X165.here hx rfl (hb hby d4_70) rfl (l' := #[.val (.ref a1), .val (.int p2), .val (.ref a3), .val (.int ((2 : Int32) + (1 : Int32)))]) rfl ?_
                show Steps p.tables e below (T165.setTop (mkF m 73 #[.val (.ref a1), .val (.int p2), .val (.ref a3), .val (.int ((2 : Int32) + (1 : Int32)))] [])) _
                rw [show ((2 : Int32) + (1 : Int32)) = (3 : Int32) from by decide]
                show Steps p.tables e below (T165.setTop (mkF m 73 #[.val (.ref a1), .val (.int p2), .val (.ref a3), .val (.int (3 : Int32))] [])) _
                refine XS.goto X165.here hx rfl (pc0 := 73) (pc' := 45) rfl (hb hby d4_73) (by decide) (by decide) ?_
                show Steps p.tables e below (T165.setTop (mkF m 45 #[.val (.ref a1), .val (.int p2), .val (.ref a3), .val (.int (3 : Int32))] [])) _
                refine XS.iloadN X165.here hx rfl (hb hby d4_45) rfl ?_
                show Steps p.tables e below (T165.setTop (mkF m 46 #[.val (.ref a1), .val (.int p2), .val (.ref a3), .val (.int (3 : Int32))] [(.int (3 : Int32))])) _
                refine XS.iloadN X165.here hx rfl (hb hby d4_46) rfl ?_
                show Steps p.tables e below (T165.setTop (mkF m 47 #[.val (.ref a1), .val (.int p2), .val (.ref a3), .val (.int (3 : Int32))] [(.int p2), (.int (3 : Int32))])) _
                refine XS.icmpYes X165.here hx rfl (pc0 := 47) (pc' := 76) rfl (hb hby d4_47) rfl (flt (H7 : ¬ ((3 : Int32) < p2))).2.1 (by decide) (by decide) ?_
                show Steps p.tables e below (T165.setTop (mkF m 76 #[.val (.ref a1), .val (.int p2), .val (.ref a3), .val (.int (3 : Int32))] [])) _
                exact X165.returnOut hx Bd.returns (hb hby d4_76) hr
              · show Q4w Z a1 p2 a3 bb bk ck x0 x1 x2 c0 c1 c2 h0 n0 _ T165.heap _
                rw [e165]
                exact ⟨rfl, N165, ((((Keep.refl h0 [a3]).wr W144 (Or.inl (List.mem_of_getElem? (i := 0) rfl))).wr W155 (Or.inl (List.mem_of_getElem? (i := 0) rfl))).wr W165 (Or.inl (List.mem_of_getElem? (i := 0) rfl))), (by simpa only [own_e, eq_true hc47_103, eq_false hc60_108, eq_true hc47_146, eq_true hc60_154, eq_true hc47_157, eq_true hc60_164, if_true, if_false] using V165)⟩
            · skip
              obtain ⟨cl166, Ar166, qc166, S166, M166, Hh166, G166⟩ := id V155
              have hin166 : ¬ ((2 : Int32) < 0 ∨ cl166.slots.size ≤ ((2 : Int32)).toNatClampNeg) := inb_of S166 ⟨by decide, by decide⟩
              obtain ⟨T166, h166, X166, e166, W166, st166⟩ := stI X160 hx hZ e160 Ar166 (j := (2 : Int32)) hin166 (g := (mkF m 69 #[.val (.ref a1), .val (.int p2), .val (.ref a3), .val (.int (2 : Int32))] [(.int (c2 + (1 : Int32))), (.int (2 : Int32)), (.ref a3)])) rfl rfl (hb hby d4_69)
              have V166 : Arv Z h166 a3 ck .int (3 : Int32) [(.int (c0 + (1 : Int32))), (.int (c1 + (0 : Int32))), (.int (c2 + (1 : Int32)))] (.int (0 : Int32)) := Arv.set Ar166 qc166 S166 M166 Hh166 G166 rfl W166 2 rfl (by first | decide | (simp; done))
              have N166 := Fr.snoc X166 N155 H4
              obtain ⟨fs, hr, hrun, hended, hW, hsame⟩ := X166.leave (v := none) (fun _ => rfl)
              refine ⟨_, _, pre163 _ ?_, hrun, hended, _, _, rfl, ?_, ⟨_, rfl⟩, hW, hsame.mono (by decide) (by decide)⟩
              · skip
                show Steps p.tables e below (T160.setTop (mkF m 60 #[.val (.ref a1), .val (.int p2), .val (.ref a3), .val (.int (2 : Int32))] [(.int x2), (.int c2), (.int (2 : Int32)), (.ref a3)])) _
                refine XS.ifNo X160.here hx rfl (hb hby d4_60) rfl ((if0 _ _).trans (feq (hc60_164 : ¬ (x2 = (0 : Int32)))).1) ?_
                show Steps p.tables e below (T160.setTop (mkF m 63 #[.val (.ref a1), .val (.int p2), .val (.ref a3), .val (.int (2 : Int32))] [(.int c2), (.int (2 : Int32)), (.ref a3)])) _
                refine XS.iconst X160.here hx rfl (hb hby d4_63) ?_
                show Steps p.tables e below (T160.setTop (mkF m 64 #[.val (.ref a1), .val (.int p2), .val (.ref a3), .val (.int (2 : Int32))] [(.int (1 : Int32)), (.int c2), (.int (2 : Int32)), (.ref a3)])) _
                refine XS.goto X160.here hx rfl (pc0 := 64) (pc' := 68) rfl (hb hby d4_64) (by decide) (by decide) ?_
                show Steps p.tables e below (T160.setTop (mkF m 68 #[.val (.ref a1), .val (.int p2), .val (.ref a3), .val (.int (2 : Int32))] [(.int (1 : Int32)), (.int c2), (.int (2 : Int32)), (.ref a3)])) _
                refine XS.iadd X160.here hx rfl (hb hby d4_68) rfl ?_
                show Steps p.tables e below (T160.setTop (mkF m 69 #[.val (.ref a1), .val (.int p2), .val (.ref a3), .val (.int (2 : Int32))] [(.int (c2 + (1 : Int32))), (.int (2 : Int32)), (.ref a3)])) _
                refine st166 _ ?_
                show Steps p.tables e below (T166.setTop (mkF m 70 #[.val (.ref a1), .val (.int p2), .val (.ref a3), .val (.int (2 : Int32))] [])) _
                refine XS.iinc X166.here hx rfl (hb hby d4_70) rfl (l' := #[.val (.ref a1), .val (.int p2), .val (.ref a3), .val (.int ((2 : Int32) + (1 : Int32)))]) rfl ?_
                show Steps p.tables e below (T166.setTop (mkF m 73 #[.val (.ref a1), .val (.int p2), .val (.ref a3), .val (.int ((2 : Int32) + (1 : Int32)))] [])) _
                rw [show ((2 : Int32) + (1 : Int32)) = (3 : Int32) from by decide]
                show Steps p.tables e below (T166.setTop (mkF m 73 #[.val (.ref a1), .val (.int p2), .val (.ref a3), .val (.int (3 : Int32))] [])) _
                refine XS.goto X166.here hx rfl (pc0 := 73) (pc' := 45) rfl (hb hby d4_73) (by decide) (by decide) ?_
                show Steps p.tables e below (T166.setTop (mkF m 45 #[.val (.ref a1), .val (.int p2), .val (.ref a3), .val (.int (3 : Int32))] [])) _
                refine XS.iloadN X166.here hx rfl (hb hby d4_45) rfl ?_
                show Steps p.tables e below (T166.setTop (mkF m 46 #[.val (.ref a1), .val (.int p2), .val (.ref a3), .val (.int (3 : Int32))] [(.int (3 : Int32))])) _
                refine XS.iloadN X166.here hx rfl (hb hby d4_46) rfl ?_
                show Steps p.tables e below (T166.setTop (mkF m 47 #[.val (.ref a1), .val (.int p2), .val (.ref a3), .val (.int (3 : Int32))] [(.int p2), (.int (3 : Int32))])) _
                refine XS.icmpYes X166.here hx rfl (pc0 := 47) (pc' := 76) rfl (hb hby d4_47) rfl (flt (H7 : ¬ ((3 : Int32) < p2))).2.1 (by decide) (by decide) ?_
                show Steps p.tables e below (T166.setTop (mkF m 76 #[.val (.ref a1), .val (.int p2), .val (.ref a3), .val (.int (3 : Int32))] [])) _
                exact X166.returnOut hx Bd.returns (hb hby d4_76) hr
              · show Q4w Z a1 p2 a3 bb bk ck x0 x1 x2 c0 c1 c2 h0 n0 _ T166.heap _
                rw [e166]
                exact ⟨rfl, N166, ((((Keep.refl h0 [a3]).wr W144 (Or.inl (List.mem_of_getElem? (i := 0) rfl))).wr W155 (Or.inl (List.mem_of_getElem? (i := 0) rfl))).wr W166 (Or.inl (List.mem_of_getElem? (i := 0) rfl))), (by simpa only [own_e, eq_true hc47_103, eq_false hc60_108, eq_true hc47_146, eq_true hc60_154, eq_true hc47_157, eq_false hc60_164, if_true, if_false] using V166)⟩
          · skip
            obtain ⟨fs, hr, hrun, hended, hW, hsame⟩ := X155.leave (v := none) (fun _ => rfl)
            refine ⟨_, _, pre156 _ ?_, hrun, hended, _, _, rfl, ?_, ⟨_, rfl⟩, hW, hsame.mono (by decide) (by decide)⟩
            · skip
              show Steps p.tables e below (T155.setTop (mkF m 47 #[.val (.ref a1), .val (.int p2), .val (.ref a3), .val (.int (2 : Int32))] [(.int p2), (.int (2 : Int32))])) _
              refine XS.icmpYes X155.here hx rfl (pc0 := 47) (pc' := 76) rfl (hb hby d4_47) rfl (flt (hc47_157 : ¬ ((2 : Int32) < p2))).2.1 (by decide) (by decide) ?_
              show Steps p.tables e below (T155.setTop (mkF m 76 #[.val (.ref a1), .val (.int p2), .val (.ref a3), .val (.int (2 : Int32))] [])) _
              exact X155.returnOut hx Bd.returns (hb hby d4_76) hr
            · show Q4w Z a1 p2 a3 bb bk ck x0 x1 x2 c0 c1 c2 h0 n0 _ T155.heap _
              rw [e155]
              exact ⟨rfl, N155, (((Keep.refl h0 [a3]).wr W144 (Or.inl (List.mem_of_getElem? (i := 0) rfl))).wr W155 (Or.inl (List.mem_of_getElem? (i := 0) rfl))), (by simpa only [own_e, eq_true hc47_103, eq_false hc60_108, eq_true hc47_146, eq_true hc60_154, eq_false hc47_157, if_true, if_false] using V155)⟩
        · skip
          obtain ⟨cl167, Ar167, qc167, S167, M167, Hh167, G167⟩ := id V144
          have hin167 : ¬ ((1 : Int32) < 0 ∨ cl167.slots.size ≤ ((1 : Int32)).toNatClampNeg) := inb_of S167 ⟨by decide, by decide⟩
          obtain ⟨T167, h167, X167, e167, W167, st167⟩ := stI X150 hx hZ e150 Ar167 (j := (1 : Int32)) hin167 (g := (mkF m 69 #[.val (.ref a1), .val (.int p2), .val (.ref a3), .val (.int (1 : Int32))] [(.int (c1 + (1 : Int32))), (.int (1 : Int32)), (.ref a3)])) rfl rfl (hb hby d4_69)
          have V167 : Arv Z h167 a3 ck .int (3 : Int32) [(.int (c0 + (1 : Int32))), (.int (c1 + (1 : Int32))), (.int c2)] (.int (0 : Int32)) := Arv.set Ar167 qc167 S167 M167 Hh167 G167 rfl W167 1 rfl (by first | decide | (simp; done))
          have N167 := Fr.snoc X167 N144 H4
          have pre168 : ∀ t, Steps p.tables e below (T167.setTop (mkF m 47 #[.val (.ref a1), .val (.int p2), .val (.ref a3), .val (.int (2 : Int32))] [(.int p2), (.int (2 : Int32))])) t → Steps p.tables e below (s₁.setTop (entryFrame m #[(.ref a1), (.int p2), (.ref a3)] 4)) t := fun t kt => by
            refine pre153 t ?_
            show Steps p.tables e below (T150.setTop (mkF m 60 #[.val (.ref a1), .val (.int p2), .val (.ref a3), .val (.int (1 : Int32))] [(.int x1), (.int c1), (.int (1 : Int32)), (.ref a3)])) _
            refine XS.ifNo X150.here hx rfl (hb hby d4_60) rfl ((if0 _ _).trans (feq (hc60_154 : ¬ (x1 = (0 : Int32)))).1) ?_
            show Steps p.tables e below (T150.setTop (mkF m 63 #[.val (.ref a1), .val (.int p2), .val (.ref a3), .val (.int (1 : Int32))] [(.int c1), (.int (1 : Int32)), (.ref a3)])) _
            refine XS.iconst X150.here hx rfl (hb hby d4_63) ?_
            show Steps p.tables e below (T150.setTop (mkF m 64 #[.val (.ref a1), .val (.int p2), .val (.ref a3), .val (.int (1 : Int32))] [(.int (1 : Int32)), (.int c1), (.int (1 : Int32)), (.ref a3)])) _
            refine XS.goto X150.here hx rfl (pc0 := 64) (pc' := 68) rfl (hb hby d4_64) (by decide) (by decide) ?_
            show Steps p.tables e below (T150.setTop (mkF m 68 #[.val (.ref a1), .val (.int p2), .val (.ref a3), .val (.int (1 : Int32))] [(.int (1 : Int32)), (.int c1), (.int (1 : Int32)), (.ref a3)])) _
            refine XS.iadd X150.here hx rfl (hb hby d4_68) rfl ?_
            show Steps p.tables e below (T150.setTop (mkF m 69 #[.val (.ref a1), .val (.int p2), .val (.ref a3), .val (.int (1 : Int32))] [(.int (c1 + (1 : Int32))), (.int (1 : Int32)), (.ref a3)])) _
            refine st167 _ ?_
            show Steps p.tables e below (T167.setTop (mkF m 70 #[.val (.ref a1), .val (.int p2), .val (.ref a3), .val (.int (1 : Int32))] [])) _
            refine XS.iinc X167.here hx rfl (hb hby d4_70) rfl (l' := #[.val (.ref a1), .val (.int p2), .val (.ref a3), .val (.int ((1 : Int32) + (1 : Int32)))]) rfl ?_
            show Steps p.tables e below (T167.setTop (mkF m 73 #[.val (.ref a1), .val (.int p2), .val (.ref a3), .val (.int ((1 : Int32) + (1 : Int32)))] [])) _
            rw [show ((1 : Int32) + (1 : Int32)) = (2 : Int32) from by decide]
            show Steps p.tables e below (T167.setTop (mkF m 73 #[.val (.ref a1), .val (.int p2), .val (.ref a3), .val (.int (2 : Int32))] [])) _
            refine XS.goto X167.here hx rfl (pc0 := 73) (pc' := 45) rfl (hb hby d4_73) (by decide) (by decide) ?_
            show Steps p.tables e below (T167.setTop (mkF m 45 #[.val (.ref a1), .val (.int p2), .val (.ref a3), .val (.int (2 : Int32))] [])) _
            refine XS.iloadN X167.here hx rfl (hb hby d4_45) rfl ?_
            show Steps p.tables e below (T167.setTop (mkF m 46 #[.val (.ref a1), .val (.int p2), .val (.ref a3), .val (.int (2 : Int32))] [(.int (2 : Int32))])) _
            refine XS.iloadN X167.here hx rfl (hb hby d4_46) rfl ?_
            show Steps p.tables e below (T167.setTop (mkF m 47 #[.val (.ref a1), .val (.int p2), .val (.ref a3), .val (.int (2 : Int32))] [(.int p2), (.int (2 : Int32))])) _
            exact kt
          by_cases hc47_169 : (2 : Int32) < p2
          · skip
            obtain ⟨cl170, Ar170, qc170, S170, M170, Hh170, G170⟩ := id V167
            have hin170 : ¬ ((2 : Int32) < 0 ∨ cl170.slots.size ≤ ((2 : Int32)).toNatClampNeg) := inb_of S170 ⟨by decide, by decide⟩
            have f171 : Fld Z h167 a1 "com/example/plain_ranker/plainranker/data/BinArray" "chars" "[C" (.ref bb) := (f149.other W167 (Or.inl ne148))
            obtain ⟨T172, X172, e172, st172⟩ := getF X167 hx hZ hown (host := "") (Or.inl (hw _ (List.mem_of_getElem? (i := 17) rfl))) Via.refl e167 f171 (g := (mkF m 55 #[.val (.ref a1), .val (.int p2), .val (.ref a3), .val (.int (2 : Int32))] [(.ref a1), (.int c2), (.int (2 : Int32)), (.ref a3)])) rfl rfl (hb hby d4_55)
            have f173 : Arv Z h167 bb bk .char (3 : Int32) [(.int x0), (.int x1), (.int x2)] (.int (0 : Int32)) := (f151.other W167 H5)
            obtain ⟨cl174, Ar174, qc174, S174, M174, Hh174, G174⟩ := id f173
            have hin174 : ¬ ((2 : Int32) < 0 ∨ cl174.slots.size ≤ ((2 : Int32)).toNatClampNeg) := inb_of S174 ⟨by decide, by decide⟩
            have pre175 : ∀ t, Steps p.tables e below (T172.setTop (mkF m 60 #[.val (.ref a1), .val (.int p2), .val (.ref a3), .val (.int (2 : Int32))] [(.int x2), (.int c2), (.int (2 : Int32)), (.ref a3)])) t → Steps p.tables e below (s₁.setTop (entryFrame m #[(.ref a1), (.int p2), (.ref a3)] 4)) t := fun t kt => by
              refine pre168 t ?_
              show Steps p.tables e below (T167.setTop (mkF m 47 #[.val (.ref a1), .val (.int p2), .val (.ref a3), .val (.int (2 : Int32))] [(.int p2), (.int (2 : Int32))])) _
              refine XS.icmpNo X167.here hx rfl (hb hby d4_47) rfl (tlt (hc47_169 : (2 : Int32) < p2)).2.1 ?_
              show Steps p.tables e below (T167.setTop (mkF m 50 #[.val (.ref a1), .val (.int p2), .val (.ref a3), .val (.int (2 : Int32))] [])) _
              refine XS.aloadN X167.here hx rfl (hb hby d4_50) rfl rfl ?_
              show Steps p.tables e below (T167.setTop (mkF m 51 #[.val (.ref a1), .val (.int p2), .val (.ref a3), .val (.int (2 : Int32))] [(.ref a3)])) _
              refine XS.iloadN X167.here hx rfl (hb hby d4_51) rfl ?_
              show Steps p.tables e below (T167.setTop (mkF m 52 #[.val (.ref a1), .val (.int p2), .val (.ref a3), .val (.int (2 : Int32))] [(.int (2 : Int32)), (.ref a3)])) _
              refine XT.dup2 X167.here hx rfl (hb hby d4_52) rfl rfl rfl ?_
              show Steps p.tables e below (T167.setTop (mkF m 53 #[.val (.ref a1), .val (.int p2), .val (.ref a3), .val (.int (2 : Int32))] [(.int (2 : Int32)), (.ref a3), (.int (2 : Int32)), (.ref a3)])) _
              refine X167.iaload hx (j := (2 : Int32)) (v := (.int c2)) (by rw [e167]; exact Ar170.1) (State.isArrayOf_alike hZ.alike Ar170.2.1) Ar170.2.2 hin170 (Hh170.at hin170 (rfl)) (g := (mkF m 53 #[.val (.ref a1), .val (.int p2), .val (.ref a3), .val (.int (2 : Int32))] [(.int (2 : Int32)), (.ref a3), (.int (2 : Int32)), (.ref a3)])) rfl rfl (hb hby d4_53) _ ?_
              show Steps p.tables e below (T167.setTop (mkF m 54 #[.val (.ref a1), .val (.int p2), .val (.ref a3), .val (.int (2 : Int32))] [(.int c2), (.int (2 : Int32)), (.ref a3)])) _
              refine XS.aloadN X167.here hx rfl (hb hby d4_54) rfl rfl ?_
              show Steps p.tables e below (T167.setTop (mkF m 55 #[.val (.ref a1), .val (.int p2), .val (.ref a3), .val (.int (2 : Int32))] [(.ref a1), (.int c2), (.int (2 : Int32)), (.ref a3)])) _
              refine st172 _ ?_
              show Steps p.tables e below (T172.setTop (mkF m 58 #[.val (.ref a1), .val (.int p2), .val (.ref a3), .val (.int (2 : Int32))] [(.ref bb), (.int c2), (.int (2 : Int32)), (.ref a3)])) _
              refine XS.iloadN X172.here hx rfl (hb hby d4_58) rfl ?_
              show Steps p.tables e below (T172.setTop (mkF m 59 #[.val (.ref a1), .val (.int p2), .val (.ref a3), .val (.int (2 : Int32))] [(.int (2 : Int32)), (.ref bb), (.int c2), (.int (2 : Int32)), (.ref a3)])) _
              refine X172.caload hx (j := (2 : Int32)) (v := (.int x2)) (by rw [e172]; exact Ar174.1) (State.isArrayOf_alike hZ.alike Ar174.2.1) Ar174.2.2 hin174 (Hh174.at hin174 (rfl)) (g := (mkF m 59 #[.val (.ref a1), .val (.int p2), .val (.ref a3), .val (.int (2 : Int32))] [(.int (2 : Int32)), (.ref bb), (.int c2), (.int (2 : Int32)), (.ref a3)])) rfl rfl (hb hby d4_59) _ ?_
              show Steps p.tables e below (T172.setTop (mkF m 60 #[.val (.ref a1), .val (.int p2), .val (.ref a3), .val (.int (2 : Int32))] [(.int x2), (.int c2), (.int (2 : Int32)), (.ref a3)])) _
              exact kt
            by_cases hc60_176 : x2 = (0 : Int32)
            · skip
              obtain ⟨cl177, Ar177, qc177, S177, M177, Hh177, G177⟩ := id V167
              have hin177 : ¬ ((2 : Int32) < 0 ∨ cl177.slots.size ≤ ((2 : Int32)).toNatClampNeg) := inb_of S177 ⟨by decide, by decide⟩
              obtain ⟨T177, h177, X177, e177, W177, st177⟩ := stI X172 hx hZ e172 Ar177 (j := (2 : Int32)) hin177 (g := (mkF m 69 #[.val (.ref a1), .val (.int p2), .val (.ref a3), .val (.int (2 : Int32))] [(.int (c2 + (0 : Int32))), (.int (2 : Int32)), (.ref a3)])) rfl rfl (hb hby d4_69)
              have V177 : Arv Z h177 a3 ck .int (3 : Int32) [(.int (c0 + (1 : Int32))), (.int (c1 + (1 : Int32))), (.int (c2 + (0 : Int32)))] (.int (0 : Int32)) := Arv.set Ar177 qc177 S177 M177 Hh177 G177 rfl W177 2 rfl (by first | decide | (simp; done))
              have N177 := Fr.snoc X177 N167 H4
              obtain ⟨fs, hr, hrun, hended, hW, hsame⟩ := X177.leave (v := none) (fun _ => rfl)
              refine ⟨_, _, pre175 _ ?_, hrun, hended, _, _, rfl, ?_, ⟨_, rfl⟩, hW, hsame.mono (by decide) (by decide)⟩
              · skip
                show Steps p.tables e below (T172.setTop (mkF m 60 #[.val (.ref a1), .val (.int p2), .val (.ref a3), .val (.int (2 : Int32))] [(.int x2), (.int c2), (.int (2 : Int32)), (.ref a3)])) _
                refine XS.ifYes X172.here hx rfl (pc0 := 60) (pc' := 67) rfl (hb hby d4_60) rfl ((if0 _ _).trans (teq (hc60_176 : x2 = (0 : Int32))).1) (by decide) (by decide) ?_
                show Steps p.tables e below (T172.setTop (mkF m 67 #[.val (.ref a1), .val (.int p2), .val (.ref a3), .val (.int (2 : Int32))] [(.int c2), (.int (2 : Int32)), (.ref a3)])) _
                refine XS.iconst X172.here hx rfl (hb hby d4_67) ?_
                show Steps p.tables e below (T172.setTop (mkF m 68 #[.val (.ref a1), .val (.int p2), .val (.ref a3), .val (.int (2 : Int32))] [(.int (0 : Int32)), (.int c2), (.int (2 : Int32)), (.ref a3)])) _
                refine XS.iadd X172.here hx rfl (hb hby d4_68) rfl ?_
                show Steps p.tables e below (T172.setTop (mkF m 69 #[.val (.ref a1), .val (.int p2), .val (.ref a3), .val (.int (2 : Int32))] [(.int (c2 + (0 : Int32))), (.int (2 : Int32)), (.ref a3)])) _
                refine st177 _ ?_
                show Steps p.tables e below (T177.setTop (mkF m 70 #[.val (.ref a1), .val (.int p2), .val (.ref a3), .val (.int (2 : Int32))] [])) _
                refine XS.iinc X177.here hx rfl (hb hby d4_70) rfl (l' := #[.val (.ref a1), .val (.int p2), .val (.ref a3), .val (.int ((2 : Int32) + (1 : Int32)))]) rfl ?_
                show Steps p.tables e below (T177.setTop (mkF m 73 #[.val (.ref a1), .val (.int p2), .val (.ref a3), .val (.int ((2 : Int32) + (1 : Int32)))] [])) _
                rw [show ((2 : Int32) + (1 : Int32)) = (3 : Int32) from by decide]
                show Steps p.tables e below (T177.setTop (mkF m 73 #[.val (.ref a1), .val (.int p2), .val (.ref a3), .val (.int (3 : Int32))] [])) _
                refine XS.goto X177.here hx rfl (pc0 := 73) (pc' := 45) rfl (hb hby d4_73) (by decide) (by decide) ?_
                show Steps p.tables e below (T177.setTop (mkF m 45 #[.val (.ref a1), .val (.int p2), .val (.ref a3), .val (.int (3 : Int32))] [])) _
                refine XS.iloadN X177.here hx rfl (hb hby d4_45) rfl ?_
                show Steps p.tables e below (T177.setTop (mkF m 46 #[.val (.ref a1), .val (.int p2), .val (.ref a3), .val (.int (3 : Int32))] [(.int (3 : Int32))])) _
                refine XS.iloadN X177.here hx rfl (hb hby d4_46) rfl ?_
                show Steps p.tables e below (T177.setTop (mkF m 47 #[.val (.ref a1), .val (.int p2), .val (.ref a3), .val (.int (3 : Int32))] [(.int p2), (.int (3 : Int32))])) _
                refine XS.icmpYes X177.here hx rfl (pc0 := 47) (pc' := 76) rfl (hb hby d4_47) rfl (flt (H7 : ¬ ((3 : Int32) < p2))).2.1 (by decide) (by decide) ?_
                show Steps p.tables e below (T177.setTop (mkF m 76 #[.val (.ref a1), .val (.int p2), .val (.ref a3), .val (.int (3 : Int32))] [])) _
                exact X177.returnOut hx Bd.returns (hb hby d4_76) hr
              · show Q4w Z a1 p2 a3 bb bk ck x0 x1 x2 c0 c1 c2 h0 n0 _ T177.heap _
                rw [e177]
                exact ⟨rfl, N177, ((((Keep.refl h0 [a3]).wr W144 (Or.inl (List.mem_of_getElem? (i := 0) rfl))).wr W167 (Or.inl (List.mem_of_getElem? (i := 0) rfl))).wr W177 (Or.inl (List.mem_of_getElem? (i := 0) rfl))), (by simpa only [own_e, eq_true hc47_103, eq_false hc60_108, eq_true hc47_146, eq_false hc60_154, eq_true hc47_169, eq_true hc60_176, if_true, if_false] using V177)⟩
            · skip
              obtain ⟨cl178, Ar178, qc178, S178, M178, Hh178, G178⟩ := id V167
              have hin178 : ¬ ((2 : Int32) < 0 ∨ cl178.slots.size ≤ ((2 : Int32)).toNatClampNeg) := inb_of S178 ⟨by decide, by decide⟩
              obtain ⟨T178, h178, X178, e178, W178, st178⟩ := stI X172 hx hZ e172 Ar178 (j := (2 : Int32)) hin178 (g := (mkF m 69 #[.val (.ref a1), .val (.int p2), .val (.ref a3), .val (.int (2 : Int32))] [(.int (c2 + (1 : Int32))), (.int (2 : Int32)), (.ref a3)])) rfl rfl (hb hby d4_69)
              have V178 : Arv Z h178 a3 ck .int (3 : Int32) [(.int (c0 + (1 : Int32))), (.int (c1 + (1 : Int32))), (.int (c2 + (1 : Int32)))] (.int (0 : Int32)) := Arv.set Ar178 qc178 S178 M178 Hh178 G178 rfl W178 2 rfl (by first | decide | (simp; done))
              have N178 := Fr.snoc X178 N167 H4
              obtain ⟨fs, hr, hrun, hended, hW, hsame⟩ := X178.leave (v := none) (fun _ => rfl)
              refine ⟨_, _, pre175 _ ?_, hrun, hended, _, _, rfl, ?_, ⟨_, rfl⟩, hW, hsame.mono (by decide) (by decide)⟩
              · skip
                show Steps p.tables e below (T172.setTop (mkF m 60 #[.val (.ref a1), .val (.int p2), .val (.ref a3), .val (.int (2 : Int32))] [(.int x2), (.int c2), (.int (2 : Int32)), (.ref a3)])) _
                refine XS.ifNo X172.here hx rfl (hb hby d4_60) rfl ((if0 _ _).trans (feq (hc60_176 : ¬ (x2 = (0 : Int32)))).1) ?_
                show Steps p.tables e below (T172.setTop (mkF m 63 #[.val (.ref a1), .val (.int p2), .val (.ref a3), .val (.int (2 : Int32))] [(.int c2), (.int (2 : Int32)), (.ref a3)])) _
                refine XS.iconst X172.here hx rfl (hb hby d4_63) ?_
                show Steps p.tables e below (T172.setTop (mkF m 64 #[.val (.ref a1), .val (.int p2), .val (.ref a3), .val (.int (2 : Int32))] [(.int (1 : Int32)), (.int c2), (.int (2 : Int32)), (.ref a3)])) _
                refine XS.goto X172.here hx rfl (pc0 := 64) (pc' := 68) rfl (hb hby d4_64) (by decide) (by decide) ?_
                show Steps p.tables e below (T172.setTop (mkF m 68 #[.val (.ref a1), .val (.int p2), .val (.ref a3), .val (.int (2 : Int32))] [(.int (1 : Int32)), (.int c2), (.int (2 : Int32)), (.ref a3)])) _
                refine XS.iadd X172.here hx rfl (hb hby d4_68) rfl ?_
                show Steps p.tables e below (T172.setTop (mkF m 69 #[.val (.ref a1), .val (.int p2), .val (.ref a3), .val (.int (2 : Int32))] [(.int (c2 + (1 : Int32))), (.int (2 : Int32)), (.ref a3)])) _
                refine st178 _ ?_
                show Steps p.tables e below (T178.setTop (mkF m 70 #[.val (.ref a1), .val (.int p2), .val (.ref a3), .val (.int (2 : Int32))] [])) _
                refine XS.iinc X178.here hx rfl (hb hby d4_70) rfl (l' := #[.val (.ref a1), .val (.int p2), .val (.ref a3), .val (.int ((2 : Int32) + (1 : Int32)))]) rfl ?_
                show Steps p.tables e below (T178.setTop (mkF m 73 #[.val (.ref a1), .val (.int p2), .val (.ref a3), .val (.int ((2 : Int32) + (1 : Int32)))] [])) _
                rw [show ((2 : Int32) + (1 : Int32)) = (3 : Int32) from by decide]
                show Steps p.tables e below (T178.setTop (mkF m 73 #[.val (.ref a1), .val (.int p2), .val (.ref a3), .val (.int (3 : Int32))] [])) _
                refine XS.goto X178.here hx rfl (pc0 := 73) (pc' := 45) rfl (hb hby d4_73) (by decide) (by decide) ?_
                show Steps p.tables e below (T178.setTop (mkF m 45 #[.val (.ref a1), .val (.int p2), .val (.ref a3), .val (.int (3 : Int32))] [])) _
                refine XS.iloadN X178.here hx rfl (hb hby d4_45) rfl ?_
                show Steps p.tables e below (T178.setTop (mkF m 46 #[.val (.ref a1), .val (.int p2), .val (.ref a3), .val (.int (3 : Int32))] [(.int (3 : Int32))])) _
                refine XS.iloadN X178.here hx rfl (hb hby d4_46) rfl ?_
                show Steps p.tables e below (T178.setTop (mkF m 47 #[.val (.ref a1), .val (.int p2), .val (.ref a3), .val (.int (3 : Int32))] [(.int p2), (.int (3 : Int32))])) _
                refine XS.icmpYes X178.here hx rfl (pc0 := 47) (pc' := 76) rfl (hb hby d4_47) rfl (flt (H7 : ¬ ((3 : Int32) < p2))).2.1 (by decide) (by decide) ?_
                show Steps p.tables e below (T178.setTop (mkF m 76 #[.val (.ref a1), .val (.int p2), .val (.ref a3), .val (.int (3 : Int32))] [])) _
                exact X178.returnOut hx Bd.returns (hb hby d4_76) hr
              · show Q4w Z a1 p2 a3 bb bk ck x0 x1 x2 c0 c1 c2 h0 n0 _ T178.heap _
                rw [e178]
                exact ⟨rfl, N178, ((((Keep.refl h0 [a3]).wr W144 (Or.inl (List.mem_of_getElem? (i := 0) rfl))).wr W167 (Or.inl (List.mem_of_getElem? (i := 0) rfl))).wr W178 (Or.inl (List.mem_of_getElem? (i := 0) rfl))), (by simpa only [own_e, eq_true hc47_103, eq_false hc60_108, eq_true hc47_146, eq_false hc60_154, eq_true hc47_169, eq_false hc60_176, if_true, if_false] using V178)⟩
          · skip
            obtain ⟨fs, hr, hrun, hended, hW, hsame⟩ := X167.leave (v := none) (fun _ => rfl)
            refine ⟨_, _, pre168 _ ?_, hrun, hended, _, _, rfl, ?_, ⟨_, rfl⟩, hW, hsame.mono (by decide) (by decide)⟩
            · skip
              show Steps p.tables e below (T167.setTop (mkF m 47 #[.val (.ref a1), .val (.int p2), .val (.ref a3), .val (.int (2 : Int32))] [(.int p2), (.int (2 : Int32))])) _
              refine XS.icmpYes X167.here hx rfl (pc0 := 47) (pc' := 76) rfl (hb hby d4_47) rfl (flt (hc47_169 : ¬ ((2 : Int32) < p2))).2.1 (by decide) (by decide) ?_
              show Steps p.tables e below (T167.setTop (mkF m 76 #[.val (.ref a1), .val (.int p2), .val (.ref a3), .val (.int (2 : Int32))] [])) _
              exact X167.returnOut hx Bd.returns (hb hby d4_76) hr
            · show Q4w Z a1 p2 a3 bb bk ck x0 x1 x2 c0 c1 c2 h0 n0 _ T167.heap _
              rw [e167]
              exact ⟨rfl, N167, (((Keep.refl h0 [a3]).wr W144 (Or.inl (List.mem_of_getElem? (i := 0) rfl))).wr W167 (Or.inl (List.mem_of_getElem? (i := 0) rfl))), (by simpa only [own_e, eq_true hc47_103, eq_false hc60_108, eq_true hc47_146, eq_false hc60_154, eq_false hc47_169, if_true, if_false] using V167)⟩
      · skip
        have hm2 : ¬ ((2 : Int32) < p2) := own_mono hc47_146 (by decide)
        obtain ⟨fs, hr, hrun, hended, hW, hsame⟩ := X144.leave (v := none) (fun _ => rfl)
        refine ⟨_, _, pre145 _ ?_, hrun, hended, _, _, rfl, ?_, ⟨_, rfl⟩, hW, hsame.mono (by decide) (by decide)⟩
        · skip
          show Steps p.tables e below (T144.setTop (mkF m 47 #[.val (.ref a1), .val (.int p2), .val (.ref a3), .val (.int (1 : Int32))] [(.int p2), (.int (1 : Int32))])) _
          refine XS.icmpYes X144.here hx rfl (pc0 := 47) (pc' := 76) rfl (hb hby d4_47) rfl (flt (hc47_146 : ¬ ((1 : Int32) < p2))).2.1 (by decide) (by decide) ?_
          show Steps p.tables e below (T144.setTop (mkF m 76 #[.val (.ref a1), .val (.int p2), .val (.ref a3), .val (.int (1 : Int32))] [])) _
          exact X144.returnOut hx Bd.returns (hb hby d4_76) hr
        · show Q4w Z a1 p2 a3 bb bk ck x0 x1 x2 c0 c1 c2 h0 n0 _ T144.heap _
          rw [e144]
          exact ⟨rfl, N144, ((Keep.refl h0 [a3]).wr W144 (Or.inl (List.mem_of_getElem? (i := 0) rfl))), (by simpa only [own_e, eq_true hc47_103, eq_false hc60_108, eq_false hc47_146, eq_false hm2, if_true, if_false] using V144)⟩
  · skip
    have hm1 : ¬ ((1 : Int32) < p2) := own_mono hc47_103 (by decide)
    have hm2 : ¬ ((2 : Int32) < p2) := own_mono hc47_103 (by decide)
    obtain ⟨fs, hr, hrun, hended, hW, hsame⟩ := X101.leave (v := none) (fun _ => rfl)
    refine ⟨_, _, pre102 _ ?_, hrun, hended, _, _, rfl, ?_, ⟨_, rfl⟩, hW, hsame.mono (by decide) (by decide)⟩
    · skip
      show Steps p.tables e below (T101.setTop (mkF m 47 #[.val (.ref a1), .val (.int p2), .val (.ref a3), .val (.int (0 : Int32))] [(.int p2), (.int (0 : Int32))])) _
      refine XS.icmpYes X101.here hx rfl (pc0 := 47) (pc' := 76) rfl (hb hby d4_47) rfl (flt (hc47_103 : ¬ ((0 : Int32) < p2))).2.1 (by decide) (by decide) ?_
      show Steps p.tables e below (T101.setTop (mkF m 76 #[.val (.ref a1), .val (.int p2), .val (.ref a3), .val (.int (0 : Int32))] [])) _
      exact X101.returnOut hx Bd.returns (hb hby d4_76) hr
    · show Q4w Z a1 p2 a3 bb bk ck x0 x1 x2 c0 c1 c2 h0 n0 _ T101.heap _
      rw [e101]
      exact ⟨rfl, N0, (Keep.refl h0 [a3]), (by simpa only [own_e, eq_false hc47_103, eq_false hm1, eq_false hm2, if_true, if_false] using H3)⟩
theorem d5_0 : decode method_3_code 0 = .ok (.iload_n 1, 1) := by decide +kernel
theorem d5_1 : decode method_3_code 1 = .ok (.iload_n 2, 1) := by decide +kernel
theorem d5_2 : decode method_3_code 2 = .ok (.if_icmp .ge 11, 3) := by decide +kernel
theorem d5_5 : decode method_3_code 5 = .ok (.iload_n 3, 1) := by decide +kernel
theorem d5_6 : decode method_3_code 6 = .ok (.ifCond .eq 7, 3) := by decide +kernel
theorem d5_13 : decode method_3_code 13 = .ok (.iload_n 0, 1) := by decide +kernel
theorem d5_14 : decode method_3_code 14 = .ok (.ireturn, 1) := by decide +kernel
theorem d5_9 : decode method_3_code 9 = .ok (.iload_n 0, 1) := by decide +kernel
theorem d5_10 : decode method_3_code 10 = .ok (.iconst 1, 1) := by decide +kernel
theorem d5_11 : decode method_3_code 11 = .ok (.iadd, 1) := by decide +kernel
theorem d5_12 : decode method_3_code 12 = .ok (.ireturn, 1) := by decide +kernel
theorem pn_com_example_plain_ranker_plainranker_data_BinArrayCountNonZeroPinLaw : plainName "com/example/plain_ranker/plainranker/data/BinArrayCountNonZeroPinLaw" = true := by first | (simp [plainName, overriddenIn]; done) | decide +kernel
theorem ef_5 (m : MethodId) (p1 : Int32) (p2 : Int32) (p3 : Int32) (p4 : Int32) : entryFrame m #[(.int p1), (.int p2), (.int p3), (.int p4)] 4 = mkF m 0 #[.val (.int p1), .val (.int p2), .val (.int p3), .val (.int p4)] [] := by first | (simp [entryFrame, mkF, argsToLocals, Value.category]; done) | rfl
def Q5 (Z : State) (p1 : Int32) (p2 : Int32) (p3 : Int32) (p4 : Int32) (h0 : Heap) (n0 : Nat) (v : Option Value) (h : Heap) (L : List Loc) : Prop := v = some (.int (own_x p1 p2 p3 p4)) ∧ Fr n0 L ∧ h = h0
set_option maxRecDepth 65536 in
set_option maxHeartbeats 40000000 in
theorem rm5 (l : Launch) (Z : State) (a0 : Array Value) (hw : ∀ d ∈ tables_1, d.before a0 Z = true) (ws : List Jvm.Cond) (p1 : Int32) (p2 : Int32) (p3 : Int32) (p4 : Int32) (h0 : Heap) (n0 : Nat) (Z0 : n0 ≤ h0.size) :
    MetFree l (⟨"com/example/plain_ranker/plainranker/data/BinArrayCountNonZeroPinLaw", "expect", "(IIII)I"⟩ : MethodName) (head1 (Jvm.Cond.code (⟨"com/example/plain_ranker/plainranker/data/BinArrayCountNonZeroPinLaw", "expect", "(IIII)I"⟩ : MethodName) method_3_code 4 (some .int) :: ws) ({ frames := 0, cells := 0, slots := 0, locals := 0 } : Room)) (fun a U => a = #[(.int p1), (.int p2), (.int p3), (.int p4)] ∧ Z.Warmed39 U.vm ∧ U.heap = h0) (fun _ _ _ _ _ => True) (fun _ U o U' => ∃ v L, o = .returned v ∧ Q5 Z p1 p2 p3 p4 h0 n0 v U'.heap L ∧ FrameEnd U o U' L ({ frames := 0, cells := 0, slots := 0, locals := 0 } : Room).cells ({ frames := 0, cells := 0, slots := 0, locals := 0 } : Room).slots) := by
  refine MetFree.of_bodySF (plainFor_of_name pn_com_example_plain_ranker_plainranker_data_BinArrayCountNonZeroPinLaw) hisR ?_
  intro p e s m args below meth c s₁ Bd hml0 hP hK
  obtain ⟨rfl, hZ, hh⟩ := hP
  have hx := Bd.exec
  have hby := Bd.bytes
  have hml : c.maxLocals = 4 := hml0
  have hown : s.vm.findClass "com/example/plain_ranker/plainranker/data/BinArrayCountNonZeroPinLaw" = some m.cls := findClass_of_methodNamed Bd.named
  have hnm := (name_of_methodNamed Bd.named Bd.method).1
  have X0 : Stand p l e ({ frames := 0, cells := 0, slots := 0, locals := 0 } : Room) s m #[(.int p1), (.int p2), (.int p3), (.int p4)] below meth c s₁ [] 0 0 := Stand.of_body Bd
  have e0 : s₁.heap = h0 := by rw [← hh, Bd.state]; rfl
  have N0 := Fr.nil n0
  have pre0 : ∀ t, Steps p.tables e below (s₁.setTop (mkF m 0 #[.val (.int p1), .val (.int p2), .val (.int p3), .val (.int p4)] [])) t → Steps p.tables e below (s₁.setTop (entryFrame m #[(.int p1), (.int p2), (.int p3), (.int p4)] 4)) t := fun t k => castTop (ef_5 m p1 p2 p3 p4) k
  have pre101 : ∀ t, Steps p.tables e below (s₁.setTop (mkF m 2 #[.val (.int p1), .val (.int p2), .val (.int p3), .val (.int p4)] [(.int p3), (.int p2)])) t → Steps p.tables e below (s₁.setTop (entryFrame m #[(.int p1), (.int p2), (.int p3), (.int p4)] 4)) t := fun t kt => by
    refine pre0 t ?_
    show Steps p.tables e below (s₁.setTop (mkF m 0 #[.val (.int p1), .val (.int p2), .val (.int p3), .val (.int p4)] [])) _
    refine XS.iloadN X0.here hx rfl (hb hby d5_0) rfl ?_
    show Steps p.tables e below (s₁.setTop (mkF m 1 #[.val (.int p1), .val (.int p2), .val (.int p3), .val (.int p4)] [(.int p2)])) _
    refine XS.iloadN X0.here hx rfl (hb hby d5_1) rfl ?_
    show Steps p.tables e below (s₁.setTop (mkF m 2 #[.val (.int p1), .val (.int p2), .val (.int p3), .val (.int p4)] [(.int p3), (.int p2)])) _
    exact kt
  by_cases hc2_102 : p2 < p3
  · skip
    have pre103 : ∀ t, Steps p.tables e below (s₁.setTop (mkF m 6 #[.val (.int p1), .val (.int p2), .val (.int p3), .val (.int p4)] [(.int p4)])) t → Steps p.tables e below (s₁.setTop (entryFrame m #[(.int p1), (.int p2), (.int p3), (.int p4)] 4)) t := fun t kt => by
      refine pre101 t ?_
      show Steps p.tables e below (s₁.setTop (mkF m 2 #[.val (.int p1), .val (.int p2), .val (.int p3), .val (.int p4)] [(.int p3), (.int p2)])) _
      refine XS.icmpNo X0.here hx rfl (hb hby d5_2) rfl (tlt (hc2_102 : p2 < p3)).2.1 ?_
      show Steps p.tables e below (s₁.setTop (mkF m 5 #[.val (.int p1), .val (.int p2), .val (.int p3), .val (.int p4)] [])) _
      refine XS.iloadN X0.here hx rfl (hb hby d5_5) rfl ?_
      show Steps p.tables e below (s₁.setTop (mkF m 6 #[.val (.int p1), .val (.int p2), .val (.int p3), .val (.int p4)] [(.int p4)])) _
      exact kt
    by_cases hc6_104 : p4 = (0 : Int32)
    · skip
      obtain ⟨fs, hr, hrun, hended, hW, hsame⟩ := X0.leave (v := some (.int p1)) (fun h => by rw [Bd.returns] at h; cases h)
      refine ⟨_, _, pre103 _ ?_, hrun, hended, _, _, rfl, ?_, ⟨_, rfl⟩, hW, hsame.mono (by decide) (by decide)⟩
      · skip
        show Steps p.tables e below (s₁.setTop (mkF m 6 #[.val (.int p1), .val (.int p2), .val (.int p3), .val (.int p4)] [(.int p4)])) _
        refine XS.ifYes X0.here hx rfl (pc0 := 6) (pc' := 13) rfl (hb hby d5_6) rfl ((if0 _ _).trans (teq (hc6_104 : p4 = (0 : Int32))).1) (by decide) (by decide) ?_
        show Steps p.tables e below (s₁.setTop (mkF m 13 #[.val (.int p1), .val (.int p2), .val (.int p3), .val (.int p4)] [])) _
        refine XS.iloadN X0.here hx rfl (hb hby d5_13) rfl ?_
        show Steps p.tables e below (s₁.setTop (mkF m 14 #[.val (.int p1), .val (.int p2), .val (.int p3), .val (.int p4)] [(.int p1)])) _
        exact retI X0 hx Bd.returns (hb hby d5_14) hr
      · show Q5 Z p1 p2 p3 p4 h0 n0 _ s₁.heap _
        rw [e0]
        exact ⟨(by simp only [own_x, eq_true hc2_102, eq_true hc6_104, if_true, if_false]), N0, rfl⟩
    · skip
      obtain ⟨fs, hr, hrun, hended, hW, hsame⟩ := X0.leave (v := some (.int (p1 + (1 : Int32)))) (fun h => by rw [Bd.returns] at h; cases h)
      refine ⟨_, _, pre103 _ ?_, hrun, hended, _, _, rfl, ?_, ⟨_, rfl⟩, hW, hsame.mono (by decide) (by decide)⟩
      · skip
        show Steps p.tables e below (s₁.setTop (mkF m 6 #[.val (.int p1), .val (.int p2), .val (.int p3), .val (.int p4)] [(.int p4)])) _
        refine XS.ifNo X0.here hx rfl (hb hby d5_6) rfl ((if0 _ _).trans (feq (hc6_104 : ¬ (p4 = (0 : Int32)))).1) ?_
        show Steps p.tables e below (s₁.setTop (mkF m 9 #[.val (.int p1), .val (.int p2), .val (.int p3), .val (.int p4)] [])) _
        refine XS.iloadN X0.here hx rfl (hb hby d5_9) rfl ?_
        show Steps p.tables e below (s₁.setTop (mkF m 10 #[.val (.int p1), .val (.int p2), .val (.int p3), .val (.int p4)] [(.int p1)])) _
        refine XS.iconst X0.here hx rfl (hb hby d5_10) ?_
        show Steps p.tables e below (s₁.setTop (mkF m 11 #[.val (.int p1), .val (.int p2), .val (.int p3), .val (.int p4)] [(.int (1 : Int32)), (.int p1)])) _
        refine XS.iadd X0.here hx rfl (hb hby d5_11) rfl ?_
        show Steps p.tables e below (s₁.setTop (mkF m 12 #[.val (.int p1), .val (.int p2), .val (.int p3), .val (.int p4)] [(.int (p1 + (1 : Int32)))])) _
        exact retI X0 hx Bd.returns (hb hby d5_12) hr
      · show Q5 Z p1 p2 p3 p4 h0 n0 _ s₁.heap _
        rw [e0]
        exact ⟨(by simp only [own_x, eq_true hc2_102, eq_false hc6_104, if_true, if_false]), N0, rfl⟩
  · skip
    obtain ⟨fs, hr, hrun, hended, hW, hsame⟩ := X0.leave (v := some (.int p1)) (fun h => by rw [Bd.returns] at h; cases h)
    refine ⟨_, _, pre101 _ ?_, hrun, hended, _, _, rfl, ?_, ⟨_, rfl⟩, hW, hsame.mono (by decide) (by decide)⟩
    · skip
      show Steps p.tables e below (s₁.setTop (mkF m 2 #[.val (.int p1), .val (.int p2), .val (.int p3), .val (.int p4)] [(.int p3), (.int p2)])) _
      refine XS.icmpYes X0.here hx rfl (pc0 := 2) (pc' := 13) rfl (hb hby d5_2) rfl (flt (hc2_102 : ¬ (p2 < p3))).2.1 (by decide) (by decide) ?_
      show Steps p.tables e below (s₁.setTop (mkF m 13 #[.val (.int p1), .val (.int p2), .val (.int p3), .val (.int p4)] [])) _
      refine XS.iloadN X0.here hx rfl (hb hby d5_13) rfl ?_
      show Steps p.tables e below (s₁.setTop (mkF m 14 #[.val (.int p1), .val (.int p2), .val (.int p3), .val (.int p4)] [(.int p1)])) _
      exact retI X0 hx Bd.returns (hb hby d5_14) hr
    · show Q5 Z p1 p2 p3 p4 h0 n0 _ s₁.heap _
      rw [e0]
      exact ⟨(by simp only [own_x, eq_false hc2_102, if_true, if_false]), N0, rfl⟩
theorem pd_0 : parseMethodDescriptor "(II)V" = some ⟨[.int, .int], none⟩ := by decide +kernel
theorem pd_1 : parseMethodDescriptor "(I[I)V" = some ⟨[.int, (.array .int)], none⟩ := by decide +kernel
theorem pd_2 : parseMethodDescriptor "(IIII)I" = some ⟨[.int, .int, .int, .int], some .int⟩ := by decide +kernel
theorem ef_0 (m : MethodId) (p1 : Int32) (p2 : Int32) (p3 : Int32) (p4 : Int32) (p5 : Int32) (p6 : Int32) : entryFrame m #[(.int p1), (.int p2), (.int p3), (.int p4), (.int p5), (.int p6)] maxLocals = mkF m 0 #[.val (.int p1), .val (.int p2), .val (.int p3), .val (.int p4), .val (.int p5), .val (.int p6), .unset, .unset, .unset, .unset, .unset, .unset, .unset, .unset, .unset, .unset] [] := by first | (simp [entryFrame, mkF, argsToLocals, Value.category, maxLocals]; done) | rfl
def Q0 (Z : State) (p1 : Int32) (p2 : Int32) (p3 : Int32) (p4 : Int32) (p5 : Int32) (p6 : Int32) (h0 : Heap) (n0 : Nat) (v : Option Value) (h : Heap) (L : List Loc) : Prop := v = some (.int (1 : Int32)) ∧ Fr n0 L
set_option maxRecDepth 65536 in
set_option maxHeartbeats 40000000 in
theorem rm0 (l : Launch) (Z : State) (a0 : Array Value) (hw : ∀ d ∈ tables_1, d.before a0 Z = true) (ws : List Jvm.Cond) (p1 : Int32) (p2 : Int32) (p3 : Int32) (p4 : Int32) (p5 : Int32) (p6 : Int32) (h0 : Heap) (n0 : Nat) (Z0 : n0 ≤ h0.size) :
    MetFree l x (head1 (Jvm.Cond.code x code maxLocals ret :: ws) room_1) (fun a U => a = #[(.int p1), (.int p2), (.int p3), (.int p4), (.int p5), (.int p6)] ∧ Z.Warmed39 U.vm ∧ U.heap = h0) (fun _ _ _ _ _ => True) (fun _ U o U' => ∃ v L, o = .returned v ∧ Q0 Z p1 p2 p3 p4 p5 p6 h0 n0 v U'.heap L ∧ FrameEnd U o U' L room_1.cells room_1.slots) := by
  refine MetFree.of_bodySF (plainFor_of_name pn_com_example_plain_ranker_plainranker_data_BinArrayCountNonZeroPinLaw) hisR ?_
  intro p e s m args below meth c s₁ Bd hml0 hP hK
  obtain ⟨rfl, hZ, hh⟩ := hP
  have hx := Bd.exec
  have hby := Bd.bytes
  have hml : c.maxLocals = 16 := hml0
  have hown : s.vm.findClass "com/example/plain_ranker/plainranker/data/BinArrayCountNonZeroPinLaw" = some m.cls := findClass_of_methodNamed Bd.named
  have hnm := (name_of_methodNamed Bd.named Bd.method).1
  have X0 : Stand p l e room_1 s m #[(.int p1), (.int p2), (.int p3), (.int p4), (.int p5), (.int p6)] below meth c s₁ [] 0 0 := Stand.of_body Bd
  have e0 : s₁.heap = h0 := by rw [← hh, Bd.state]; rfl
  have N0 := Fr.nil n0
  have pre0 : ∀ t, Steps p.tables e below (s₁.setTop (mkF m 0 #[.val (.int p1), .val (.int p2), .val (.int p3), .val (.int p4), .val (.int p5), .val (.int p6), .unset, .unset, .unset, .unset, .unset, .unset, .unset, .unset, .unset, .unset] [])) t → Steps p.tables e below (s₁.setTop (entryFrame m #[(.int p1), (.int p2), (.int p3), (.int p4), (.int p5), (.int p6)] maxLocals)) t := fun t k => castTop (ef_0 m p1 p2 p3 p4 p5 p6) k
  have pre101 : ∀ t, Steps p.tables e below (s₁.setTop (mkF m 3 #[.val (.int p1), .val (.int p2), .val (.int p3), .val (.int p4), .val (.int p5), .val (.int p6), .unset, .unset, .unset, .unset, .unset, .unset, .unset, .unset, .unset, .unset] [(.int (p1 &&& (1 : Int32)))])) t → Steps p.tables e below (s₁.setTop (entryFrame m #[(.int p1), (.int p2), (.int p3), (.int p4), (.int p5), (.int p6)] maxLocals)) t := fun t kt => by
    refine pre0 t ?_
    show Steps p.tables e below (s₁.setTop (mkF m 0 #[.val (.int p1), .val (.int p2), .val (.int p3), .val (.int p4), .val (.int p5), .val (.int p6), .unset, .unset, .unset, .unset, .unset, .unset, .unset, .unset, .unset, .unset] [])) _
    refine XS.iloadN X0.here hx rfl (hb hby at_0) rfl ?_
    show Steps p.tables e below (s₁.setTop (mkF m 1 #[.val (.int p1), .val (.int p2), .val (.int p3), .val (.int p4), .val (.int p5), .val (.int p6), .unset, .unset, .unset, .unset, .unset, .unset, .unset, .unset, .unset, .unset] [(.int p1)])) _
    refine XS.iconst X0.here hx rfl (hb hby at_1) ?_
    show Steps p.tables e below (s₁.setTop (mkF m 2 #[.val (.int p1), .val (.int p2), .val (.int p3), .val (.int p4), .val (.int p5), .val (.int p6), .unset, .unset, .unset, .unset, .unset, .unset, .unset, .unset, .unset, .unset] [(.int (1 : Int32)), (.int p1)])) _
    refine XS.iand X0.here hx rfl (hb hby at_2) rfl ?_
    show Steps p.tables e below (s₁.setTop (mkF m 3 #[.val (.int p1), .val (.int p2), .val (.int p3), .val (.int p4), .val (.int p5), .val (.int p6), .unset, .unset, .unset, .unset, .unset, .unset, .unset, .unset, .unset, .unset] [(.int (p1 &&& (1 : Int32)))])) _
    exact kt
  by_cases hc3_102 : (p1 &&& (1 : Int32)) = (0 : Int32)
  · skip
    obtain ⟨T103, h103, k103, X103, e103, E103, A103, Qe103, st103⟩ := newPE X0 hx hZ (hw _ (List.mem_of_getElem? (i := 3) rfl)) e0 (g := (mkF m 86 #[.val (.int p1), .val (.int p2), .val (.int p3), .val (.int p4), .val (.int p5), .val (.int p6), .val (.int (0 : Int32)), .val (.int ((p1.toUInt32 >>> ((1 : Int32) &&& 31).toUInt32).toInt32)), .val (.int ((256 : Int32) + (((p1.toUInt32 >>> ((1 : Int32) &&& 31).toUInt32).toInt32) % (65280 : Int32)))), .val (.int (65535 : Int32)), .val (.int (p2 &&& (65535 : Int32))), .val (.int (p3 &&& (65535 : Int32))), .val (.int (p4 &&& (65535 : Int32))), .val (.int ((p5 &&& (2147483647 : Int32)) % (4 : Int32))), .unset, .unset] [(.int (3 : Int32))])) rfl (hb hby at_86) rfl (by decide) (cap := 3) (by decide) (by decide) (by decide) (by decide) (ad := "[I") (by decide)
    obtain ⟨b103, g103⟩ : ∃ z, z = h0.size := ⟨_, rfl⟩
    rw [← g103] at A103 Qe103 st103
    have V103 : Arv Z h103 b103 k103 .int (3 : Int32) [(.int (0 : Int32)), (.int (0 : Int32)), (.int (0 : Int32))] (.int (0 : Int32)) := (Arv.new A103 (by decide)).pad (pad_rep [] (.int (0 : Int32)) 3)
    obtain ⟨cl104, Ar104, qc104, S104, M104, Hh104, G104⟩ := id V103
    have hin104 : ¬ ((0 : Int32) < 0 ∨ cl104.slots.size ≤ ((0 : Int32)).toNatClampNeg) := inb_of S104 ⟨by decide, by decide⟩
    obtain ⟨T104, h104, X104, e104, W104, st104⟩ := stI X103 hx hZ e103 Ar104 (j := (0 : Int32)) hin104 (g := (mkF m 95 #[.val (.int p1), .val (.int p2), .val (.int p3), .val (.int p4), .val (.int p5), .val (.int p6), .val (.int (0 : Int32)), .val (.int ((p1.toUInt32 >>> ((1 : Int32) &&& 31).toUInt32).toInt32)), .val (.int ((256 : Int32) + (((p1.toUInt32 >>> ((1 : Int32) &&& 31).toUInt32).toInt32) % (65280 : Int32)))), .val (.int (65535 : Int32)), .val (.int (p2 &&& (65535 : Int32))), .val (.int (p3 &&& (65535 : Int32))), .val (.int (p4 &&& (65535 : Int32))), .val (.int ((p5 &&& (2147483647 : Int32)) % (4 : Int32))), .val (.ref b103), .unset] [(.int p6), (.int (0 : Int32)), (.ref b103)])) rfl rfl (hb hby at_95)
    have V104 : Arv Z h104 b103 k103 .int (3 : Int32) [(.int p6), (.int (0 : Int32)), (.int (0 : Int32))] (.int (0 : Int32)) := Arv.set Ar104 qc104 S104 M104 Hh104 G104 rfl W104 0 rfl (by first | decide | (simp; done))
    have g105 : n0 ≤ b103 := Nat.le_trans Z0 (Nat.le_of_eq g103.symm)
    have N104 := Fr.snoc X104 N0 g105
    obtain ⟨cl106, Ar106, qc106, S106, M106, Hh106, G106⟩ := id V104
    have hin106 : ¬ ((1 : Int32) < 0 ∨ cl106.slots.size ≤ ((1 : Int32)).toNatClampNeg) := inb_of S106 ⟨by decide, by decide⟩
    obtain ⟨T106, h106, X106, e106, W106, st106⟩ := stI X104 hx hZ e104 Ar106 (j := (1 : Int32)) hin106 (g := (mkF m 104 #[.val (.int p1), .val (.int p2), .val (.int p3), .val (.int p4), .val (.int p5), .val (.int p6), .val (.int (0 : Int32)), .val (.int ((p1.toUInt32 >>> ((1 : Int32) &&& 31).toUInt32).toInt32)), .val (.int ((256 : Int32) + (((p1.toUInt32 >>> ((1 : Int32) &&& 31).toUInt32).toInt32) % (65280 : Int32)))), .val (.int (65535 : Int32)), .val (.int (p2 &&& (65535 : Int32))), .val (.int (p3 &&& (65535 : Int32))), .val (.int (p4 &&& (65535 : Int32))), .val (.int ((p5 &&& (2147483647 : Int32)) % (4 : Int32))), .val (.ref b103), .unset] [(.int (p6 ^^^ (42 : Int32))), (.int (1 : Int32)), (.ref b103)])) rfl rfl (hb hby at_104)
    have V106 : Arv Z h106 b103 k103 .int (3 : Int32) [(.int p6), (.int (p6 ^^^ (42 : Int32))), (.int (0 : Int32))] (.int (0 : Int32)) := Arv.set Ar106 qc106 S106 M106 Hh106 G106 rfl W106 1 rfl (by first | decide | (simp; done))
    have N106 := Fr.snoc X106 N104 g105
    obtain ⟨cl107, Ar107, qc107, S107, M107, Hh107, G107⟩ := id V106
    have hin107 : ¬ ((2 : Int32) < 0 ∨ cl107.slots.size ≤ ((2 : Int32)).toNatClampNeg) := inb_of S107 ⟨by decide, by decide⟩
    obtain ⟨T107, h107, X107, e107, W107, st107⟩ := stI X106 hx hZ e106 Ar107 (j := (2 : Int32)) hin107 (g := (mkF m 112 #[.val (.int p1), .val (.int p2), .val (.int p3), .val (.int p4), .val (.int p5), .val (.int p6), .val (.int (0 : Int32)), .val (.int ((p1.toUInt32 >>> ((1 : Int32) &&& 31).toUInt32).toInt32)), .val (.int ((256 : Int32) + (((p1.toUInt32 >>> ((1 : Int32) &&& 31).toUInt32).toInt32) % (65280 : Int32)))), .val (.int (65535 : Int32)), .val (.int (p2 &&& (65535 : Int32))), .val (.int (p3 &&& (65535 : Int32))), .val (.int (p4 &&& (65535 : Int32))), .val (.int ((p5 &&& (2147483647 : Int32)) % (4 : Int32))), .val (.ref b103), .unset] [(.int (p6 ^^^ (-1 : Int32))), (.int (2 : Int32)), (.ref b103)])) rfl rfl (hb hby at_112)
    have V107 : Arv Z h107 b103 k103 .int (3 : Int32) [(.int p6), (.int (p6 ^^^ (42 : Int32))), (.int (p6 ^^^ (-1 : Int32)))] (.int (0 : Int32)) := Arv.set Ar107 qc107 S107 M107 Hh107 G107 rfl W107 2 rfl (by first | decide | (simp; done))
    have N107 := Fr.snoc X107 N106 g105
    obtain ⟨T108, h108, X108, e108, E108, A108, D108, -, st108⟩ := newO X107 hx hZ hown (hw _ (List.mem_of_getElem? (i := 4) rfl)) (hw _ (List.mem_of_getElem? (i := 5) rfl)) (hw _ (List.mem_of_getElem? (i := 6) rfl)) e107 (g := (mkF m 113 #[.val (.int p1), .val (.int p2), .val (.int p3), .val (.int p4), .val (.int p5), .val (.int p6), .val (.int (0 : Int32)), .val (.int ((p1.toUInt32 >>> ((1 : Int32) &&& 31).toUInt32).toInt32)), .val (.int ((256 : Int32) + (((p1.toUInt32 >>> ((1 : Int32) &&& 31).toUInt32).toInt32) % (65280 : Int32)))), .val (.int (65535 : Int32)), .val (.int (p2 &&& (65535 : Int32))), .val (.int (p3 &&& (65535 : Int32))), .val (.int (p4 &&& (65535 : Int32))), .val (.int ((p5 &&& (2147483647 : Int32)) % (4 : Int32))), .val (.ref b103), .unset] [])) rfl (hb hby at_113) (by decide) (by decide)
    obtain ⟨b108, g108⟩ : ∃ z, z = h107.size := ⟨_, rfl⟩
    rw [← g108] at A108 D108 st108
    have F109 : Fld Z h108 b108 "com/example/plain_ranker/plainranker/data/BinArray" "bytes" "[B" .null := D108 (Or.inr (hw _ (List.mem_of_getElem? (i := 14) rfl))) (ty := (.array .byte)) (by decide)
    have F110 : Fld Z h108 b108 "com/example/plain_ranker/plainranker/data/BinArray" "chars" "[C" .null := D108 (Or.inr (hw _ (List.mem_of_getElem? (i := 18) rfl))) (ty := (.array .char)) (by decide)
    have F111 : Fld Z h108 b108 "com/example/plain_ranker/plainranker/data/BinArray" "ints" "[I" .null := D108 (Or.inr (hw _ (List.mem_of_getElem? (i := 20) rfl))) (ty := (.array .int)) (by decide)
    have g112 : n0 ≤ b108 := Nat.le_trans (Nat.le_trans (Nat.le_trans (Nat.le_trans (Nat.le_trans Z0 E103.1) (Nat.le_of_eq W104.size.symm)) (Nat.le_of_eq W106.size.symm)) (Nat.le_of_eq W107.size.symm)) (Nat.le_of_eq g108.symm)
    have z114 : n0 ≤ h108.size := (Nat.le_trans (Nat.le_trans (Nat.le_trans (Nat.le_trans (Nat.le_trans Z0 E103.1) (Nat.le_of_eq W104.size.symm)) (Nat.le_of_eq W106.size.symm)) (Nat.le_of_eq W107.size.symm)) E108.1)
    obtain ⟨_, _, ⟨T113, L113, k113, n113⟩, -, X113, ⟨Lc113, hQ113, l113, y113, z113⟩, st113⟩ := X108.specialBack hx (y := (⟨"com/example/plain_ranker/plainranker/data/BinArray", "<init>", "(II)V"⟩ : MethodName)) rfl hown (mvT hZ (hw _ (List.mem_of_getElem? (i := 7) rfl))) (mvT hZ (hw _ (List.mem_of_getElem? (i := 8) rfl))) (mvT hZ (hw _ (List.mem_of_getElem? (i := 9) rfl))) (by decide) (backOf (W := 1) (rm1w l Z a0 hw [] b108 ((256 : Int32) + (((p1.toUInt32 >>> ((1 : Int32) &&& 31).toUInt32).toInt32) % (65280 : Int32))) .null .null .null h108 n0 z114 A108 F109 F110 F111 g112 ((own_big _).1) ((own_big _).2)) hZ (hw _ (List.mem_of_getElem? (i := 9) rfl)) (hw _ (List.mem_of_getElem? (i := 6) rfl)) (by decide) (by decide)) (g := (mkF m 120 #[.val (.int p1), .val (.int p2), .val (.int p3), .val (.int p4), .val (.int p5), .val (.int p6), .val (.int (0 : Int32)), .val (.int ((p1.toUInt32 >>> ((1 : Int32) &&& 31).toUInt32).toInt32)), .val (.int ((256 : Int32) + (((p1.toUInt32 >>> ((1 : Int32) &&& 31).toUInt32).toInt32) % (65280 : Int32)))), .val (.int (65535 : Int32)), .val (.int (p2 &&& (65535 : Int32))), .val (.int (p3 &&& (65535 : Int32))), .val (.int (p4 &&& (65535 : Int32))), .val (.int ((p5 &&& (2147483647 : Int32)) % (4 : Int32))), .val (.ref b103), .unset] [(.int ((256 : Int32) + (((p1.toUInt32 >>> ((1 : Int32) &&& 31).toUInt32).toInt32) % (65280 : Int32)))), (.int (3 : Int32)), (.ref b108), (.ref b108)])) rfl (by rw [hml]; rfl) (Steps.refl _) (a := b108) (argsL := [(.int (3 : Int32)), (.int ((256 : Int32) + (((p1.toUInt32 >>> ((1 : Int32) &&& 31).toUInt32).toInt32) % (65280 : Int32))))]) (rest := [(.ref b108)]) (lenOf pd_0 rfl) rfl (by show 2 * 0 + _ ≤ _; exact Nat.le_of_eq rfl) (hb hby at_120) (fun _ _ => ⟨rfl, e108, (by decide : 2 + 1 ≤ _), (by decide : 6 + 3 ≤ _)⟩)
    dsimp only [Pt.U, Pt.locs, Pt.cells, Pt.slots] at X113 l113 y113 z113 st113 hQ113
    subst l113 y113 z113
    obtain ⟨bb113, bk113, rfl, Nq113, K113, R113_1, R113_2, R113_3, R113_4, R113_5⟩ := hQ113
    have N113 := Fr.app N107 Nq113
    have g115 : n0 ≤ bb113 := Nat.le_trans z114 R113_4
    have f116 : Exa Z T113.heap b108 "com/example/plain_ranker/plainranker/data/BinArray" := (A108.keep K113)
    have z118 : n0 ≤ T113.heap.size := (Nat.le_trans z114 K113.1)
    obtain ⟨cq117, kq117, q117a, q117b, q117c⟩ := isOf hZ rfl f116
    obtain ⟨_, _, ⟨T117, L117, k117, n117⟩, -, X117, ⟨Lc117, hQ117, l117, y117, z117⟩, st117⟩ := X113.virtualBack hx (y := (⟨"com/example/plain_ranker/plainranker/data/BinArray", "set", "(II)V"⟩ : MethodName)) (z := (⟨"com/example/plain_ranker/plainranker/data/BinArray", "set", "(II)V"⟩ : MethodName)) hown (mvT hZ (hw _ (List.mem_of_getElem? (i := 21) rfl))) (mvT hZ (hw _ (List.mem_of_getElem? (i := 22) rfl))) (notFace_of_selects (args := #[]) (mvT hZ (hw _ (List.mem_of_getElem? (i := 24) rfl)))) (mvT hZ (hw _ (List.mem_of_getElem? (i := 24) rfl))) (mvT hZ (hw _ (List.mem_of_getElem? (i := 23) rfl))) (by decide) (backOf (W := 0) (rm3w0 l Z a0 hw [] b108 (p2 &&& (65535 : Int32)) bb113 bk113 (0 : Int32) (0 : Int32) (0 : Int32) T113.heap n0 z118 R113_1 R113_2 R113_5 g115 f116) hZ (hw _ (List.mem_of_getElem? (i := 25) rfl)) (hw _ (List.mem_of_getElem? (i := 6) rfl)) (by decide) (by decide)) q117a q117c (g := (mkF m 130 #[.val (.int p1), .val (.int p2), .val (.int p3), .val (.int p4), .val (.int p5), .val (.int p6), .val (.int (0 : Int32)), .val (.int ((p1.toUInt32 >>> ((1 : Int32) &&& 31).toUInt32).toInt32)), .val (.int ((256 : Int32) + (((p1.toUInt32 >>> ((1 : Int32) &&& 31).toUInt32).toInt32) % (65280 : Int32)))), .val (.int (65535 : Int32)), .val (.int (p2 &&& (65535 : Int32))), .val (.int (p3 &&& (65535 : Int32))), .val (.int (p4 &&& (65535 : Int32))), .val (.int ((p5 &&& (2147483647 : Int32)) % (4 : Int32))), .val (.ref b103), .val (.ref b108)] [(.int (p2 &&& (65535 : Int32))), (.int (0 : Int32)), (.ref b108)])) rfl (by rw [hml]; rfl) (Steps.refl _) (argsL := [(.int (0 : Int32)), (.int (p2 &&& (65535 : Int32)))]) (rest := []) (lenOf pd_0 rfl) rfl (by show 2 * 0 + _ ≤ _; exact Nat.le_of_eq rfl) (hb hby at_130) (fun _ _ => ⟨rfl, rfl, (by decide : 3 + 0 ≤ _), (by decide : 9 + 0 ≤ _)⟩)
    dsimp only [Pt.U, Pt.locs, Pt.cells, Pt.slots] at X117 l117 y117 z117 st117 hQ117
    subst l117 y117 z117
    obtain ⟨rfl, Nq117, K117, R117_1⟩ := hQ117
    have N117 := Fr.app N113 Nq117
    have ne119 : b108 ≠ bb113 := (Nat.ne_of_lt (Nat.lt_of_lt_of_le A108.lt R113_4))
    have f120 : Fld Z T117.heap b108 "com/example/plain_ranker/plainranker/data/BinArray" "bytes" "[B" .null := (R113_1.keep K117 (ninS ne119 nin0))
    have f121 : Fld Z T117.heap b108 "com/example/plain_ranker/plainranker/data/BinArray" "chars" "[C" (.ref bb113) := (R113_2.keep K117 (ninS ne119 nin0))
    have f122 : Exa Z T117.heap b108 "com/example/plain_ranker/plainranker/data/BinArray" := (f116.keep K117)
    have z124 : n0 ≤ T117.heap.size := (Nat.le_trans z118 K117.1)
    obtain ⟨cq123, kq123, q123a, q123b, q123c⟩ := isOf hZ rfl f122
    obtain ⟨_, _, ⟨T123, L123, k123, n123⟩, -, X123, ⟨Lc123, hQ123, l123, y123, z123⟩, st123⟩ := X117.virtualBack hx (y := (⟨"com/example/plain_ranker/plainranker/data/BinArray", "set", "(II)V"⟩ : MethodName)) (z := (⟨"com/example/plain_ranker/plainranker/data/BinArray", "set", "(II)V"⟩ : MethodName)) hown (mvT hZ (hw _ (List.mem_of_getElem? (i := 21) rfl))) (mvT hZ (hw _ (List.mem_of_getElem? (i := 22) rfl))) (notFace_of_selects (args := #[]) (mvT hZ (hw _ (List.mem_of_getElem? (i := 24) rfl)))) (mvT hZ (hw _ (List.mem_of_getElem? (i := 24) rfl))) (mvT hZ (hw _ (List.mem_of_getElem? (i := 23) rfl))) (by decide) (backOf (W := 0) (rm3w1 l Z a0 hw [] b108 (p3 &&& (65535 : Int32)) bb113 bk113 (nar .char ((p2 &&& (65535 : Int32)).toUInt32.toUInt16.toUInt32.toInt32)) (0 : Int32) (0 : Int32) T117.heap n0 z124 f120 f121 R117_1 g115 f122) hZ (hw _ (List.mem_of_getElem? (i := 25) rfl)) (hw _ (List.mem_of_getElem? (i := 6) rfl)) (by decide) (by decide)) q123a q123c (g := (mkF m 138 #[.val (.int p1), .val (.int p2), .val (.int p3), .val (.int p4), .val (.int p5), .val (.int p6), .val (.int (0 : Int32)), .val (.int ((p1.toUInt32 >>> ((1 : Int32) &&& 31).toUInt32).toInt32)), .val (.int ((256 : Int32) + (((p1.toUInt32 >>> ((1 : Int32) &&& 31).toUInt32).toInt32) % (65280 : Int32)))), .val (.int (65535 : Int32)), .val (.int (p2 &&& (65535 : Int32))), .val (.int (p3 &&& (65535 : Int32))), .val (.int (p4 &&& (65535 : Int32))), .val (.int ((p5 &&& (2147483647 : Int32)) % (4 : Int32))), .val (.ref b103), .val (.ref b108)] [(.int (p3 &&& (65535 : Int32))), (.int (1 : Int32)), (.ref b108)])) rfl (by rw [hml]; rfl) (Steps.refl _) (argsL := [(.int (1 : Int32)), (.int (p3 &&& (65535 : Int32)))]) (rest := []) (lenOf pd_0 rfl) rfl (by show 2 * 0 + _ ≤ _; exact Nat.le_of_eq rfl) (hb hby at_138) (fun _ _ => ⟨rfl, rfl, (by decide : 3 + 0 ≤ _), (by decide : 9 + 0 ≤ _)⟩)
    dsimp only [Pt.U, Pt.locs, Pt.cells, Pt.slots] at X123 l123 y123 z123 st123 hQ123
    subst l123 y123 z123
    obtain ⟨rfl, Nq123, K123, R123_1⟩ := hQ123
    have N123 := Fr.app N117 Nq123
    have f125 : Fld Z T123.heap b108 "com/example/plain_ranker/plainranker/data/BinArray" "bytes" "[B" .null := (f120.keep K123 (ninS ne119 nin0))
    have f126 : Fld Z T123.heap b108 "com/example/plain_ranker/plainranker/data/BinArray" "chars" "[C" (.ref bb113) := (f121.keep K123 (ninS ne119 nin0))
    have f127 : Exa Z T123.heap b108 "com/example/plain_ranker/plainranker/data/BinArray" := (f122.keep K123)
    have z129 : n0 ≤ T123.heap.size := (Nat.le_trans z124 K123.1)
    obtain ⟨cq128, kq128, q128a, q128b, q128c⟩ := isOf hZ rfl f127
    obtain ⟨_, _, ⟨T128, L128, k128, n128⟩, -, X128, ⟨Lc128, hQ128, l128, y128, z128⟩, st128⟩ := X123.virtualBack hx (y := (⟨"com/example/plain_ranker/plainranker/data/BinArray", "set", "(II)V"⟩ : MethodName)) (z := (⟨"com/example/plain_ranker/plainranker/data/BinArray", "set", "(II)V"⟩ : MethodName)) hown (mvT hZ (hw _ (List.mem_of_getElem? (i := 21) rfl))) (mvT hZ (hw _ (List.mem_of_getElem? (i := 22) rfl))) (notFace_of_selects (args := #[]) (mvT hZ (hw _ (List.mem_of_getElem? (i := 24) rfl)))) (mvT hZ (hw _ (List.mem_of_getElem? (i := 24) rfl))) (mvT hZ (hw _ (List.mem_of_getElem? (i := 23) rfl))) (by decide) (backOf (W := 0) (rm3w2 l Z a0 hw [] b108 (p4 &&& (65535 : Int32)) bb113 bk113 (nar .char ((p2 &&& (65535 : Int32)).toUInt32.toUInt16.toUInt32.toInt32)) (nar .char ((p3 &&& (65535 : Int32)).toUInt32.toUInt16.toUInt32.toInt32)) (0 : Int32) T123.heap n0 z129 f125 f126 R123_1 g115 f127) hZ (hw _ (List.mem_of_getElem? (i := 25) rfl)) (hw _ (List.mem_of_getElem? (i := 6) rfl)) (by decide) (by decide)) q128a q128c (g := (mkF m 146 #[.val (.int p1), .val (.int p2), .val (.int p3), .val (.int p4), .val (.int p5), .val (.int p6), .val (.int (0 : Int32)), .val (.int ((p1.toUInt32 >>> ((1 : Int32) &&& 31).toUInt32).toInt32)), .val (.int ((256 : Int32) + (((p1.toUInt32 >>> ((1 : Int32) &&& 31).toUInt32).toInt32) % (65280 : Int32)))), .val (.int (65535 : Int32)), .val (.int (p2 &&& (65535 : Int32))), .val (.int (p3 &&& (65535 : Int32))), .val (.int (p4 &&& (65535 : Int32))), .val (.int ((p5 &&& (2147483647 : Int32)) % (4 : Int32))), .val (.ref b103), .val (.ref b108)] [(.int (p4 &&& (65535 : Int32))), (.int (2 : Int32)), (.ref b108)])) rfl (by rw [hml]; rfl) (Steps.refl _) (argsL := [(.int (2 : Int32)), (.int (p4 &&& (65535 : Int32)))]) (rest := []) (lenOf pd_0 rfl) rfl (by show 2 * 0 + _ ≤ _; exact Nat.le_of_eq rfl) (hb hby at_146) (fun _ _ => ⟨rfl, rfl, (by decide : 3 + 0 ≤ _), (by decide : 9 + 0 ≤ _)⟩)
    dsimp only [Pt.U, Pt.locs, Pt.cells, Pt.slots] at X128 l128 y128 z128 st128 hQ128
    subst l128 y128 z128
    obtain ⟨rfl, Nq128, K128, R128_1⟩ := hQ128
    have N128 := Fr.app N123 Nq128
    have f130 : Fld Z T128.heap b108 "com/example/plain_ranker/plainranker/data/BinArray" "bytes" "[B" .null := (f125.keep K128 (ninS ne119 nin0))
    have f131 : Fld Z T128.heap b108 "com/example/plain_ranker/plainranker/data/BinArray" "chars" "[C" (.ref bb113) := (f126.keep K128 (ninS ne119 nin0))
    have ne132 : b103 ≠ b108 := (Nat.ne_of_lt (Nat.lt_of_lt_of_le (((Qe103.wr W104).wr W106).wr W107).lt (Nat.le_of_eq g108.symm)))
    have ne133 : b103 ≠ bb113 := (Nat.ne_of_lt (Nat.lt_of_lt_of_le ((((Qe103.wr W104).wr W106).wr W107).ext E108).lt R113_4))
    have f134 : Arv Z T128.heap b103 k103 .int (3 : Int32) [(.int p6), (.int (p6 ^^^ (42 : Int32))), (.int (p6 ^^^ (-1 : Int32)))] (.int (0 : Int32)) := (((((V107.ext E108).keep K113 (ninS ne132 nin0)).keep K117 (ninS ne133 nin0)).keep K123 (ninS ne133 nin0)).keep K128 (ninS ne133 nin0))
    have f135 : Exa Z T128.heap b108 "com/example/plain_ranker/plainranker/data/BinArray" := (f127.keep K128)
    have z137 : n0 ≤ T128.heap.size := (Nat.le_trans z129 K128.1)
    obtain ⟨cq136, kq136, q136a, q136b, q136c⟩ := isOf hZ rfl f135
    obtain ⟨_, _, ⟨T136, L136, k136, n136⟩, -, X136, ⟨Lc136, hQ136, l136, y136, z136⟩, st136⟩ := X128.virtualBack hx (y := (⟨"com/example/plain_ranker/plainranker/data/BinArray", "countNonZero", "(I[I)V"⟩ : MethodName)) (z := (⟨"com/example/plain_ranker/plainranker/data/BinArray", "countNonZero", "(I[I)V"⟩ : MethodName)) hown (mvT hZ (hw _ (List.mem_of_getElem? (i := 26) rfl))) (mvT hZ (hw _ (List.mem_of_getElem? (i := 27) rfl))) (notFace_of_selects (args := #[]) (mvT hZ (hw _ (List.mem_of_getElem? (i := 29) rfl)))) (mvT hZ (hw _ (List.mem_of_getElem? (i := 29) rfl))) (mvT hZ (hw _ (List.mem_of_getElem? (i := 28) rfl))) (by decide) (backOf (W := 0) (rm4w l Z a0 hw [] b108 ((p5 &&& (2147483647 : Int32)) % (4 : Int32)) b103 bb113 bk113 k103 (nar .char ((p2 &&& (65535 : Int32)).toUInt32.toUInt16.toUInt32.toInt32)) (nar .char ((p3 &&& (65535 : Int32)).toUInt32.toUInt16.toUInt32.toInt32)) (nar .char ((p4 &&& (65535 : Int32)).toUInt32.toUInt16.toUInt32.toInt32)) p6 (p6 ^^^ (42 : Int32)) (p6 ^^^ (-1 : Int32)) T128.heap n0 z137 f130 f131 R128_1 f134 g105 (Ne.symm ne133) f135 (own_t _)) hZ (hw _ (List.mem_of_getElem? (i := 30) rfl)) (hw _ (List.mem_of_getElem? (i := 6) rfl)) (by decide) (by decide)) q136a q136c (g := (mkF m 155 #[.val (.int p1), .val (.int p2), .val (.int p3), .val (.int p4), .val (.int p5), .val (.int p6), .val (.int (0 : Int32)), .val (.int ((p1.toUInt32 >>> ((1 : Int32) &&& 31).toUInt32).toInt32)), .val (.int ((256 : Int32) + (((p1.toUInt32 >>> ((1 : Int32) &&& 31).toUInt32).toInt32) % (65280 : Int32)))), .val (.int (65535 : Int32)), .val (.int (p2 &&& (65535 : Int32))), .val (.int (p3 &&& (65535 : Int32))), .val (.int (p4 &&& (65535 : Int32))), .val (.int ((p5 &&& (2147483647 : Int32)) % (4 : Int32))), .val (.ref b103), .val (.ref b108)] [(.ref b103), (.int ((p5 &&& (2147483647 : Int32)) % (4 : Int32))), (.ref b108)])) rfl (by rw [hml]; rfl) (Steps.refl _) (argsL := [(.int ((p5 &&& (2147483647 : Int32)) % (4 : Int32))), (.ref b103)]) (rest := []) (lenOf pd_1 rfl) rfl (by show 2 * 0 + _ ≤ _; exact Nat.le_of_eq rfl) (hb hby at_155) (fun _ _ => ⟨rfl, rfl, (by decide : 3 + 0 ≤ _), (by decide : 9 + 0 ≤ _)⟩)
    dsimp only [Pt.U, Pt.locs, Pt.cells, Pt.slots] at X136 l136 y136 z136 st136 hQ136
    subst l136 y136 z136
    obtain ⟨rfl, Nq136, K136, R136_1⟩ := hQ136
    have N136 := Fr.app N128 Nq136
    obtain ⟨cl138, Ar138, qc138, S138, M138, Hh138, G138⟩ := id R136_1
    have hin138 : ¬ ((0 : Int32) < 0 ∨ cl138.slots.size ≤ ((0 : Int32)).toNatClampNeg) := inb_of S138 ⟨by decide, by decide⟩
    have z140 : n0 ≤ T136.heap.size := (Nat.le_trans z137 K136.1)
    obtain ⟨_, _, ⟨T139, L139, k139, n139⟩, -, X139, ⟨Lc139, hQ139, l139, y139, z139⟩, st139⟩ := Jvm.LawKit.callS X136 hx (y := (⟨"com/example/plain_ranker/plainranker/data/BinArrayCountNonZeroPinLaw", "expect", "(IIII)I"⟩ : MethodName)) hown (mvT hZ (hw _ (List.mem_of_getElem? (i := 31) rfl))) (mvT hZ (hw _ (List.mem_of_getElem? (i := 32) rfl))) (mvT hZ (hw _ (List.mem_of_getElem? (i := 33) rfl))) (mvT hZ (hw _ (List.mem_of_getElem? (i := 34) rfl))) (by decide) (backOf (W := 1) (rm5 l Z a0 hw [] p6 (0 : Int32) ((p5 &&& (2147483647 : Int32)) % (4 : Int32)) (p2 &&& (65535 : Int32)) T136.heap n0 z140) hZ (hw _ (List.mem_of_getElem? (i := 34) rfl)) (hw _ (List.mem_of_getElem? (i := 33) rfl)) (by decide) (by decide)) (g := (mkF m 169 #[.val (.int p1), .val (.int p2), .val (.int p3), .val (.int p4), .val (.int p5), .val (.int p6), .val (.int (0 : Int32)), .val (.int ((p1.toUInt32 >>> ((1 : Int32) &&& 31).toUInt32).toInt32)), .val (.int ((256 : Int32) + (((p1.toUInt32 >>> ((1 : Int32) &&& 31).toUInt32).toInt32) % (65280 : Int32)))), .val (.int (65535 : Int32)), .val (.int (p2 &&& (65535 : Int32))), .val (.int (p3 &&& (65535 : Int32))), .val (.int (p4 &&& (65535 : Int32))), .val (.int ((p5 &&& (2147483647 : Int32)) % (4 : Int32))), .val (.ref b103), .val (.ref b108)] [(.int (p2 &&& (65535 : Int32))), (.int ((p5 &&& (2147483647 : Int32)) % (4 : Int32))), (.int (0 : Int32)), (.int p6), (.int (own_e p6 (0 : Int32) ((p5 &&& (2147483647 : Int32)) % (4 : Int32)) (nar .char ((p2 &&& (65535 : Int32)).toUInt32.toUInt16.toUInt32.toInt32))))])) rfl (by rw [hml]; rfl) (argsL := [(.int p6), (.int (0 : Int32)), (.int ((p5 &&& (2147483647 : Int32)) % (4 : Int32))), (.int (p2 &&& (65535 : Int32)))]) (rest := [(.int (own_e p6 (0 : Int32) ((p5 &&& (2147483647 : Int32)) % (4 : Int32)) (nar .char ((p2 &&& (65535 : Int32)).toUInt32.toUInt16.toUInt32.toInt32))))]) (lenOf pd_2 rfl) rfl (by show 2 * 0 + _ ≤ _; exact Nat.le_of_eq rfl) (hb hby at_169) (fun _ _ => ⟨rfl, rfl, (by decide : 3 + 0 ≤ _), (by decide : 9 + 0 ≤ _)⟩)
    dsimp only [Pt.U, Pt.locs, Pt.cells, Pt.slots] at X139 l139 y139 z139 st139 hQ139
    subst l139 y139 z139
    obtain ⟨rfl, Nq139, Heq139⟩ := hQ139
    have N139 := Fr.app N136 Nq139
    obtain ⟨cl141, Ar141, qc141, S141, M141, Hh141, G141⟩ := id R136_1
    have hin141 : ¬ ((1 : Int32) < 0 ∨ cl141.slots.size ≤ ((1 : Int32)).toNatClampNeg) := inb_of S141 ⟨by decide, by decide⟩
    obtain ⟨_, _, ⟨T142, L142, k142, n142⟩, -, X142, ⟨Lc142, hQ142, l142, y142, z142⟩, st142⟩ := Jvm.LawKit.callS X139 hx (y := (⟨"com/example/plain_ranker/plainranker/data/BinArrayCountNonZeroPinLaw", "expect", "(IIII)I"⟩ : MethodName)) hown (mvT hZ (hw _ (List.mem_of_getElem? (i := 31) rfl))) (mvT hZ (hw _ (List.mem_of_getElem? (i := 32) rfl))) (mvT hZ (hw _ (List.mem_of_getElem? (i := 33) rfl))) (mvT hZ (hw _ (List.mem_of_getElem? (i := 34) rfl))) (by decide) (backOf (W := 1) (rm5 l Z a0 hw [] (p6 ^^^ (42 : Int32)) (1 : Int32) ((p5 &&& (2147483647 : Int32)) % (4 : Int32)) (p3 &&& (65535 : Int32)) T136.heap n0 z140) hZ (hw _ (List.mem_of_getElem? (i := 34) rfl)) (hw _ (List.mem_of_getElem? (i := 33) rfl)) (by decide) (by decide)) (g := (mkF m 189 #[.val (.int p1), .val (.int p2), .val (.int p3), .val (.int p4), .val (.int p5), .val (.int p6), .val (.int (0 : Int32)), .val (.int ((p1.toUInt32 >>> ((1 : Int32) &&& 31).toUInt32).toInt32)), .val (.int ((256 : Int32) + (((p1.toUInt32 >>> ((1 : Int32) &&& 31).toUInt32).toInt32) % (65280 : Int32)))), .val (.int (65535 : Int32)), .val (.int (p2 &&& (65535 : Int32))), .val (.int (p3 &&& (65535 : Int32))), .val (.int (p4 &&& (65535 : Int32))), .val (.int ((p5 &&& (2147483647 : Int32)) % (4 : Int32))), .val (.ref b103), .val (.ref b108)] [(.int (p3 &&& (65535 : Int32))), (.int ((p5 &&& (2147483647 : Int32)) % (4 : Int32))), (.int (1 : Int32)), (.int (p6 ^^^ (42 : Int32))), (.int (own_e (p6 ^^^ (42 : Int32)) (1 : Int32) ((p5 &&& (2147483647 : Int32)) % (4 : Int32)) (nar .char ((p3 &&& (65535 : Int32)).toUInt32.toUInt16.toUInt32.toInt32))))])) rfl (by rw [hml]; rfl) (argsL := [(.int (p6 ^^^ (42 : Int32))), (.int (1 : Int32)), (.int ((p5 &&& (2147483647 : Int32)) % (4 : Int32))), (.int (p3 &&& (65535 : Int32)))]) (rest := [(.int (own_e (p6 ^^^ (42 : Int32)) (1 : Int32) ((p5 &&& (2147483647 : Int32)) % (4 : Int32)) (nar .char ((p3 &&& (65535 : Int32)).toUInt32.toUInt16.toUInt32.toInt32))))]) (lenOf pd_2 rfl) rfl (by show 2 * 0 + _ ≤ _; exact Nat.le_of_eq rfl) (hb hby at_189) (fun _ _ => ⟨rfl, Heq139, (by decide : 3 + 0 ≤ _), (by decide : 9 + 0 ≤ _)⟩)
    dsimp only [Pt.U, Pt.locs, Pt.cells, Pt.slots] at X142 l142 y142 z142 st142 hQ142
    subst l142 y142 z142
    obtain ⟨rfl, Nq142, Heq142⟩ := hQ142
    have N142 := Fr.app N139 Nq142
    obtain ⟨cl143, Ar143, qc143, S143, M143, Hh143, G143⟩ := id R136_1
    have hin143 : ¬ ((2 : Int32) < 0 ∨ cl143.slots.size ≤ ((2 : Int32)).toNatClampNeg) := inb_of S143 ⟨by decide, by decide⟩
    obtain ⟨_, _, ⟨T144, L144, k144, n144⟩, -, X144, ⟨Lc144, hQ144, l144, y144, z144⟩, st144⟩ := Jvm.LawKit.callS X142 hx (y := (⟨"com/example/plain_ranker/plainranker/data/BinArrayCountNonZeroPinLaw", "expect", "(IIII)I"⟩ : MethodName)) hown (mvT hZ (hw _ (List.mem_of_getElem? (i := 31) rfl))) (mvT hZ (hw _ (List.mem_of_getElem? (i := 32) rfl))) (mvT hZ (hw _ (List.mem_of_getElem? (i := 33) rfl))) (mvT hZ (hw _ (List.mem_of_getElem? (i := 34) rfl))) (by decide) (backOf (W := 1) (rm5 l Z a0 hw [] (p6 ^^^ (-1 : Int32)) (2 : Int32) ((p5 &&& (2147483647 : Int32)) % (4 : Int32)) (p4 &&& (65535 : Int32)) T136.heap n0 z140) hZ (hw _ (List.mem_of_getElem? (i := 34) rfl)) (hw _ (List.mem_of_getElem? (i := 33) rfl)) (by decide) (by decide)) (g := (mkF m 208 #[.val (.int p1), .val (.int p2), .val (.int p3), .val (.int p4), .val (.int p5), .val (.int p6), .val (.int (0 : Int32)), .val (.int ((p1.toUInt32 >>> ((1 : Int32) &&& 31).toUInt32).toInt32)), .val (.int ((256 : Int32) + (((p1.toUInt32 >>> ((1 : Int32) &&& 31).toUInt32).toInt32) % (65280 : Int32)))), .val (.int (65535 : Int32)), .val (.int (p2 &&& (65535 : Int32))), .val (.int (p3 &&& (65535 : Int32))), .val (.int (p4 &&& (65535 : Int32))), .val (.int ((p5 &&& (2147483647 : Int32)) % (4 : Int32))), .val (.ref b103), .val (.ref b108)] [(.int (p4 &&& (65535 : Int32))), (.int ((p5 &&& (2147483647 : Int32)) % (4 : Int32))), (.int (2 : Int32)), (.int (p6 ^^^ (-1 : Int32))), (.int (own_e (p6 ^^^ (-1 : Int32)) (2 : Int32) ((p5 &&& (2147483647 : Int32)) % (4 : Int32)) (nar .char ((p4 &&& (65535 : Int32)).toUInt32.toUInt16.toUInt32.toInt32))))])) rfl (by rw [hml]; rfl) (argsL := [(.int (p6 ^^^ (-1 : Int32))), (.int (2 : Int32)), (.int ((p5 &&& (2147483647 : Int32)) % (4 : Int32))), (.int (p4 &&& (65535 : Int32)))]) (rest := [(.int (own_e (p6 ^^^ (-1 : Int32)) (2 : Int32) ((p5 &&& (2147483647 : Int32)) % (4 : Int32)) (nar .char ((p4 &&& (65535 : Int32)).toUInt32.toUInt16.toUInt32.toInt32))))]) (lenOf pd_2 rfl) rfl (by show 2 * 0 + _ ≤ _; exact Nat.le_of_eq rfl) (hb hby at_208) (fun _ _ => ⟨rfl, Heq142, (by decide : 3 + 0 ≤ _), (by decide : 9 + 0 ≤ _)⟩)
    dsimp only [Pt.U, Pt.locs, Pt.cells, Pt.slots] at X144 l144 y144 z144 st144 hQ144
    subst l144 y144 z144
    obtain ⟨rfl, Nq144, Heq144⟩ := hQ144
    have N144 := Fr.app N142 Nq144
    obtain ⟨fs, hr, hrun, hended, hW, hsame⟩ := X144.leave (v := some (.int (1 : Int32))) (fun h => by rw [Bd.returns] at h; cases h)
    refine ⟨_, _, pre101 _ ?_, hrun, hended, _, _, rfl, ?_, ⟨_, rfl⟩, hW, hsame.mono (by decide) (by decide)⟩
    · skip
      show Steps p.tables e below (s₁.setTop (mkF m 3 #[.val (.int p1), .val (.int p2), .val (.int p3), .val (.int p4), .val (.int p5), .val (.int p6), .unset, .unset, .unset, .unset, .unset, .unset, .unset, .unset, .unset, .unset] [(.int (p1 &&& (1 : Int32)))])) _
      refine XS.ifYes X0.here hx rfl (pc0 := 3) (pc' := 10) rfl (hb hby at_3) rfl ((if0 _ _).trans (teq (hc3_102 : (p1 &&& (1 : Int32)) = (0 : Int32))).1) (by decide) (by decide) ?_
      show Steps p.tables e below (s₁.setTop (mkF m 10 #[.val (.int p1), .val (.int p2), .val (.int p3), .val (.int p4), .val (.int p5), .val (.int p6), .unset, .unset, .unset, .unset, .unset, .unset, .unset, .unset, .unset, .unset] [])) _
      refine XS.iconst X0.here hx rfl (hb hby at_10) ?_
      show Steps p.tables e below (s₁.setTop (mkF m 11 #[.val (.int p1), .val (.int p2), .val (.int p3), .val (.int p4), .val (.int p5), .val (.int p6), .unset, .unset, .unset, .unset, .unset, .unset, .unset, .unset, .unset, .unset] [(.int (0 : Int32))])) _
      refine XS.istore X0.here hx rfl (hb hby at_11) rfl (l' := #[.val (.int p1), .val (.int p2), .val (.int p3), .val (.int p4), .val (.int p5), .val (.int p6), .val (.int (0 : Int32)), .unset, .unset, .unset, .unset, .unset, .unset, .unset, .unset, .unset]) rfl ?_
      show Steps p.tables e below (s₁.setTop (mkF m 13 #[.val (.int p1), .val (.int p2), .val (.int p3), .val (.int p4), .val (.int p5), .val (.int p6), .val (.int (0 : Int32)), .unset, .unset, .unset, .unset, .unset, .unset, .unset, .unset, .unset] [])) _
      refine XS.iloadN X0.here hx rfl (hb hby at_13) rfl ?_
      show Steps p.tables e below (s₁.setTop (mkF m 14 #[.val (.int p1), .val (.int p2), .val (.int p3), .val (.int p4), .val (.int p5), .val (.int p6), .val (.int (0 : Int32)), .unset, .unset, .unset, .unset, .unset, .unset, .unset, .unset, .unset] [(.int p1)])) _
      refine XS.iconst X0.here hx rfl (hb hby at_14) ?_
      show Steps p.tables e below (s₁.setTop (mkF m 15 #[.val (.int p1), .val (.int p2), .val (.int p3), .val (.int p4), .val (.int p5), .val (.int p6), .val (.int (0 : Int32)), .unset, .unset, .unset, .unset, .unset, .unset, .unset, .unset, .unset] [(.int (1 : Int32)), (.int p1)])) _
      refine XS.iushr X0.here hx rfl (hb hby at_15) rfl ?_
      show Steps p.tables e below (s₁.setTop (mkF m 16 #[.val (.int p1), .val (.int p2), .val (.int p3), .val (.int p4), .val (.int p5), .val (.int p6), .val (.int (0 : Int32)), .unset, .unset, .unset, .unset, .unset, .unset, .unset, .unset, .unset] [(.int ((p1.toUInt32 >>> ((1 : Int32) &&& 31).toUInt32).toInt32))])) _
      refine XS.istore X0.here hx rfl (hb hby at_16) rfl (l' := #[.val (.int p1), .val (.int p2), .val (.int p3), .val (.int p4), .val (.int p5), .val (.int p6), .val (.int (0 : Int32)), .val (.int ((p1.toUInt32 >>> ((1 : Int32) &&& 31).toUInt32).toInt32)), .unset, .unset, .unset, .unset, .unset, .unset, .unset, .unset]) rfl ?_
      show Steps p.tables e below (s₁.setTop (mkF m 18 #[.val (.int p1), .val (.int p2), .val (.int p3), .val (.int p4), .val (.int p5), .val (.int p6), .val (.int (0 : Int32)), .val (.int ((p1.toUInt32 >>> ((1 : Int32) &&& 31).toUInt32).toInt32)), .unset, .unset, .unset, .unset, .unset, .unset, .unset, .unset] [])) _
      refine XS.iload X0.here hx rfl (hb hby at_18) rfl ?_
      show Steps p.tables e below (s₁.setTop (mkF m 20 #[.val (.int p1), .val (.int p2), .val (.int p3), .val (.int p4), .val (.int p5), .val (.int p6), .val (.int (0 : Int32)), .val (.int ((p1.toUInt32 >>> ((1 : Int32) &&& 31).toUInt32).toInt32)), .unset, .unset, .unset, .unset, .unset, .unset, .unset, .unset] [(.int (0 : Int32))])) _
      refine XS.ifYes X0.here hx rfl (pc0 := 20) (pc' := 32) rfl (hb hby at_20) rfl ((if0 _ _).trans (teq (by decide : (0 : Int32) = (0 : Int32))).1) (by decide) (by decide) ?_
      show Steps p.tables e below (s₁.setTop (mkF m 32 #[.val (.int p1), .val (.int p2), .val (.int p3), .val (.int p4), .val (.int p5), .val (.int p6), .val (.int (0 : Int32)), .val (.int ((p1.toUInt32 >>> ((1 : Int32) &&& 31).toUInt32).toInt32)), .unset, .unset, .unset, .unset, .unset, .unset, .unset, .unset] [])) _
      refine XS.sipush X0.here hx rfl (hb hby at_32) ?_
      show Steps p.tables e below (s₁.setTop (mkF m 35 #[.val (.int p1), .val (.int p2), .val (.int p3), .val (.int p4), .val (.int p5), .val (.int p6), .val (.int (0 : Int32)), .val (.int ((p1.toUInt32 >>> ((1 : Int32) &&& 31).toUInt32).toInt32)), .unset, .unset, .unset, .unset, .unset, .unset, .unset, .unset] [(.int (256 : Int32))])) _
      refine XS.iload X0.here hx rfl (hb hby at_35) rfl ?_
      show Steps p.tables e below (s₁.setTop (mkF m 37 #[.val (.int p1), .val (.int p2), .val (.int p3), .val (.int p4), .val (.int p5), .val (.int p6), .val (.int (0 : Int32)), .val (.int ((p1.toUInt32 >>> ((1 : Int32) &&& 31).toUInt32).toInt32)), .unset, .unset, .unset, .unset, .unset, .unset, .unset, .unset] [(.int ((p1.toUInt32 >>> ((1 : Int32) &&& 31).toUInt32).toInt32)), (.int (256 : Int32))])) _
      refine X0.ldcInt hx hown (mvT hZ (hw _ (List.mem_of_getElem? (i := 0) rfl))) (g := (mkF m 37 #[.val (.int p1), .val (.int p2), .val (.int p3), .val (.int p4), .val (.int p5), .val (.int p6), .val (.int (0 : Int32)), .val (.int ((p1.toUInt32 >>> ((1 : Int32) &&& 31).toUInt32).toInt32)), .unset, .unset, .unset, .unset, .unset, .unset, .unset, .unset] [(.int ((p1.toUInt32 >>> ((1 : Int32) &&& 31).toUInt32).toInt32)), (.int (256 : Int32))])) rfl (hb hby at_37) _ ?_
      show Steps p.tables e below (s₁.setTop (mkF m 39 #[.val (.int p1), .val (.int p2), .val (.int p3), .val (.int p4), .val (.int p5), .val (.int p6), .val (.int (0 : Int32)), .val (.int ((p1.toUInt32 >>> ((1 : Int32) &&& 31).toUInt32).toInt32)), .unset, .unset, .unset, .unset, .unset, .unset, .unset, .unset] [(.int (65280 : Int32)), (.int ((p1.toUInt32 >>> ((1 : Int32) &&& 31).toUInt32).toInt32)), (.int (256 : Int32))])) _
      refine iremM (g := (mkF m 39 #[.val (.int p1), .val (.int p2), .val (.int p3), .val (.int p4), .val (.int p5), .val (.int p6), .val (.int (0 : Int32)), .val (.int ((p1.toUInt32 >>> ((1 : Int32) &&& 31).toUInt32).toInt32)), .unset, .unset, .unset, .unset, .unset, .unset, .unset, .unset] [(.int (65280 : Int32)), (.int ((p1.toUInt32 >>> ((1 : Int32) &&& 31).toUInt32).toInt32)), (.int (256 : Int32))])) X0 hx rfl (hb hby at_39) rfl (by decide) ?_
      show Steps p.tables e below (s₁.setTop (mkF m 40 #[.val (.int p1), .val (.int p2), .val (.int p3), .val (.int p4), .val (.int p5), .val (.int p6), .val (.int (0 : Int32)), .val (.int ((p1.toUInt32 >>> ((1 : Int32) &&& 31).toUInt32).toInt32)), .unset, .unset, .unset, .unset, .unset, .unset, .unset, .unset] [(.int (((p1.toUInt32 >>> ((1 : Int32) &&& 31).toUInt32).toInt32) % (65280 : Int32))), (.int (256 : Int32))])) _
      refine XS.iadd X0.here hx rfl (hb hby at_40) rfl ?_
      show Steps p.tables e below (s₁.setTop (mkF m 41 #[.val (.int p1), .val (.int p2), .val (.int p3), .val (.int p4), .val (.int p5), .val (.int p6), .val (.int (0 : Int32)), .val (.int ((p1.toUInt32 >>> ((1 : Int32) &&& 31).toUInt32).toInt32)), .unset, .unset, .unset, .unset, .unset, .unset, .unset, .unset] [(.int ((256 : Int32) + (((p1.toUInt32 >>> ((1 : Int32) &&& 31).toUInt32).toInt32) % (65280 : Int32))))])) _
      refine XS.istore X0.here hx rfl (hb hby at_41) rfl (l' := #[.val (.int p1), .val (.int p2), .val (.int p3), .val (.int p4), .val (.int p5), .val (.int p6), .val (.int (0 : Int32)), .val (.int ((p1.toUInt32 >>> ((1 : Int32) &&& 31).toUInt32).toInt32)), .val (.int ((256 : Int32) + (((p1.toUInt32 >>> ((1 : Int32) &&& 31).toUInt32).toInt32) % (65280 : Int32)))), .unset, .unset, .unset, .unset, .unset, .unset, .unset]) rfl ?_
      show Steps p.tables e below (s₁.setTop (mkF m 43 #[.val (.int p1), .val (.int p2), .val (.int p3), .val (.int p4), .val (.int p5), .val (.int p6), .val (.int (0 : Int32)), .val (.int ((p1.toUInt32 >>> ((1 : Int32) &&& 31).toUInt32).toInt32)), .val (.int ((256 : Int32) + (((p1.toUInt32 >>> ((1 : Int32) &&& 31).toUInt32).toInt32) % (65280 : Int32)))), .unset, .unset, .unset, .unset, .unset, .unset, .unset] [])) _
      refine XS.iload X0.here hx rfl (hb hby at_43) rfl ?_
      show Steps p.tables e below (s₁.setTop (mkF m 45 #[.val (.int p1), .val (.int p2), .val (.int p3), .val (.int p4), .val (.int p5), .val (.int p6), .val (.int (0 : Int32)), .val (.int ((p1.toUInt32 >>> ((1 : Int32) &&& 31).toUInt32).toInt32)), .val (.int ((256 : Int32) + (((p1.toUInt32 >>> ((1 : Int32) &&& 31).toUInt32).toInt32) % (65280 : Int32)))), .unset, .unset, .unset, .unset, .unset, .unset, .unset] [(.int (0 : Int32))])) _
      refine XS.ifYes X0.here hx rfl (pc0 := 45) (pc' := 54) rfl (hb hby at_45) rfl ((if0 _ _).trans (teq (by decide : (0 : Int32) = (0 : Int32))).1) (by decide) (by decide) ?_
      show Steps p.tables e below (s₁.setTop (mkF m 54 #[.val (.int p1), .val (.int p2), .val (.int p3), .val (.int p4), .val (.int p5), .val (.int p6), .val (.int (0 : Int32)), .val (.int ((p1.toUInt32 >>> ((1 : Int32) &&& 31).toUInt32).toInt32)), .val (.int ((256 : Int32) + (((p1.toUInt32 >>> ((1 : Int32) &&& 31).toUInt32).toInt32) % (65280 : Int32)))), .unset, .unset, .unset, .unset, .unset, .unset, .unset] [])) _
      refine X0.ldcInt hx hown (mvT hZ (hw _ (List.mem_of_getElem? (i := 1) rfl))) (g := (mkF m 54 #[.val (.int p1), .val (.int p2), .val (.int p3), .val (.int p4), .val (.int p5), .val (.int p6), .val (.int (0 : Int32)), .val (.int ((p1.toUInt32 >>> ((1 : Int32) &&& 31).toUInt32).toInt32)), .val (.int ((256 : Int32) + (((p1.toUInt32 >>> ((1 : Int32) &&& 31).toUInt32).toInt32) % (65280 : Int32)))), .unset, .unset, .unset, .unset, .unset, .unset, .unset] [])) rfl (hb hby at_54) _ ?_
      show Steps p.tables e below (s₁.setTop (mkF m 56 #[.val (.int p1), .val (.int p2), .val (.int p3), .val (.int p4), .val (.int p5), .val (.int p6), .val (.int (0 : Int32)), .val (.int ((p1.toUInt32 >>> ((1 : Int32) &&& 31).toUInt32).toInt32)), .val (.int ((256 : Int32) + (((p1.toUInt32 >>> ((1 : Int32) &&& 31).toUInt32).toInt32) % (65280 : Int32)))), .unset, .unset, .unset, .unset, .unset, .unset, .unset] [(.int (65535 : Int32))])) _
      refine XS.istore X0.here hx rfl (hb hby at_56) rfl (l' := #[.val (.int p1), .val (.int p2), .val (.int p3), .val (.int p4), .val (.int p5), .val (.int p6), .val (.int (0 : Int32)), .val (.int ((p1.toUInt32 >>> ((1 : Int32) &&& 31).toUInt32).toInt32)), .val (.int ((256 : Int32) + (((p1.toUInt32 >>> ((1 : Int32) &&& 31).toUInt32).toInt32) % (65280 : Int32)))), .val (.int (65535 : Int32)), .unset, .unset, .unset, .unset, .unset, .unset]) rfl ?_
      show Steps p.tables e below (s₁.setTop (mkF m 58 #[.val (.int p1), .val (.int p2), .val (.int p3), .val (.int p4), .val (.int p5), .val (.int p6), .val (.int (0 : Int32)), .val (.int ((p1.toUInt32 >>> ((1 : Int32) &&& 31).toUInt32).toInt32)), .val (.int ((256 : Int32) + (((p1.toUInt32 >>> ((1 : Int32) &&& 31).toUInt32).toInt32) % (65280 : Int32)))), .val (.int (65535 : Int32)), .unset, .unset, .unset, .unset, .unset, .unset] [])) _
      refine XS.iloadN X0.here hx rfl (hb hby at_58) rfl ?_
      show Steps p.tables e below (s₁.setTop (mkF m 59 #[.val (.int p1), .val (.int p2), .val (.int p3), .val (.int p4), .val (.int p5), .val (.int p6), .val (.int (0 : Int32)), .val (.int ((p1.toUInt32 >>> ((1 : Int32) &&& 31).toUInt32).toInt32)), .val (.int ((256 : Int32) + (((p1.toUInt32 >>> ((1 : Int32) &&& 31).toUInt32).toInt32) % (65280 : Int32)))), .val (.int (65535 : Int32)), .unset, .unset, .unset, .unset, .unset, .unset] [(.int p2)])) _
      refine XS.iload X0.here hx rfl (hb hby at_59) rfl ?_
      show Steps p.tables e below (s₁.setTop (mkF m 61 #[.val (.int p1), .val (.int p2), .val (.int p3), .val (.int p4), .val (.int p5), .val (.int p6), .val (.int (0 : Int32)), .val (.int ((p1.toUInt32 >>> ((1 : Int32) &&& 31).toUInt32).toInt32)), .val (.int ((256 : Int32) + (((p1.toUInt32 >>> ((1 : Int32) &&& 31).toUInt32).toInt32) % (65280 : Int32)))), .val (.int (65535 : Int32)), .unset, .unset, .unset, .unset, .unset, .unset] [(.int (65535 : Int32)), (.int p2)])) _
      refine XS.iand X0.here hx rfl (hb hby at_61) rfl ?_
      show Steps p.tables e below (s₁.setTop (mkF m 62 #[.val (.int p1), .val (.int p2), .val (.int p3), .val (.int p4), .val (.int p5), .val (.int p6), .val (.int (0 : Int32)), .val (.int ((p1.toUInt32 >>> ((1 : Int32) &&& 31).toUInt32).toInt32)), .val (.int ((256 : Int32) + (((p1.toUInt32 >>> ((1 : Int32) &&& 31).toUInt32).toInt32) % (65280 : Int32)))), .val (.int (65535 : Int32)), .unset, .unset, .unset, .unset, .unset, .unset] [(.int (p2 &&& (65535 : Int32)))])) _
      refine XS.istore X0.here hx rfl (hb hby at_62) rfl (l' := #[.val (.int p1), .val (.int p2), .val (.int p3), .val (.int p4), .val (.int p5), .val (.int p6), .val (.int (0 : Int32)), .val (.int ((p1.toUInt32 >>> ((1 : Int32) &&& 31).toUInt32).toInt32)), .val (.int ((256 : Int32) + (((p1.toUInt32 >>> ((1 : Int32) &&& 31).toUInt32).toInt32) % (65280 : Int32)))), .val (.int (65535 : Int32)), .val (.int (p2 &&& (65535 : Int32))), .unset, .unset, .unset, .unset, .unset]) rfl ?_
      show Steps p.tables e below (s₁.setTop (mkF m 64 #[.val (.int p1), .val (.int p2), .val (.int p3), .val (.int p4), .val (.int p5), .val (.int p6), .val (.int (0 : Int32)), .val (.int ((p1.toUInt32 >>> ((1 : Int32) &&& 31).toUInt32).toInt32)), .val (.int ((256 : Int32) + (((p1.toUInt32 >>> ((1 : Int32) &&& 31).toUInt32).toInt32) % (65280 : Int32)))), .val (.int (65535 : Int32)), .val (.int (p2 &&& (65535 : Int32))), .unset, .unset, .unset, .unset, .unset] [])) _
      refine XS.iloadN X0.here hx rfl (hb hby at_64) rfl ?_
      show Steps p.tables e below (s₁.setTop (mkF m 65 #[.val (.int p1), .val (.int p2), .val (.int p3), .val (.int p4), .val (.int p5), .val (.int p6), .val (.int (0 : Int32)), .val (.int ((p1.toUInt32 >>> ((1 : Int32) &&& 31).toUInt32).toInt32)), .val (.int ((256 : Int32) + (((p1.toUInt32 >>> ((1 : Int32) &&& 31).toUInt32).toInt32) % (65280 : Int32)))), .val (.int (65535 : Int32)), .val (.int (p2 &&& (65535 : Int32))), .unset, .unset, .unset, .unset, .unset] [(.int p3)])) _
      refine XS.iload X0.here hx rfl (hb hby at_65) rfl ?_
      show Steps p.tables e below (s₁.setTop (mkF m 67 #[.val (.int p1), .val (.int p2), .val (.int p3), .val (.int p4), .val (.int p5), .val (.int p6), .val (.int (0 : Int32)), .val (.int ((p1.toUInt32 >>> ((1 : Int32) &&& 31).toUInt32).toInt32)), .val (.int ((256 : Int32) + (((p1.toUInt32 >>> ((1 : Int32) &&& 31).toUInt32).toInt32) % (65280 : Int32)))), .val (.int (65535 : Int32)), .val (.int (p2 &&& (65535 : Int32))), .unset, .unset, .unset, .unset, .unset] [(.int (65535 : Int32)), (.int p3)])) _
      refine XS.iand X0.here hx rfl (hb hby at_67) rfl ?_
      show Steps p.tables e below (s₁.setTop (mkF m 68 #[.val (.int p1), .val (.int p2), .val (.int p3), .val (.int p4), .val (.int p5), .val (.int p6), .val (.int (0 : Int32)), .val (.int ((p1.toUInt32 >>> ((1 : Int32) &&& 31).toUInt32).toInt32)), .val (.int ((256 : Int32) + (((p1.toUInt32 >>> ((1 : Int32) &&& 31).toUInt32).toInt32) % (65280 : Int32)))), .val (.int (65535 : Int32)), .val (.int (p2 &&& (65535 : Int32))), .unset, .unset, .unset, .unset, .unset] [(.int (p3 &&& (65535 : Int32)))])) _
      refine XS.istore X0.here hx rfl (hb hby at_68) rfl (l' := #[.val (.int p1), .val (.int p2), .val (.int p3), .val (.int p4), .val (.int p5), .val (.int p6), .val (.int (0 : Int32)), .val (.int ((p1.toUInt32 >>> ((1 : Int32) &&& 31).toUInt32).toInt32)), .val (.int ((256 : Int32) + (((p1.toUInt32 >>> ((1 : Int32) &&& 31).toUInt32).toInt32) % (65280 : Int32)))), .val (.int (65535 : Int32)), .val (.int (p2 &&& (65535 : Int32))), .val (.int (p3 &&& (65535 : Int32))), .unset, .unset, .unset, .unset]) rfl ?_
      show Steps p.tables e below (s₁.setTop (mkF m 70 #[.val (.int p1), .val (.int p2), .val (.int p3), .val (.int p4), .val (.int p5), .val (.int p6), .val (.int (0 : Int32)), .val (.int ((p1.toUInt32 >>> ((1 : Int32) &&& 31).toUInt32).toInt32)), .val (.int ((256 : Int32) + (((p1.toUInt32 >>> ((1 : Int32) &&& 31).toUInt32).toInt32) % (65280 : Int32)))), .val (.int (65535 : Int32)), .val (.int (p2 &&& (65535 : Int32))), .val (.int (p3 &&& (65535 : Int32))), .unset, .unset, .unset, .unset] [])) _
      refine XS.iloadN X0.here hx rfl (hb hby at_70) rfl ?_
      show Steps p.tables e below (s₁.setTop (mkF m 71 #[.val (.int p1), .val (.int p2), .val (.int p3), .val (.int p4), .val (.int p5), .val (.int p6), .val (.int (0 : Int32)), .val (.int ((p1.toUInt32 >>> ((1 : Int32) &&& 31).toUInt32).toInt32)), .val (.int ((256 : Int32) + (((p1.toUInt32 >>> ((1 : Int32) &&& 31).toUInt32).toInt32) % (65280 : Int32)))), .val (.int (65535 : Int32)), .val (.int (p2 &&& (65535 : Int32))), .val (.int (p3 &&& (65535 : Int32))), .unset, .unset, .unset, .unset] [(.int p4)])) _
      refine XS.iload X0.here hx rfl (hb hby at_71) rfl ?_
      show Steps p.tables e below (s₁.setTop (mkF m 73 #[.val (.int p1), .val (.int p2), .val (.int p3), .val (.int p4), .val (.int p5), .val (.int p6), .val (.int (0 : Int32)), .val (.int ((p1.toUInt32 >>> ((1 : Int32) &&& 31).toUInt32).toInt32)), .val (.int ((256 : Int32) + (((p1.toUInt32 >>> ((1 : Int32) &&& 31).toUInt32).toInt32) % (65280 : Int32)))), .val (.int (65535 : Int32)), .val (.int (p2 &&& (65535 : Int32))), .val (.int (p3 &&& (65535 : Int32))), .unset, .unset, .unset, .unset] [(.int (65535 : Int32)), (.int p4)])) _
      refine XS.iand X0.here hx rfl (hb hby at_73) rfl ?_
      show Steps p.tables e below (s₁.setTop (mkF m 74 #[.val (.int p1), .val (.int p2), .val (.int p3), .val (.int p4), .val (.int p5), .val (.int p6), .val (.int (0 : Int32)), .val (.int ((p1.toUInt32 >>> ((1 : Int32) &&& 31).toUInt32).toInt32)), .val (.int ((256 : Int32) + (((p1.toUInt32 >>> ((1 : Int32) &&& 31).toUInt32).toInt32) % (65280 : Int32)))), .val (.int (65535 : Int32)), .val (.int (p2 &&& (65535 : Int32))), .val (.int (p3 &&& (65535 : Int32))), .unset, .unset, .unset, .unset] [(.int (p4 &&& (65535 : Int32)))])) _
      refine XS.istore X0.here hx rfl (hb hby at_74) rfl (l' := #[.val (.int p1), .val (.int p2), .val (.int p3), .val (.int p4), .val (.int p5), .val (.int p6), .val (.int (0 : Int32)), .val (.int ((p1.toUInt32 >>> ((1 : Int32) &&& 31).toUInt32).toInt32)), .val (.int ((256 : Int32) + (((p1.toUInt32 >>> ((1 : Int32) &&& 31).toUInt32).toInt32) % (65280 : Int32)))), .val (.int (65535 : Int32)), .val (.int (p2 &&& (65535 : Int32))), .val (.int (p3 &&& (65535 : Int32))), .val (.int (p4 &&& (65535 : Int32))), .unset, .unset, .unset]) rfl ?_
      show Steps p.tables e below (s₁.setTop (mkF m 76 #[.val (.int p1), .val (.int p2), .val (.int p3), .val (.int p4), .val (.int p5), .val (.int p6), .val (.int (0 : Int32)), .val (.int ((p1.toUInt32 >>> ((1 : Int32) &&& 31).toUInt32).toInt32)), .val (.int ((256 : Int32) + (((p1.toUInt32 >>> ((1 : Int32) &&& 31).toUInt32).toInt32) % (65280 : Int32)))), .val (.int (65535 : Int32)), .val (.int (p2 &&& (65535 : Int32))), .val (.int (p3 &&& (65535 : Int32))), .val (.int (p4 &&& (65535 : Int32))), .unset, .unset, .unset] [])) _
      refine XS.iload X0.here hx rfl (hb hby at_76) rfl ?_
      show Steps p.tables e below (s₁.setTop (mkF m 78 #[.val (.int p1), .val (.int p2), .val (.int p3), .val (.int p4), .val (.int p5), .val (.int p6), .val (.int (0 : Int32)), .val (.int ((p1.toUInt32 >>> ((1 : Int32) &&& 31).toUInt32).toInt32)), .val (.int ((256 : Int32) + (((p1.toUInt32 >>> ((1 : Int32) &&& 31).toUInt32).toInt32) % (65280 : Int32)))), .val (.int (65535 : Int32)), .val (.int (p2 &&& (65535 : Int32))), .val (.int (p3 &&& (65535 : Int32))), .val (.int (p4 &&& (65535 : Int32))), .unset, .unset, .unset] [(.int p5)])) _
      refine X0.ldcInt hx hown (mvT hZ (hw _ (List.mem_of_getElem? (i := 2) rfl))) (g := (mkF m 78 #[.val (.int p1), .val (.int p2), .val (.int p3), .val (.int p4), .val (.int p5), .val (.int p6), .val (.int (0 : Int32)), .val (.int ((p1.toUInt32 >>> ((1 : Int32) &&& 31).toUInt32).toInt32)), .val (.int ((256 : Int32) + (((p1.toUInt32 >>> ((1 : Int32) &&& 31).toUInt32).toInt32) % (65280 : Int32)))), .val (.int (65535 : Int32)), .val (.int (p2 &&& (65535 : Int32))), .val (.int (p3 &&& (65535 : Int32))), .val (.int (p4 &&& (65535 : Int32))), .unset, .unset, .unset] [(.int p5)])) rfl (hb hby at_78) _ ?_
      show Steps p.tables e below (s₁.setTop (mkF m 80 #[.val (.int p1), .val (.int p2), .val (.int p3), .val (.int p4), .val (.int p5), .val (.int p6), .val (.int (0 : Int32)), .val (.int ((p1.toUInt32 >>> ((1 : Int32) &&& 31).toUInt32).toInt32)), .val (.int ((256 : Int32) + (((p1.toUInt32 >>> ((1 : Int32) &&& 31).toUInt32).toInt32) % (65280 : Int32)))), .val (.int (65535 : Int32)), .val (.int (p2 &&& (65535 : Int32))), .val (.int (p3 &&& (65535 : Int32))), .val (.int (p4 &&& (65535 : Int32))), .unset, .unset, .unset] [(.int (2147483647 : Int32)), (.int p5)])) _
      refine XS.iand X0.here hx rfl (hb hby at_80) rfl ?_
      show Steps p.tables e below (s₁.setTop (mkF m 81 #[.val (.int p1), .val (.int p2), .val (.int p3), .val (.int p4), .val (.int p5), .val (.int p6), .val (.int (0 : Int32)), .val (.int ((p1.toUInt32 >>> ((1 : Int32) &&& 31).toUInt32).toInt32)), .val (.int ((256 : Int32) + (((p1.toUInt32 >>> ((1 : Int32) &&& 31).toUInt32).toInt32) % (65280 : Int32)))), .val (.int (65535 : Int32)), .val (.int (p2 &&& (65535 : Int32))), .val (.int (p3 &&& (65535 : Int32))), .val (.int (p4 &&& (65535 : Int32))), .unset, .unset, .unset] [(.int (p5 &&& (2147483647 : Int32)))])) _
      refine XS.iconst X0.here hx rfl (hb hby at_81) ?_
      show Steps p.tables e below (s₁.setTop (mkF m 82 #[.val (.int p1), .val (.int p2), .val (.int p3), .val (.int p4), .val (.int p5), .val (.int p6), .val (.int (0 : Int32)), .val (.int ((p1.toUInt32 >>> ((1 : Int32) &&& 31).toUInt32).toInt32)), .val (.int ((256 : Int32) + (((p1.toUInt32 >>> ((1 : Int32) &&& 31).toUInt32).toInt32) % (65280 : Int32)))), .val (.int (65535 : Int32)), .val (.int (p2 &&& (65535 : Int32))), .val (.int (p3 &&& (65535 : Int32))), .val (.int (p4 &&& (65535 : Int32))), .unset, .unset, .unset] [(.int (4 : Int32)), (.int (p5 &&& (2147483647 : Int32)))])) _
      refine iremM (g := (mkF m 82 #[.val (.int p1), .val (.int p2), .val (.int p3), .val (.int p4), .val (.int p5), .val (.int p6), .val (.int (0 : Int32)), .val (.int ((p1.toUInt32 >>> ((1 : Int32) &&& 31).toUInt32).toInt32)), .val (.int ((256 : Int32) + (((p1.toUInt32 >>> ((1 : Int32) &&& 31).toUInt32).toInt32) % (65280 : Int32)))), .val (.int (65535 : Int32)), .val (.int (p2 &&& (65535 : Int32))), .val (.int (p3 &&& (65535 : Int32))), .val (.int (p4 &&& (65535 : Int32))), .unset, .unset, .unset] [(.int (4 : Int32)), (.int (p5 &&& (2147483647 : Int32)))])) X0 hx rfl (hb hby at_82) rfl (by decide) ?_
      show Steps p.tables e below (s₁.setTop (mkF m 83 #[.val (.int p1), .val (.int p2), .val (.int p3), .val (.int p4), .val (.int p5), .val (.int p6), .val (.int (0 : Int32)), .val (.int ((p1.toUInt32 >>> ((1 : Int32) &&& 31).toUInt32).toInt32)), .val (.int ((256 : Int32) + (((p1.toUInt32 >>> ((1 : Int32) &&& 31).toUInt32).toInt32) % (65280 : Int32)))), .val (.int (65535 : Int32)), .val (.int (p2 &&& (65535 : Int32))), .val (.int (p3 &&& (65535 : Int32))), .val (.int (p4 &&& (65535 : Int32))), .unset, .unset, .unset] [(.int ((p5 &&& (2147483647 : Int32)) % (4 : Int32)))])) _
      refine XS.istore X0.here hx rfl (hb hby at_83) rfl (l' := #[.val (.int p1), .val (.int p2), .val (.int p3), .val (.int p4), .val (.int p5), .val (.int p6), .val (.int (0 : Int32)), .val (.int ((p1.toUInt32 >>> ((1 : Int32) &&& 31).toUInt32).toInt32)), .val (.int ((256 : Int32) + (((p1.toUInt32 >>> ((1 : Int32) &&& 31).toUInt32).toInt32) % (65280 : Int32)))), .val (.int (65535 : Int32)), .val (.int (p2 &&& (65535 : Int32))), .val (.int (p3 &&& (65535 : Int32))), .val (.int (p4 &&& (65535 : Int32))), .val (.int ((p5 &&& (2147483647 : Int32)) % (4 : Int32))), .unset, .unset]) rfl ?_
      show Steps p.tables e below (s₁.setTop (mkF m 85 #[.val (.int p1), .val (.int p2), .val (.int p3), .val (.int p4), .val (.int p5), .val (.int p6), .val (.int (0 : Int32)), .val (.int ((p1.toUInt32 >>> ((1 : Int32) &&& 31).toUInt32).toInt32)), .val (.int ((256 : Int32) + (((p1.toUInt32 >>> ((1 : Int32) &&& 31).toUInt32).toInt32) % (65280 : Int32)))), .val (.int (65535 : Int32)), .val (.int (p2 &&& (65535 : Int32))), .val (.int (p3 &&& (65535 : Int32))), .val (.int (p4 &&& (65535 : Int32))), .val (.int ((p5 &&& (2147483647 : Int32)) % (4 : Int32))), .unset, .unset] [])) _
      refine XS.iconst X0.here hx rfl (hb hby at_85) ?_
      show Steps p.tables e below (s₁.setTop (mkF m 86 #[.val (.int p1), .val (.int p2), .val (.int p3), .val (.int p4), .val (.int p5), .val (.int p6), .val (.int (0 : Int32)), .val (.int ((p1.toUInt32 >>> ((1 : Int32) &&& 31).toUInt32).toInt32)), .val (.int ((256 : Int32) + (((p1.toUInt32 >>> ((1 : Int32) &&& 31).toUInt32).toInt32) % (65280 : Int32)))), .val (.int (65535 : Int32)), .val (.int (p2 &&& (65535 : Int32))), .val (.int (p3 &&& (65535 : Int32))), .val (.int (p4 &&& (65535 : Int32))), .val (.int ((p5 &&& (2147483647 : Int32)) % (4 : Int32))), .unset, .unset] [(.int (3 : Int32))])) _
      refine st103 _ ?_
      show Steps p.tables e below (T103.setTop (mkF m 88 #[.val (.int p1), .val (.int p2), .val (.int p3), .val (.int p4), .val (.int p5), .val (.int p6), .val (.int (0 : Int32)), .val (.int ((p1.toUInt32 >>> ((1 : Int32) &&& 31).toUInt32).toInt32)), .val (.int ((256 : Int32) + (((p1.toUInt32 >>> ((1 : Int32) &&& 31).toUInt32).toInt32) % (65280 : Int32)))), .val (.int (65535 : Int32)), .val (.int (p2 &&& (65535 : Int32))), .val (.int (p3 &&& (65535 : Int32))), .val (.int (p4 &&& (65535 : Int32))), .val (.int ((p5 &&& (2147483647 : Int32)) % (4 : Int32))), .unset, .unset] [(.ref b103)])) _
      refine XS.astore X103.here hx rfl (hb hby at_88) rfl rfl (l' := #[.val (.int p1), .val (.int p2), .val (.int p3), .val (.int p4), .val (.int p5), .val (.int p6), .val (.int (0 : Int32)), .val (.int ((p1.toUInt32 >>> ((1 : Int32) &&& 31).toUInt32).toInt32)), .val (.int ((256 : Int32) + (((p1.toUInt32 >>> ((1 : Int32) &&& 31).toUInt32).toInt32) % (65280 : Int32)))), .val (.int (65535 : Int32)), .val (.int (p2 &&& (65535 : Int32))), .val (.int (p3 &&& (65535 : Int32))), .val (.int (p4 &&& (65535 : Int32))), .val (.int ((p5 &&& (2147483647 : Int32)) % (4 : Int32))), .val (.ref b103), .unset]) rfl ?_
      show Steps p.tables e below (T103.setTop (mkF m 90 #[.val (.int p1), .val (.int p2), .val (.int p3), .val (.int p4), .val (.int p5), .val (.int p6), .val (.int (0 : Int32)), .val (.int ((p1.toUInt32 >>> ((1 : Int32) &&& 31).toUInt32).toInt32)), .val (.int ((256 : Int32) + (((p1.toUInt32 >>> ((1 : Int32) &&& 31).toUInt32).toInt32) % (65280 : Int32)))), .val (.int (65535 : Int32)), .val (.int (p2 &&& (65535 : Int32))), .val (.int (p3 &&& (65535 : Int32))), .val (.int (p4 &&& (65535 : Int32))), .val (.int ((p5 &&& (2147483647 : Int32)) % (4 : Int32))), .val (.ref b103), .unset] [])) _
      refine XS.aload X103.here hx rfl (hb hby at_90) rfl rfl ?_
      show Steps p.tables e below (T103.setTop (mkF m 92 #[.val (.int p1), .val (.int p2), .val (.int p3), .val (.int p4), .val (.int p5), .val (.int p6), .val (.int (0 : Int32)), .val (.int ((p1.toUInt32 >>> ((1 : Int32) &&& 31).toUInt32).toInt32)), .val (.int ((256 : Int32) + (((p1.toUInt32 >>> ((1 : Int32) &&& 31).toUInt32).toInt32) % (65280 : Int32)))), .val (.int (65535 : Int32)), .val (.int (p2 &&& (65535 : Int32))), .val (.int (p3 &&& (65535 : Int32))), .val (.int (p4 &&& (65535 : Int32))), .val (.int ((p5 &&& (2147483647 : Int32)) % (4 : Int32))), .val (.ref b103), .unset] [(.ref b103)])) _
      refine XS.iconst X103.here hx rfl (hb hby at_92) ?_
      show Steps p.tables e below (T103.setTop (mkF m 93 #[.val (.int p1), .val (.int p2), .val (.int p3), .val (.int p4), .val (.int p5), .val (.int p6), .val (.int (0 : Int32)), .val (.int ((p1.toUInt32 >>> ((1 : Int32) &&& 31).toUInt32).toInt32)), .val (.int ((256 : Int32) + (((p1.toUInt32 >>> ((1 : Int32) &&& 31).toUInt32).toInt32) % (65280 : Int32)))), .val (.int (65535 : Int32)), .val (.int (p2 &&& (65535 : Int32))), .val (.int (p3 &&& (65535 : Int32))), .val (.int (p4 &&& (65535 : Int32))), .val (.int ((p5 &&& (2147483647 : Int32)) % (4 : Int32))), .val (.ref b103), .unset] [(.int (0 : Int32)), (.ref b103)])) _
      refine XS.iload X103.here hx rfl (hb hby at_93) rfl ?_
      show Steps p.tables e below (T103.setTop (mkF m 95 #[.val (.int p1), .val (.int p2), .val (.int p3), .val (.int p4), .val (.int p5), .val (.int p6), .val (.int (0 : Int32)), .val (.int ((p1.toUInt32 >>> ((1 : Int32) &&& 31).toUInt32).toInt32)), .val (.int ((256 : Int32) + (((p1.toUInt32 >>> ((1 : Int32) &&& 31).toUInt32).toInt32) % (65280 : Int32)))), .val (.int (65535 : Int32)), .val (.int (p2 &&& (65535 : Int32))), .val (.int (p3 &&& (65535 : Int32))), .val (.int (p4 &&& (65535 : Int32))), .val (.int ((p5 &&& (2147483647 : Int32)) % (4 : Int32))), .val (.ref b103), .unset] [(.int p6), (.int (0 : Int32)), (.ref b103)])) _
      refine st104 _ ?_
      show Steps p.tables e below (T104.setTop (mkF m 96 #[.val (.int p1), .val (.int p2), .val (.int p3), .val (.int p4), .val (.int p5), .val (.int p6), .val (.int (0 : Int32)), .val (.int ((p1.toUInt32 >>> ((1 : Int32) &&& 31).toUInt32).toInt32)), .val (.int ((256 : Int32) + (((p1.toUInt32 >>> ((1 : Int32) &&& 31).toUInt32).toInt32) % (65280 : Int32)))), .val (.int (65535 : Int32)), .val (.int (p2 &&& (65535 : Int32))), .val (.int (p3 &&& (65535 : Int32))), .val (.int (p4 &&& (65535 : Int32))), .val (.int ((p5 &&& (2147483647 : Int32)) % (4 : Int32))), .val (.ref b103), .unset] [])) _
      refine XS.aload X104.here hx rfl (hb hby at_96) rfl rfl ?_
      show Steps p.tables e below (T104.setTop (mkF m 98 #[.val (.int p1), .val (.int p2), .val (.int p3), .val (.int p4), .val (.int p5), .val (.int p6), .val (.int (0 : Int32)), .val (.int ((p1.toUInt32 >>> ((1 : Int32) &&& 31).toUInt32).toInt32)), .val (.int ((256 : Int32) + (((p1.toUInt32 >>> ((1 : Int32) &&& 31).toUInt32).toInt32) % (65280 : Int32)))), .val (.int (65535 : Int32)), .val (.int (p2 &&& (65535 : Int32))), .val (.int (p3 &&& (65535 : Int32))), .val (.int (p4 &&& (65535 : Int32))), .val (.int ((p5 &&& (2147483647 : Int32)) % (4 : Int32))), .val (.ref b103), .unset] [(.ref b103)])) _
      refine XS.iconst X104.here hx rfl (hb hby at_98) ?_
      show Steps p.tables e below (T104.setTop (mkF m 99 #[.val (.int p1), .val (.int p2), .val (.int p3), .val (.int p4), .val (.int p5), .val (.int p6), .val (.int (0 : Int32)), .val (.int ((p1.toUInt32 >>> ((1 : Int32) &&& 31).toUInt32).toInt32)), .val (.int ((256 : Int32) + (((p1.toUInt32 >>> ((1 : Int32) &&& 31).toUInt32).toInt32) % (65280 : Int32)))), .val (.int (65535 : Int32)), .val (.int (p2 &&& (65535 : Int32))), .val (.int (p3 &&& (65535 : Int32))), .val (.int (p4 &&& (65535 : Int32))), .val (.int ((p5 &&& (2147483647 : Int32)) % (4 : Int32))), .val (.ref b103), .unset] [(.int (1 : Int32)), (.ref b103)])) _
      refine XS.iload X104.here hx rfl (hb hby at_99) rfl ?_
      show Steps p.tables e below (T104.setTop (mkF m 101 #[.val (.int p1), .val (.int p2), .val (.int p3), .val (.int p4), .val (.int p5), .val (.int p6), .val (.int (0 : Int32)), .val (.int ((p1.toUInt32 >>> ((1 : Int32) &&& 31).toUInt32).toInt32)), .val (.int ((256 : Int32) + (((p1.toUInt32 >>> ((1 : Int32) &&& 31).toUInt32).toInt32) % (65280 : Int32)))), .val (.int (65535 : Int32)), .val (.int (p2 &&& (65535 : Int32))), .val (.int (p3 &&& (65535 : Int32))), .val (.int (p4 &&& (65535 : Int32))), .val (.int ((p5 &&& (2147483647 : Int32)) % (4 : Int32))), .val (.ref b103), .unset] [(.int p6), (.int (1 : Int32)), (.ref b103)])) _
      refine XS.bipush X104.here hx rfl (hb hby at_101) ?_
      show Steps p.tables e below (T104.setTop (mkF m 103 #[.val (.int p1), .val (.int p2), .val (.int p3), .val (.int p4), .val (.int p5), .val (.int p6), .val (.int (0 : Int32)), .val (.int ((p1.toUInt32 >>> ((1 : Int32) &&& 31).toUInt32).toInt32)), .val (.int ((256 : Int32) + (((p1.toUInt32 >>> ((1 : Int32) &&& 31).toUInt32).toInt32) % (65280 : Int32)))), .val (.int (65535 : Int32)), .val (.int (p2 &&& (65535 : Int32))), .val (.int (p3 &&& (65535 : Int32))), .val (.int (p4 &&& (65535 : Int32))), .val (.int ((p5 &&& (2147483647 : Int32)) % (4 : Int32))), .val (.ref b103), .unset] [(.int (42 : Int32)), (.int p6), (.int (1 : Int32)), (.ref b103)])) _
      refine XS.ixor X104.here hx rfl (hb hby at_103) rfl ?_
      show Steps p.tables e below (T104.setTop (mkF m 104 #[.val (.int p1), .val (.int p2), .val (.int p3), .val (.int p4), .val (.int p5), .val (.int p6), .val (.int (0 : Int32)), .val (.int ((p1.toUInt32 >>> ((1 : Int32) &&& 31).toUInt32).toInt32)), .val (.int ((256 : Int32) + (((p1.toUInt32 >>> ((1 : Int32) &&& 31).toUInt32).toInt32) % (65280 : Int32)))), .val (.int (65535 : Int32)), .val (.int (p2 &&& (65535 : Int32))), .val (.int (p3 &&& (65535 : Int32))), .val (.int (p4 &&& (65535 : Int32))), .val (.int ((p5 &&& (2147483647 : Int32)) % (4 : Int32))), .val (.ref b103), .unset] [(.int (p6 ^^^ (42 : Int32))), (.int (1 : Int32)), (.ref b103)])) _
      refine st106 _ ?_
      show Steps p.tables e below (T106.setTop (mkF m 105 #[.val (.int p1), .val (.int p2), .val (.int p3), .val (.int p4), .val (.int p5), .val (.int p6), .val (.int (0 : Int32)), .val (.int ((p1.toUInt32 >>> ((1 : Int32) &&& 31).toUInt32).toInt32)), .val (.int ((256 : Int32) + (((p1.toUInt32 >>> ((1 : Int32) &&& 31).toUInt32).toInt32) % (65280 : Int32)))), .val (.int (65535 : Int32)), .val (.int (p2 &&& (65535 : Int32))), .val (.int (p3 &&& (65535 : Int32))), .val (.int (p4 &&& (65535 : Int32))), .val (.int ((p5 &&& (2147483647 : Int32)) % (4 : Int32))), .val (.ref b103), .unset] [])) _
      refine XS.aload X106.here hx rfl (hb hby at_105) rfl rfl ?_
      show Steps p.tables e below (T106.setTop (mkF m 107 #[.val (.int p1), .val (.int p2), .val (.int p3), .val (.int p4), .val (.int p5), .val (.int p6), .val (.int (0 : Int32)), .val (.int ((p1.toUInt32 >>> ((1 : Int32) &&& 31).toUInt32).toInt32)), .val (.int ((256 : Int32) + (((p1.toUInt32 >>> ((1 : Int32) &&& 31).toUInt32).toInt32) % (65280 : Int32)))), .val (.int (65535 : Int32)), .val (.int (p2 &&& (65535 : Int32))), .val (.int (p3 &&& (65535 : Int32))), .val (.int (p4 &&& (65535 : Int32))), .val (.int ((p5 &&& (2147483647 : Int32)) % (4 : Int32))), .val (.ref b103), .unset] [(.ref b103)])) _
      refine XS.iconst X106.here hx rfl (hb hby at_107) ?_
      show Steps p.tables e below (T106.setTop (mkF m 108 #[.val (.int p1), .val (.int p2), .val (.int p3), .val (.int p4), .val (.int p5), .val (.int p6), .val (.int (0 : Int32)), .val (.int ((p1.toUInt32 >>> ((1 : Int32) &&& 31).toUInt32).toInt32)), .val (.int ((256 : Int32) + (((p1.toUInt32 >>> ((1 : Int32) &&& 31).toUInt32).toInt32) % (65280 : Int32)))), .val (.int (65535 : Int32)), .val (.int (p2 &&& (65535 : Int32))), .val (.int (p3 &&& (65535 : Int32))), .val (.int (p4 &&& (65535 : Int32))), .val (.int ((p5 &&& (2147483647 : Int32)) % (4 : Int32))), .val (.ref b103), .unset] [(.int (2 : Int32)), (.ref b103)])) _
      refine XS.iload X106.here hx rfl (hb hby at_108) rfl ?_
      show Steps p.tables e below (T106.setTop (mkF m 110 #[.val (.int p1), .val (.int p2), .val (.int p3), .val (.int p4), .val (.int p5), .val (.int p6), .val (.int (0 : Int32)), .val (.int ((p1.toUInt32 >>> ((1 : Int32) &&& 31).toUInt32).toInt32)), .val (.int ((256 : Int32) + (((p1.toUInt32 >>> ((1 : Int32) &&& 31).toUInt32).toInt32) % (65280 : Int32)))), .val (.int (65535 : Int32)), .val (.int (p2 &&& (65535 : Int32))), .val (.int (p3 &&& (65535 : Int32))), .val (.int (p4 &&& (65535 : Int32))), .val (.int ((p5 &&& (2147483647 : Int32)) % (4 : Int32))), .val (.ref b103), .unset] [(.int p6), (.int (2 : Int32)), (.ref b103)])) _
      refine XS.iconst X106.here hx rfl (hb hby at_110) ?_
      show Steps p.tables e below (T106.setTop (mkF m 111 #[.val (.int p1), .val (.int p2), .val (.int p3), .val (.int p4), .val (.int p5), .val (.int p6), .val (.int (0 : Int32)), .val (.int ((p1.toUInt32 >>> ((1 : Int32) &&& 31).toUInt32).toInt32)), .val (.int ((256 : Int32) + (((p1.toUInt32 >>> ((1 : Int32) &&& 31).toUInt32).toInt32) % (65280 : Int32)))), .val (.int (65535 : Int32)), .val (.int (p2 &&& (65535 : Int32))), .val (.int (p3 &&& (65535 : Int32))), .val (.int (p4 &&& (65535 : Int32))), .val (.int ((p5 &&& (2147483647 : Int32)) % (4 : Int32))), .val (.ref b103), .unset] [(.int (-1 : Int32)), (.int p6), (.int (2 : Int32)), (.ref b103)])) _
      refine XS.ixor X106.here hx rfl (hb hby at_111) rfl ?_
      show Steps p.tables e below (T106.setTop (mkF m 112 #[.val (.int p1), .val (.int p2), .val (.int p3), .val (.int p4), .val (.int p5), .val (.int p6), .val (.int (0 : Int32)), .val (.int ((p1.toUInt32 >>> ((1 : Int32) &&& 31).toUInt32).toInt32)), .val (.int ((256 : Int32) + (((p1.toUInt32 >>> ((1 : Int32) &&& 31).toUInt32).toInt32) % (65280 : Int32)))), .val (.int (65535 : Int32)), .val (.int (p2 &&& (65535 : Int32))), .val (.int (p3 &&& (65535 : Int32))), .val (.int (p4 &&& (65535 : Int32))), .val (.int ((p5 &&& (2147483647 : Int32)) % (4 : Int32))), .val (.ref b103), .unset] [(.int (p6 ^^^ (-1 : Int32))), (.int (2 : Int32)), (.ref b103)])) _
      refine st107 _ ?_
      show Steps p.tables e below (T107.setTop (mkF m 113 #[.val (.int p1), .val (.int p2), .val (.int p3), .val (.int p4), .val (.int p5), .val (.int p6), .val (.int (0 : Int32)), .val (.int ((p1.toUInt32 >>> ((1 : Int32) &&& 31).toUInt32).toInt32)), .val (.int ((256 : Int32) + (((p1.toUInt32 >>> ((1 : Int32) &&& 31).toUInt32).toInt32) % (65280 : Int32)))), .val (.int (65535 : Int32)), .val (.int (p2 &&& (65535 : Int32))), .val (.int (p3 &&& (65535 : Int32))), .val (.int (p4 &&& (65535 : Int32))), .val (.int ((p5 &&& (2147483647 : Int32)) % (4 : Int32))), .val (.ref b103), .unset] [])) _
      refine st108 _ ?_
      show Steps p.tables e below (T108.setTop (mkF m 116 #[.val (.int p1), .val (.int p2), .val (.int p3), .val (.int p4), .val (.int p5), .val (.int p6), .val (.int (0 : Int32)), .val (.int ((p1.toUInt32 >>> ((1 : Int32) &&& 31).toUInt32).toInt32)), .val (.int ((256 : Int32) + (((p1.toUInt32 >>> ((1 : Int32) &&& 31).toUInt32).toInt32) % (65280 : Int32)))), .val (.int (65535 : Int32)), .val (.int (p2 &&& (65535 : Int32))), .val (.int (p3 &&& (65535 : Int32))), .val (.int (p4 &&& (65535 : Int32))), .val (.int ((p5 &&& (2147483647 : Int32)) % (4 : Int32))), .val (.ref b103), .unset] [(.ref b108)])) _
      refine XS.dup X108.here hx rfl (hb hby at_116) rfl rfl ?_
      show Steps p.tables e below (T108.setTop (mkF m 117 #[.val (.int p1), .val (.int p2), .val (.int p3), .val (.int p4), .val (.int p5), .val (.int p6), .val (.int (0 : Int32)), .val (.int ((p1.toUInt32 >>> ((1 : Int32) &&& 31).toUInt32).toInt32)), .val (.int ((256 : Int32) + (((p1.toUInt32 >>> ((1 : Int32) &&& 31).toUInt32).toInt32) % (65280 : Int32)))), .val (.int (65535 : Int32)), .val (.int (p2 &&& (65535 : Int32))), .val (.int (p3 &&& (65535 : Int32))), .val (.int (p4 &&& (65535 : Int32))), .val (.int ((p5 &&& (2147483647 : Int32)) % (4 : Int32))), .val (.ref b103), .unset] [(.ref b108), (.ref b108)])) _
      refine XS.iconst X108.here hx rfl (hb hby at_117) ?_
      show Steps p.tables e below (T108.setTop (mkF m 118 #[.val (.int p1), .val (.int p2), .val (.int p3), .val (.int p4), .val (.int p5), .val (.int p6), .val (.int (0 : Int32)), .val (.int ((p1.toUInt32 >>> ((1 : Int32) &&& 31).toUInt32).toInt32)), .val (.int ((256 : Int32) + (((p1.toUInt32 >>> ((1 : Int32) &&& 31).toUInt32).toInt32) % (65280 : Int32)))), .val (.int (65535 : Int32)), .val (.int (p2 &&& (65535 : Int32))), .val (.int (p3 &&& (65535 : Int32))), .val (.int (p4 &&& (65535 : Int32))), .val (.int ((p5 &&& (2147483647 : Int32)) % (4 : Int32))), .val (.ref b103), .unset] [(.int (3 : Int32)), (.ref b108), (.ref b108)])) _
      refine XS.iload X108.here hx rfl (hb hby at_118) rfl ?_
      show Steps p.tables e below (T108.setTop (mkF m 120 #[.val (.int p1), .val (.int p2), .val (.int p3), .val (.int p4), .val (.int p5), .val (.int p6), .val (.int (0 : Int32)), .val (.int ((p1.toUInt32 >>> ((1 : Int32) &&& 31).toUInt32).toInt32)), .val (.int ((256 : Int32) + (((p1.toUInt32 >>> ((1 : Int32) &&& 31).toUInt32).toInt32) % (65280 : Int32)))), .val (.int (65535 : Int32)), .val (.int (p2 &&& (65535 : Int32))), .val (.int (p3 &&& (65535 : Int32))), .val (.int (p4 &&& (65535 : Int32))), .val (.int ((p5 &&& (2147483647 : Int32)) % (4 : Int32))), .val (.ref b103), .unset] [(.int ((256 : Int32) + (((p1.toUInt32 >>> ((1 : Int32) &&& 31).toUInt32).toInt32) % (65280 : Int32)))), (.int (3 : Int32)), (.ref b108), (.ref b108)])) _
      refine st113.trans ?_
      show Steps p.tables e below (T113.setTop (mkF m 123 #[.val (.int p1), .val (.int p2), .val (.int p3), .val (.int p4), .val (.int p5), .val (.int p6), .val (.int (0 : Int32)), .val (.int ((p1.toUInt32 >>> ((1 : Int32) &&& 31).toUInt32).toInt32)), .val (.int ((256 : Int32) + (((p1.toUInt32 >>> ((1 : Int32) &&& 31).toUInt32).toInt32) % (65280 : Int32)))), .val (.int (65535 : Int32)), .val (.int (p2 &&& (65535 : Int32))), .val (.int (p3 &&& (65535 : Int32))), .val (.int (p4 &&& (65535 : Int32))), .val (.int ((p5 &&& (2147483647 : Int32)) % (4 : Int32))), .val (.ref b103), .unset] [(.ref b108)])) _
      refine XS.astore X113.here hx rfl (hb hby at_123) rfl rfl (l' := #[.val (.int p1), .val (.int p2), .val (.int p3), .val (.int p4), .val (.int p5), .val (.int p6), .val (.int (0 : Int32)), .val (.int ((p1.toUInt32 >>> ((1 : Int32) &&& 31).toUInt32).toInt32)), .val (.int ((256 : Int32) + (((p1.toUInt32 >>> ((1 : Int32) &&& 31).toUInt32).toInt32) % (65280 : Int32)))), .val (.int (65535 : Int32)), .val (.int (p2 &&& (65535 : Int32))), .val (.int (p3 &&& (65535 : Int32))), .val (.int (p4 &&& (65535 : Int32))), .val (.int ((p5 &&& (2147483647 : Int32)) % (4 : Int32))), .val (.ref b103), .val (.ref b108)]) rfl ?_
      show Steps p.tables e below (T113.setTop (mkF m 125 #[.val (.int p1), .val (.int p2), .val (.int p3), .val (.int p4), .val (.int p5), .val (.int p6), .val (.int (0 : Int32)), .val (.int ((p1.toUInt32 >>> ((1 : Int32) &&& 31).toUInt32).toInt32)), .val (.int ((256 : Int32) + (((p1.toUInt32 >>> ((1 : Int32) &&& 31).toUInt32).toInt32) % (65280 : Int32)))), .val (.int (65535 : Int32)), .val (.int (p2 &&& (65535 : Int32))), .val (.int (p3 &&& (65535 : Int32))), .val (.int (p4 &&& (65535 : Int32))), .val (.int ((p5 &&& (2147483647 : Int32)) % (4 : Int32))), .val (.ref b103), .val (.ref b108)] [])) _
      refine XS.aload X113.here hx rfl (hb hby at_125) rfl rfl ?_
      show Steps p.tables e below (T113.setTop (mkF m 127 #[.val (.int p1), .val (.int p2), .val (.int p3), .val (.int p4), .val (.int p5), .val (.int p6), .val (.int (0 : Int32)), .val (.int ((p1.toUInt32 >>> ((1 : Int32) &&& 31).toUInt32).toInt32)), .val (.int ((256 : Int32) + (((p1.toUInt32 >>> ((1 : Int32) &&& 31).toUInt32).toInt32) % (65280 : Int32)))), .val (.int (65535 : Int32)), .val (.int (p2 &&& (65535 : Int32))), .val (.int (p3 &&& (65535 : Int32))), .val (.int (p4 &&& (65535 : Int32))), .val (.int ((p5 &&& (2147483647 : Int32)) % (4 : Int32))), .val (.ref b103), .val (.ref b108)] [(.ref b108)])) _
      refine XS.iconst X113.here hx rfl (hb hby at_127) ?_
      show Steps p.tables e below (T113.setTop (mkF m 128 #[.val (.int p1), .val (.int p2), .val (.int p3), .val (.int p4), .val (.int p5), .val (.int p6), .val (.int (0 : Int32)), .val (.int ((p1.toUInt32 >>> ((1 : Int32) &&& 31).toUInt32).toInt32)), .val (.int ((256 : Int32) + (((p1.toUInt32 >>> ((1 : Int32) &&& 31).toUInt32).toInt32) % (65280 : Int32)))), .val (.int (65535 : Int32)), .val (.int (p2 &&& (65535 : Int32))), .val (.int (p3 &&& (65535 : Int32))), .val (.int (p4 &&& (65535 : Int32))), .val (.int ((p5 &&& (2147483647 : Int32)) % (4 : Int32))), .val (.ref b103), .val (.ref b108)] [(.int (0 : Int32)), (.ref b108)])) _
      refine XS.iload X113.here hx rfl (hb hby at_128) rfl ?_
      show Steps p.tables e below (T113.setTop (mkF m 130 #[.val (.int p1), .val (.int p2), .val (.int p3), .val (.int p4), .val (.int p5), .val (.int p6), .val (.int (0 : Int32)), .val (.int ((p1.toUInt32 >>> ((1 : Int32) &&& 31).toUInt32).toInt32)), .val (.int ((256 : Int32) + (((p1.toUInt32 >>> ((1 : Int32) &&& 31).toUInt32).toInt32) % (65280 : Int32)))), .val (.int (65535 : Int32)), .val (.int (p2 &&& (65535 : Int32))), .val (.int (p3 &&& (65535 : Int32))), .val (.int (p4 &&& (65535 : Int32))), .val (.int ((p5 &&& (2147483647 : Int32)) % (4 : Int32))), .val (.ref b103), .val (.ref b108)] [(.int (p2 &&& (65535 : Int32))), (.int (0 : Int32)), (.ref b108)])) _
      refine st117.trans ?_
      show Steps p.tables e below (T117.setTop (mkF m 133 #[.val (.int p1), .val (.int p2), .val (.int p3), .val (.int p4), .val (.int p5), .val (.int p6), .val (.int (0 : Int32)), .val (.int ((p1.toUInt32 >>> ((1 : Int32) &&& 31).toUInt32).toInt32)), .val (.int ((256 : Int32) + (((p1.toUInt32 >>> ((1 : Int32) &&& 31).toUInt32).toInt32) % (65280 : Int32)))), .val (.int (65535 : Int32)), .val (.int (p2 &&& (65535 : Int32))), .val (.int (p3 &&& (65535 : Int32))), .val (.int (p4 &&& (65535 : Int32))), .val (.int ((p5 &&& (2147483647 : Int32)) % (4 : Int32))), .val (.ref b103), .val (.ref b108)] [])) _
      refine XS.aload X117.here hx rfl (hb hby at_133) rfl rfl ?_
      show Steps p.tables e below (T117.setTop (mkF m 135 #[.val (.int p1), .val (.int p2), .val (.int p3), .val (.int p4), .val (.int p5), .val (.int p6), .val (.int (0 : Int32)), .val (.int ((p1.toUInt32 >>> ((1 : Int32) &&& 31).toUInt32).toInt32)), .val (.int ((256 : Int32) + (((p1.toUInt32 >>> ((1 : Int32) &&& 31).toUInt32).toInt32) % (65280 : Int32)))), .val (.int (65535 : Int32)), .val (.int (p2 &&& (65535 : Int32))), .val (.int (p3 &&& (65535 : Int32))), .val (.int (p4 &&& (65535 : Int32))), .val (.int ((p5 &&& (2147483647 : Int32)) % (4 : Int32))), .val (.ref b103), .val (.ref b108)] [(.ref b108)])) _
      refine XS.iconst X117.here hx rfl (hb hby at_135) ?_
      show Steps p.tables e below (T117.setTop (mkF m 136 #[.val (.int p1), .val (.int p2), .val (.int p3), .val (.int p4), .val (.int p5), .val (.int p6), .val (.int (0 : Int32)), .val (.int ((p1.toUInt32 >>> ((1 : Int32) &&& 31).toUInt32).toInt32)), .val (.int ((256 : Int32) + (((p1.toUInt32 >>> ((1 : Int32) &&& 31).toUInt32).toInt32) % (65280 : Int32)))), .val (.int (65535 : Int32)), .val (.int (p2 &&& (65535 : Int32))), .val (.int (p3 &&& (65535 : Int32))), .val (.int (p4 &&& (65535 : Int32))), .val (.int ((p5 &&& (2147483647 : Int32)) % (4 : Int32))), .val (.ref b103), .val (.ref b108)] [(.int (1 : Int32)), (.ref b108)])) _
      refine XS.iload X117.here hx rfl (hb hby at_136) rfl ?_
      show Steps p.tables e below (T117.setTop (mkF m 138 #[.val (.int p1), .val (.int p2), .val (.int p3), .val (.int p4), .val (.int p5), .val (.int p6), .val (.int (0 : Int32)), .val (.int ((p1.toUInt32 >>> ((1 : Int32) &&& 31).toUInt32).toInt32)), .val (.int ((256 : Int32) + (((p1.toUInt32 >>> ((1 : Int32) &&& 31).toUInt32).toInt32) % (65280 : Int32)))), .val (.int (65535 : Int32)), .val (.int (p2 &&& (65535 : Int32))), .val (.int (p3 &&& (65535 : Int32))), .val (.int (p4 &&& (65535 : Int32))), .val (.int ((p5 &&& (2147483647 : Int32)) % (4 : Int32))), .val (.ref b103), .val (.ref b108)] [(.int (p3 &&& (65535 : Int32))), (.int (1 : Int32)), (.ref b108)])) _
      refine st123.trans ?_
      show Steps p.tables e below (T123.setTop (mkF m 141 #[.val (.int p1), .val (.int p2), .val (.int p3), .val (.int p4), .val (.int p5), .val (.int p6), .val (.int (0 : Int32)), .val (.int ((p1.toUInt32 >>> ((1 : Int32) &&& 31).toUInt32).toInt32)), .val (.int ((256 : Int32) + (((p1.toUInt32 >>> ((1 : Int32) &&& 31).toUInt32).toInt32) % (65280 : Int32)))), .val (.int (65535 : Int32)), .val (.int (p2 &&& (65535 : Int32))), .val (.int (p3 &&& (65535 : Int32))), .val (.int (p4 &&& (65535 : Int32))), .val (.int ((p5 &&& (2147483647 : Int32)) % (4 : Int32))), .val (.ref b103), .val (.ref b108)] [])) _
      refine XS.aload X123.here hx rfl (hb hby at_141) rfl rfl ?_
      show Steps p.tables e below (T123.setTop (mkF m 143 #[.val (.int p1), .val (.int p2), .val (.int p3), .val (.int p4), .val (.int p5), .val (.int p6), .val (.int (0 : Int32)), .val (.int ((p1.toUInt32 >>> ((1 : Int32) &&& 31).toUInt32).toInt32)), .val (.int ((256 : Int32) + (((p1.toUInt32 >>> ((1 : Int32) &&& 31).toUInt32).toInt32) % (65280 : Int32)))), .val (.int (65535 : Int32)), .val (.int (p2 &&& (65535 : Int32))), .val (.int (p3 &&& (65535 : Int32))), .val (.int (p4 &&& (65535 : Int32))), .val (.int ((p5 &&& (2147483647 : Int32)) % (4 : Int32))), .val (.ref b103), .val (.ref b108)] [(.ref b108)])) _
      refine XS.iconst X123.here hx rfl (hb hby at_143) ?_
      show Steps p.tables e below (T123.setTop (mkF m 144 #[.val (.int p1), .val (.int p2), .val (.int p3), .val (.int p4), .val (.int p5), .val (.int p6), .val (.int (0 : Int32)), .val (.int ((p1.toUInt32 >>> ((1 : Int32) &&& 31).toUInt32).toInt32)), .val (.int ((256 : Int32) + (((p1.toUInt32 >>> ((1 : Int32) &&& 31).toUInt32).toInt32) % (65280 : Int32)))), .val (.int (65535 : Int32)), .val (.int (p2 &&& (65535 : Int32))), .val (.int (p3 &&& (65535 : Int32))), .val (.int (p4 &&& (65535 : Int32))), .val (.int ((p5 &&& (2147483647 : Int32)) % (4 : Int32))), .val (.ref b103), .val (.ref b108)] [(.int (2 : Int32)), (.ref b108)])) _
      refine XS.iload X123.here hx rfl (hb hby at_144) rfl ?_
      show Steps p.tables e below (T123.setTop (mkF m 146 #[.val (.int p1), .val (.int p2), .val (.int p3), .val (.int p4), .val (.int p5), .val (.int p6), .val (.int (0 : Int32)), .val (.int ((p1.toUInt32 >>> ((1 : Int32) &&& 31).toUInt32).toInt32)), .val (.int ((256 : Int32) + (((p1.toUInt32 >>> ((1 : Int32) &&& 31).toUInt32).toInt32) % (65280 : Int32)))), .val (.int (65535 : Int32)), .val (.int (p2 &&& (65535 : Int32))), .val (.int (p3 &&& (65535 : Int32))), .val (.int (p4 &&& (65535 : Int32))), .val (.int ((p5 &&& (2147483647 : Int32)) % (4 : Int32))), .val (.ref b103), .val (.ref b108)] [(.int (p4 &&& (65535 : Int32))), (.int (2 : Int32)), (.ref b108)])) _
      refine st128.trans ?_
      show Steps p.tables e below (T128.setTop (mkF m 149 #[.val (.int p1), .val (.int p2), .val (.int p3), .val (.int p4), .val (.int p5), .val (.int p6), .val (.int (0 : Int32)), .val (.int ((p1.toUInt32 >>> ((1 : Int32) &&& 31).toUInt32).toInt32)), .val (.int ((256 : Int32) + (((p1.toUInt32 >>> ((1 : Int32) &&& 31).toUInt32).toInt32) % (65280 : Int32)))), .val (.int (65535 : Int32)), .val (.int (p2 &&& (65535 : Int32))), .val (.int (p3 &&& (65535 : Int32))), .val (.int (p4 &&& (65535 : Int32))), .val (.int ((p5 &&& (2147483647 : Int32)) % (4 : Int32))), .val (.ref b103), .val (.ref b108)] [])) _
      refine XS.aload X128.here hx rfl (hb hby at_149) rfl rfl ?_
      show Steps p.tables e below (T128.setTop (mkF m 151 #[.val (.int p1), .val (.int p2), .val (.int p3), .val (.int p4), .val (.int p5), .val (.int p6), .val (.int (0 : Int32)), .val (.int ((p1.toUInt32 >>> ((1 : Int32) &&& 31).toUInt32).toInt32)), .val (.int ((256 : Int32) + (((p1.toUInt32 >>> ((1 : Int32) &&& 31).toUInt32).toInt32) % (65280 : Int32)))), .val (.int (65535 : Int32)), .val (.int (p2 &&& (65535 : Int32))), .val (.int (p3 &&& (65535 : Int32))), .val (.int (p4 &&& (65535 : Int32))), .val (.int ((p5 &&& (2147483647 : Int32)) % (4 : Int32))), .val (.ref b103), .val (.ref b108)] [(.ref b108)])) _
      refine XS.iload X128.here hx rfl (hb hby at_151) rfl ?_
      show Steps p.tables e below (T128.setTop (mkF m 153 #[.val (.int p1), .val (.int p2), .val (.int p3), .val (.int p4), .val (.int p5), .val (.int p6), .val (.int (0 : Int32)), .val (.int ((p1.toUInt32 >>> ((1 : Int32) &&& 31).toUInt32).toInt32)), .val (.int ((256 : Int32) + (((p1.toUInt32 >>> ((1 : Int32) &&& 31).toUInt32).toInt32) % (65280 : Int32)))), .val (.int (65535 : Int32)), .val (.int (p2 &&& (65535 : Int32))), .val (.int (p3 &&& (65535 : Int32))), .val (.int (p4 &&& (65535 : Int32))), .val (.int ((p5 &&& (2147483647 : Int32)) % (4 : Int32))), .val (.ref b103), .val (.ref b108)] [(.int ((p5 &&& (2147483647 : Int32)) % (4 : Int32))), (.ref b108)])) _
      refine XS.aload X128.here hx rfl (hb hby at_153) rfl rfl ?_
      show Steps p.tables e below (T128.setTop (mkF m 155 #[.val (.int p1), .val (.int p2), .val (.int p3), .val (.int p4), .val (.int p5), .val (.int p6), .val (.int (0 : Int32)), .val (.int ((p1.toUInt32 >>> ((1 : Int32) &&& 31).toUInt32).toInt32)), .val (.int ((256 : Int32) + (((p1.toUInt32 >>> ((1 : Int32) &&& 31).toUInt32).toInt32) % (65280 : Int32)))), .val (.int (65535 : Int32)), .val (.int (p2 &&& (65535 : Int32))), .val (.int (p3 &&& (65535 : Int32))), .val (.int (p4 &&& (65535 : Int32))), .val (.int ((p5 &&& (2147483647 : Int32)) % (4 : Int32))), .val (.ref b103), .val (.ref b108)] [(.ref b103), (.int ((p5 &&& (2147483647 : Int32)) % (4 : Int32))), (.ref b108)])) _
      refine st136.trans ?_
      show Steps p.tables e below (T136.setTop (mkF m 158 #[.val (.int p1), .val (.int p2), .val (.int p3), .val (.int p4), .val (.int p5), .val (.int p6), .val (.int (0 : Int32)), .val (.int ((p1.toUInt32 >>> ((1 : Int32) &&& 31).toUInt32).toInt32)), .val (.int ((256 : Int32) + (((p1.toUInt32 >>> ((1 : Int32) &&& 31).toUInt32).toInt32) % (65280 : Int32)))), .val (.int (65535 : Int32)), .val (.int (p2 &&& (65535 : Int32))), .val (.int (p3 &&& (65535 : Int32))), .val (.int (p4 &&& (65535 : Int32))), .val (.int ((p5 &&& (2147483647 : Int32)) % (4 : Int32))), .val (.ref b103), .val (.ref b108)] [])) _
      refine XS.aload X136.here hx rfl (hb hby at_158) rfl rfl ?_
      show Steps p.tables e below (T136.setTop (mkF m 160 #[.val (.int p1), .val (.int p2), .val (.int p3), .val (.int p4), .val (.int p5), .val (.int p6), .val (.int (0 : Int32)), .val (.int ((p1.toUInt32 >>> ((1 : Int32) &&& 31).toUInt32).toInt32)), .val (.int ((256 : Int32) + (((p1.toUInt32 >>> ((1 : Int32) &&& 31).toUInt32).toInt32) % (65280 : Int32)))), .val (.int (65535 : Int32)), .val (.int (p2 &&& (65535 : Int32))), .val (.int (p3 &&& (65535 : Int32))), .val (.int (p4 &&& (65535 : Int32))), .val (.int ((p5 &&& (2147483647 : Int32)) % (4 : Int32))), .val (.ref b103), .val (.ref b108)] [(.ref b103)])) _
      refine XS.iconst X136.here hx rfl (hb hby at_160) ?_
      show Steps p.tables e below (T136.setTop (mkF m 161 #[.val (.int p1), .val (.int p2), .val (.int p3), .val (.int p4), .val (.int p5), .val (.int p6), .val (.int (0 : Int32)), .val (.int ((p1.toUInt32 >>> ((1 : Int32) &&& 31).toUInt32).toInt32)), .val (.int ((256 : Int32) + (((p1.toUInt32 >>> ((1 : Int32) &&& 31).toUInt32).toInt32) % (65280 : Int32)))), .val (.int (65535 : Int32)), .val (.int (p2 &&& (65535 : Int32))), .val (.int (p3 &&& (65535 : Int32))), .val (.int (p4 &&& (65535 : Int32))), .val (.int ((p5 &&& (2147483647 : Int32)) % (4 : Int32))), .val (.ref b103), .val (.ref b108)] [(.int (0 : Int32)), (.ref b103)])) _
      refine X136.iaload hx (j := (0 : Int32)) (v := (.int (own_e p6 (0 : Int32) ((p5 &&& (2147483647 : Int32)) % (4 : Int32)) (nar .char ((p2 &&& (65535 : Int32)).toUInt32.toUInt16.toUInt32.toInt32))))) Ar138.1 (State.isArrayOf_alike hZ.alike Ar138.2.1) Ar138.2.2 hin138 (Hh138.at hin138 (rfl)) (g := (mkF m 161 #[.val (.int p1), .val (.int p2), .val (.int p3), .val (.int p4), .val (.int p5), .val (.int p6), .val (.int (0 : Int32)), .val (.int ((p1.toUInt32 >>> ((1 : Int32) &&& 31).toUInt32).toInt32)), .val (.int ((256 : Int32) + (((p1.toUInt32 >>> ((1 : Int32) &&& 31).toUInt32).toInt32) % (65280 : Int32)))), .val (.int (65535 : Int32)), .val (.int (p2 &&& (65535 : Int32))), .val (.int (p3 &&& (65535 : Int32))), .val (.int (p4 &&& (65535 : Int32))), .val (.int ((p5 &&& (2147483647 : Int32)) % (4 : Int32))), .val (.ref b103), .val (.ref b108)] [(.int (0 : Int32)), (.ref b103)])) rfl rfl (hb hby at_161) _ ?_
      show Steps p.tables e below (T136.setTop (mkF m 162 #[.val (.int p1), .val (.int p2), .val (.int p3), .val (.int p4), .val (.int p5), .val (.int p6), .val (.int (0 : Int32)), .val (.int ((p1.toUInt32 >>> ((1 : Int32) &&& 31).toUInt32).toInt32)), .val (.int ((256 : Int32) + (((p1.toUInt32 >>> ((1 : Int32) &&& 31).toUInt32).toInt32) % (65280 : Int32)))), .val (.int (65535 : Int32)), .val (.int (p2 &&& (65535 : Int32))), .val (.int (p3 &&& (65535 : Int32))), .val (.int (p4 &&& (65535 : Int32))), .val (.int ((p5 &&& (2147483647 : Int32)) % (4 : Int32))), .val (.ref b103), .val (.ref b108)] [(.int (own_e p6 (0 : Int32) ((p5 &&& (2147483647 : Int32)) % (4 : Int32)) (nar .char ((p2 &&& (65535 : Int32)).toUInt32.toUInt16.toUInt32.toInt32))))])) _
      refine XS.iload X136.here hx rfl (hb hby at_162) rfl ?_
      show Steps p.tables e below (T136.setTop (mkF m 164 #[.val (.int p1), .val (.int p2), .val (.int p3), .val (.int p4), .val (.int p5), .val (.int p6), .val (.int (0 : Int32)), .val (.int ((p1.toUInt32 >>> ((1 : Int32) &&& 31).toUInt32).toInt32)), .val (.int ((256 : Int32) + (((p1.toUInt32 >>> ((1 : Int32) &&& 31).toUInt32).toInt32) % (65280 : Int32)))), .val (.int (65535 : Int32)), .val (.int (p2 &&& (65535 : Int32))), .val (.int (p3 &&& (65535 : Int32))), .val (.int (p4 &&& (65535 : Int32))), .val (.int ((p5 &&& (2147483647 : Int32)) % (4 : Int32))), .val (.ref b103), .val (.ref b108)] [(.int p6), (.int (own_e p6 (0 : Int32) ((p5 &&& (2147483647 : Int32)) % (4 : Int32)) (nar .char ((p2 &&& (65535 : Int32)).toUInt32.toUInt16.toUInt32.toInt32))))])) _
      refine XS.iconst X136.here hx rfl (hb hby at_164) ?_
      show Steps p.tables e below (T136.setTop (mkF m 165 #[.val (.int p1), .val (.int p2), .val (.int p3), .val (.int p4), .val (.int p5), .val (.int p6), .val (.int (0 : Int32)), .val (.int ((p1.toUInt32 >>> ((1 : Int32) &&& 31).toUInt32).toInt32)), .val (.int ((256 : Int32) + (((p1.toUInt32 >>> ((1 : Int32) &&& 31).toUInt32).toInt32) % (65280 : Int32)))), .val (.int (65535 : Int32)), .val (.int (p2 &&& (65535 : Int32))), .val (.int (p3 &&& (65535 : Int32))), .val (.int (p4 &&& (65535 : Int32))), .val (.int ((p5 &&& (2147483647 : Int32)) % (4 : Int32))), .val (.ref b103), .val (.ref b108)] [(.int (0 : Int32)), (.int p6), (.int (own_e p6 (0 : Int32) ((p5 &&& (2147483647 : Int32)) % (4 : Int32)) (nar .char ((p2 &&& (65535 : Int32)).toUInt32.toUInt16.toUInt32.toInt32))))])) _
      refine XS.iload X136.here hx rfl (hb hby at_165) rfl ?_
      show Steps p.tables e below (T136.setTop (mkF m 167 #[.val (.int p1), .val (.int p2), .val (.int p3), .val (.int p4), .val (.int p5), .val (.int p6), .val (.int (0 : Int32)), .val (.int ((p1.toUInt32 >>> ((1 : Int32) &&& 31).toUInt32).toInt32)), .val (.int ((256 : Int32) + (((p1.toUInt32 >>> ((1 : Int32) &&& 31).toUInt32).toInt32) % (65280 : Int32)))), .val (.int (65535 : Int32)), .val (.int (p2 &&& (65535 : Int32))), .val (.int (p3 &&& (65535 : Int32))), .val (.int (p4 &&& (65535 : Int32))), .val (.int ((p5 &&& (2147483647 : Int32)) % (4 : Int32))), .val (.ref b103), .val (.ref b108)] [(.int ((p5 &&& (2147483647 : Int32)) % (4 : Int32))), (.int (0 : Int32)), (.int p6), (.int (own_e p6 (0 : Int32) ((p5 &&& (2147483647 : Int32)) % (4 : Int32)) (nar .char ((p2 &&& (65535 : Int32)).toUInt32.toUInt16.toUInt32.toInt32))))])) _
      refine XS.iload X136.here hx rfl (hb hby at_167) rfl ?_
      show Steps p.tables e below (T136.setTop (mkF m 169 #[.val (.int p1), .val (.int p2), .val (.int p3), .val (.int p4), .val (.int p5), .val (.int p6), .val (.int (0 : Int32)), .val (.int ((p1.toUInt32 >>> ((1 : Int32) &&& 31).toUInt32).toInt32)), .val (.int ((256 : Int32) + (((p1.toUInt32 >>> ((1 : Int32) &&& 31).toUInt32).toInt32) % (65280 : Int32)))), .val (.int (65535 : Int32)), .val (.int (p2 &&& (65535 : Int32))), .val (.int (p3 &&& (65535 : Int32))), .val (.int (p4 &&& (65535 : Int32))), .val (.int ((p5 &&& (2147483647 : Int32)) % (4 : Int32))), .val (.ref b103), .val (.ref b108)] [(.int (p2 &&& (65535 : Int32))), (.int ((p5 &&& (2147483647 : Int32)) % (4 : Int32))), (.int (0 : Int32)), (.int p6), (.int (own_e p6 (0 : Int32) ((p5 &&& (2147483647 : Int32)) % (4 : Int32)) (nar .char ((p2 &&& (65535 : Int32)).toUInt32.toUInt16.toUInt32.toInt32))))])) _
      refine st139 _ ?_
      show Steps p.tables e below (T139.setTop (mkF m 172 #[.val (.int p1), .val (.int p2), .val (.int p3), .val (.int p4), .val (.int p5), .val (.int p6), .val (.int (0 : Int32)), .val (.int ((p1.toUInt32 >>> ((1 : Int32) &&& 31).toUInt32).toInt32)), .val (.int ((256 : Int32) + (((p1.toUInt32 >>> ((1 : Int32) &&& 31).toUInt32).toInt32) % (65280 : Int32)))), .val (.int (65535 : Int32)), .val (.int (p2 &&& (65535 : Int32))), .val (.int (p3 &&& (65535 : Int32))), .val (.int (p4 &&& (65535 : Int32))), .val (.int ((p5 &&& (2147483647 : Int32)) % (4 : Int32))), .val (.ref b103), .val (.ref b108)] [(.int (own_x p6 (0 : Int32) ((p5 &&& (2147483647 : Int32)) % (4 : Int32)) (p2 &&& (65535 : Int32)))), (.int (own_e p6 (0 : Int32) ((p5 &&& (2147483647 : Int32)) % (4 : Int32)) (nar .char ((p2 &&& (65535 : Int32)).toUInt32.toUInt16.toUInt32.toInt32))))])) _
      refine XS.icmpNo X139.here hx rfl (hb hby at_172) rfl (teq (own_ex _ _ _ _ _ (own_cz _) : (own_e p6 (0 : Int32) ((p5 &&& (2147483647 : Int32)) % (4 : Int32)) (nar .char ((p2 &&& (65535 : Int32)).toUInt32.toUInt16.toUInt32.toInt32))) = (own_x p6 (0 : Int32) ((p5 &&& (2147483647 : Int32)) % (4 : Int32)) (p2 &&& (65535 : Int32))))).2 ?_
      show Steps p.tables e below (T139.setTop (mkF m 175 #[.val (.int p1), .val (.int p2), .val (.int p3), .val (.int p4), .val (.int p5), .val (.int p6), .val (.int (0 : Int32)), .val (.int ((p1.toUInt32 >>> ((1 : Int32) &&& 31).toUInt32).toInt32)), .val (.int ((256 : Int32) + (((p1.toUInt32 >>> ((1 : Int32) &&& 31).toUInt32).toInt32) % (65280 : Int32)))), .val (.int (65535 : Int32)), .val (.int (p2 &&& (65535 : Int32))), .val (.int (p3 &&& (65535 : Int32))), .val (.int (p4 &&& (65535 : Int32))), .val (.int ((p5 &&& (2147483647 : Int32)) % (4 : Int32))), .val (.ref b103), .val (.ref b108)] [])) _
      refine XS.aload X139.here hx rfl (hb hby at_175) rfl rfl ?_
      show Steps p.tables e below (T139.setTop (mkF m 177 #[.val (.int p1), .val (.int p2), .val (.int p3), .val (.int p4), .val (.int p5), .val (.int p6), .val (.int (0 : Int32)), .val (.int ((p1.toUInt32 >>> ((1 : Int32) &&& 31).toUInt32).toInt32)), .val (.int ((256 : Int32) + (((p1.toUInt32 >>> ((1 : Int32) &&& 31).toUInt32).toInt32) % (65280 : Int32)))), .val (.int (65535 : Int32)), .val (.int (p2 &&& (65535 : Int32))), .val (.int (p3 &&& (65535 : Int32))), .val (.int (p4 &&& (65535 : Int32))), .val (.int ((p5 &&& (2147483647 : Int32)) % (4 : Int32))), .val (.ref b103), .val (.ref b108)] [(.ref b103)])) _
      refine XS.iconst X139.here hx rfl (hb hby at_177) ?_
      show Steps p.tables e below (T139.setTop (mkF m 178 #[.val (.int p1), .val (.int p2), .val (.int p3), .val (.int p4), .val (.int p5), .val (.int p6), .val (.int (0 : Int32)), .val (.int ((p1.toUInt32 >>> ((1 : Int32) &&& 31).toUInt32).toInt32)), .val (.int ((256 : Int32) + (((p1.toUInt32 >>> ((1 : Int32) &&& 31).toUInt32).toInt32) % (65280 : Int32)))), .val (.int (65535 : Int32)), .val (.int (p2 &&& (65535 : Int32))), .val (.int (p3 &&& (65535 : Int32))), .val (.int (p4 &&& (65535 : Int32))), .val (.int ((p5 &&& (2147483647 : Int32)) % (4 : Int32))), .val (.ref b103), .val (.ref b108)] [(.int (1 : Int32)), (.ref b103)])) _
      refine X139.iaload hx (j := (1 : Int32)) (v := (.int (own_e (p6 ^^^ (42 : Int32)) (1 : Int32) ((p5 &&& (2147483647 : Int32)) % (4 : Int32)) (nar .char ((p3 &&& (65535 : Int32)).toUInt32.toUInt16.toUInt32.toInt32))))) (by rw [Heq139]; exact Ar141.1) (State.isArrayOf_alike hZ.alike Ar141.2.1) Ar141.2.2 hin141 (Hh141.at hin141 (rfl)) (g := (mkF m 178 #[.val (.int p1), .val (.int p2), .val (.int p3), .val (.int p4), .val (.int p5), .val (.int p6), .val (.int (0 : Int32)), .val (.int ((p1.toUInt32 >>> ((1 : Int32) &&& 31).toUInt32).toInt32)), .val (.int ((256 : Int32) + (((p1.toUInt32 >>> ((1 : Int32) &&& 31).toUInt32).toInt32) % (65280 : Int32)))), .val (.int (65535 : Int32)), .val (.int (p2 &&& (65535 : Int32))), .val (.int (p3 &&& (65535 : Int32))), .val (.int (p4 &&& (65535 : Int32))), .val (.int ((p5 &&& (2147483647 : Int32)) % (4 : Int32))), .val (.ref b103), .val (.ref b108)] [(.int (1 : Int32)), (.ref b103)])) rfl rfl (hb hby at_178) _ ?_
      show Steps p.tables e below (T139.setTop (mkF m 179 #[.val (.int p1), .val (.int p2), .val (.int p3), .val (.int p4), .val (.int p5), .val (.int p6), .val (.int (0 : Int32)), .val (.int ((p1.toUInt32 >>> ((1 : Int32) &&& 31).toUInt32).toInt32)), .val (.int ((256 : Int32) + (((p1.toUInt32 >>> ((1 : Int32) &&& 31).toUInt32).toInt32) % (65280 : Int32)))), .val (.int (65535 : Int32)), .val (.int (p2 &&& (65535 : Int32))), .val (.int (p3 &&& (65535 : Int32))), .val (.int (p4 &&& (65535 : Int32))), .val (.int ((p5 &&& (2147483647 : Int32)) % (4 : Int32))), .val (.ref b103), .val (.ref b108)] [(.int (own_e (p6 ^^^ (42 : Int32)) (1 : Int32) ((p5 &&& (2147483647 : Int32)) % (4 : Int32)) (nar .char ((p3 &&& (65535 : Int32)).toUInt32.toUInt16.toUInt32.toInt32))))])) _
      refine XS.iload X139.here hx rfl (hb hby at_179) rfl ?_
      show Steps p.tables e below (T139.setTop (mkF m 181 #[.val (.int p1), .val (.int p2), .val (.int p3), .val (.int p4), .val (.int p5), .val (.int p6), .val (.int (0 : Int32)), .val (.int ((p1.toUInt32 >>> ((1 : Int32) &&& 31).toUInt32).toInt32)), .val (.int ((256 : Int32) + (((p1.toUInt32 >>> ((1 : Int32) &&& 31).toUInt32).toInt32) % (65280 : Int32)))), .val (.int (65535 : Int32)), .val (.int (p2 &&& (65535 : Int32))), .val (.int (p3 &&& (65535 : Int32))), .val (.int (p4 &&& (65535 : Int32))), .val (.int ((p5 &&& (2147483647 : Int32)) % (4 : Int32))), .val (.ref b103), .val (.ref b108)] [(.int p6), (.int (own_e (p6 ^^^ (42 : Int32)) (1 : Int32) ((p5 &&& (2147483647 : Int32)) % (4 : Int32)) (nar .char ((p3 &&& (65535 : Int32)).toUInt32.toUInt16.toUInt32.toInt32))))])) _
      refine XS.bipush X139.here hx rfl (hb hby at_181) ?_
      show Steps p.tables e below (T139.setTop (mkF m 183 #[.val (.int p1), .val (.int p2), .val (.int p3), .val (.int p4), .val (.int p5), .val (.int p6), .val (.int (0 : Int32)), .val (.int ((p1.toUInt32 >>> ((1 : Int32) &&& 31).toUInt32).toInt32)), .val (.int ((256 : Int32) + (((p1.toUInt32 >>> ((1 : Int32) &&& 31).toUInt32).toInt32) % (65280 : Int32)))), .val (.int (65535 : Int32)), .val (.int (p2 &&& (65535 : Int32))), .val (.int (p3 &&& (65535 : Int32))), .val (.int (p4 &&& (65535 : Int32))), .val (.int ((p5 &&& (2147483647 : Int32)) % (4 : Int32))), .val (.ref b103), .val (.ref b108)] [(.int (42 : Int32)), (.int p6), (.int (own_e (p6 ^^^ (42 : Int32)) (1 : Int32) ((p5 &&& (2147483647 : Int32)) % (4 : Int32)) (nar .char ((p3 &&& (65535 : Int32)).toUInt32.toUInt16.toUInt32.toInt32))))])) _
      refine XS.ixor X139.here hx rfl (hb hby at_183) rfl ?_
      show Steps p.tables e below (T139.setTop (mkF m 184 #[.val (.int p1), .val (.int p2), .val (.int p3), .val (.int p4), .val (.int p5), .val (.int p6), .val (.int (0 : Int32)), .val (.int ((p1.toUInt32 >>> ((1 : Int32) &&& 31).toUInt32).toInt32)), .val (.int ((256 : Int32) + (((p1.toUInt32 >>> ((1 : Int32) &&& 31).toUInt32).toInt32) % (65280 : Int32)))), .val (.int (65535 : Int32)), .val (.int (p2 &&& (65535 : Int32))), .val (.int (p3 &&& (65535 : Int32))), .val (.int (p4 &&& (65535 : Int32))), .val (.int ((p5 &&& (2147483647 : Int32)) % (4 : Int32))), .val (.ref b103), .val (.ref b108)] [(.int (p6 ^^^ (42 : Int32))), (.int (own_e (p6 ^^^ (42 : Int32)) (1 : Int32) ((p5 &&& (2147483647 : Int32)) % (4 : Int32)) (nar .char ((p3 &&& (65535 : Int32)).toUInt32.toUInt16.toUInt32.toInt32))))])) _
      refine XS.iconst X139.here hx rfl (hb hby at_184) ?_
      show Steps p.tables e below (T139.setTop (mkF m 185 #[.val (.int p1), .val (.int p2), .val (.int p3), .val (.int p4), .val (.int p5), .val (.int p6), .val (.int (0 : Int32)), .val (.int ((p1.toUInt32 >>> ((1 : Int32) &&& 31).toUInt32).toInt32)), .val (.int ((256 : Int32) + (((p1.toUInt32 >>> ((1 : Int32) &&& 31).toUInt32).toInt32) % (65280 : Int32)))), .val (.int (65535 : Int32)), .val (.int (p2 &&& (65535 : Int32))), .val (.int (p3 &&& (65535 : Int32))), .val (.int (p4 &&& (65535 : Int32))), .val (.int ((p5 &&& (2147483647 : Int32)) % (4 : Int32))), .val (.ref b103), .val (.ref b108)] [(.int (1 : Int32)), (.int (p6 ^^^ (42 : Int32))), (.int (own_e (p6 ^^^ (42 : Int32)) (1 : Int32) ((p5 &&& (2147483647 : Int32)) % (4 : Int32)) (nar .char ((p3 &&& (65535 : Int32)).toUInt32.toUInt16.toUInt32.toInt32))))])) _
      refine XS.iload X139.here hx rfl (hb hby at_185) rfl ?_
      show Steps p.tables e below (T139.setTop (mkF m 187 #[.val (.int p1), .val (.int p2), .val (.int p3), .val (.int p4), .val (.int p5), .val (.int p6), .val (.int (0 : Int32)), .val (.int ((p1.toUInt32 >>> ((1 : Int32) &&& 31).toUInt32).toInt32)), .val (.int ((256 : Int32) + (((p1.toUInt32 >>> ((1 : Int32) &&& 31).toUInt32).toInt32) % (65280 : Int32)))), .val (.int (65535 : Int32)), .val (.int (p2 &&& (65535 : Int32))), .val (.int (p3 &&& (65535 : Int32))), .val (.int (p4 &&& (65535 : Int32))), .val (.int ((p5 &&& (2147483647 : Int32)) % (4 : Int32))), .val (.ref b103), .val (.ref b108)] [(.int ((p5 &&& (2147483647 : Int32)) % (4 : Int32))), (.int (1 : Int32)), (.int (p6 ^^^ (42 : Int32))), (.int (own_e (p6 ^^^ (42 : Int32)) (1 : Int32) ((p5 &&& (2147483647 : Int32)) % (4 : Int32)) (nar .char ((p3 &&& (65535 : Int32)).toUInt32.toUInt16.toUInt32.toInt32))))])) _
      refine XS.iload X139.here hx rfl (hb hby at_187) rfl ?_
      show Steps p.tables e below (T139.setTop (mkF m 189 #[.val (.int p1), .val (.int p2), .val (.int p3), .val (.int p4), .val (.int p5), .val (.int p6), .val (.int (0 : Int32)), .val (.int ((p1.toUInt32 >>> ((1 : Int32) &&& 31).toUInt32).toInt32)), .val (.int ((256 : Int32) + (((p1.toUInt32 >>> ((1 : Int32) &&& 31).toUInt32).toInt32) % (65280 : Int32)))), .val (.int (65535 : Int32)), .val (.int (p2 &&& (65535 : Int32))), .val (.int (p3 &&& (65535 : Int32))), .val (.int (p4 &&& (65535 : Int32))), .val (.int ((p5 &&& (2147483647 : Int32)) % (4 : Int32))), .val (.ref b103), .val (.ref b108)] [(.int (p3 &&& (65535 : Int32))), (.int ((p5 &&& (2147483647 : Int32)) % (4 : Int32))), (.int (1 : Int32)), (.int (p6 ^^^ (42 : Int32))), (.int (own_e (p6 ^^^ (42 : Int32)) (1 : Int32) ((p5 &&& (2147483647 : Int32)) % (4 : Int32)) (nar .char ((p3 &&& (65535 : Int32)).toUInt32.toUInt16.toUInt32.toInt32))))])) _
      refine st142 _ ?_
      show Steps p.tables e below (T142.setTop (mkF m 192 #[.val (.int p1), .val (.int p2), .val (.int p3), .val (.int p4), .val (.int p5), .val (.int p6), .val (.int (0 : Int32)), .val (.int ((p1.toUInt32 >>> ((1 : Int32) &&& 31).toUInt32).toInt32)), .val (.int ((256 : Int32) + (((p1.toUInt32 >>> ((1 : Int32) &&& 31).toUInt32).toInt32) % (65280 : Int32)))), .val (.int (65535 : Int32)), .val (.int (p2 &&& (65535 : Int32))), .val (.int (p3 &&& (65535 : Int32))), .val (.int (p4 &&& (65535 : Int32))), .val (.int ((p5 &&& (2147483647 : Int32)) % (4 : Int32))), .val (.ref b103), .val (.ref b108)] [(.int (own_x (p6 ^^^ (42 : Int32)) (1 : Int32) ((p5 &&& (2147483647 : Int32)) % (4 : Int32)) (p3 &&& (65535 : Int32)))), (.int (own_e (p6 ^^^ (42 : Int32)) (1 : Int32) ((p5 &&& (2147483647 : Int32)) % (4 : Int32)) (nar .char ((p3 &&& (65535 : Int32)).toUInt32.toUInt16.toUInt32.toInt32))))])) _
      refine XS.icmpNo X142.here hx rfl (hb hby at_192) rfl (teq (own_ex _ _ _ _ _ (own_cz _) : (own_e (p6 ^^^ (42 : Int32)) (1 : Int32) ((p5 &&& (2147483647 : Int32)) % (4 : Int32)) (nar .char ((p3 &&& (65535 : Int32)).toUInt32.toUInt16.toUInt32.toInt32))) = (own_x (p6 ^^^ (42 : Int32)) (1 : Int32) ((p5 &&& (2147483647 : Int32)) % (4 : Int32)) (p3 &&& (65535 : Int32))))).2 ?_
      show Steps p.tables e below (T142.setTop (mkF m 195 #[.val (.int p1), .val (.int p2), .val (.int p3), .val (.int p4), .val (.int p5), .val (.int p6), .val (.int (0 : Int32)), .val (.int ((p1.toUInt32 >>> ((1 : Int32) &&& 31).toUInt32).toInt32)), .val (.int ((256 : Int32) + (((p1.toUInt32 >>> ((1 : Int32) &&& 31).toUInt32).toInt32) % (65280 : Int32)))), .val (.int (65535 : Int32)), .val (.int (p2 &&& (65535 : Int32))), .val (.int (p3 &&& (65535 : Int32))), .val (.int (p4 &&& (65535 : Int32))), .val (.int ((p5 &&& (2147483647 : Int32)) % (4 : Int32))), .val (.ref b103), .val (.ref b108)] [])) _
      refine XS.aload X142.here hx rfl (hb hby at_195) rfl rfl ?_
      show Steps p.tables e below (T142.setTop (mkF m 197 #[.val (.int p1), .val (.int p2), .val (.int p3), .val (.int p4), .val (.int p5), .val (.int p6), .val (.int (0 : Int32)), .val (.int ((p1.toUInt32 >>> ((1 : Int32) &&& 31).toUInt32).toInt32)), .val (.int ((256 : Int32) + (((p1.toUInt32 >>> ((1 : Int32) &&& 31).toUInt32).toInt32) % (65280 : Int32)))), .val (.int (65535 : Int32)), .val (.int (p2 &&& (65535 : Int32))), .val (.int (p3 &&& (65535 : Int32))), .val (.int (p4 &&& (65535 : Int32))), .val (.int ((p5 &&& (2147483647 : Int32)) % (4 : Int32))), .val (.ref b103), .val (.ref b108)] [(.ref b103)])) _
      refine XS.iconst X142.here hx rfl (hb hby at_197) ?_
      show Steps p.tables e below (T142.setTop (mkF m 198 #[.val (.int p1), .val (.int p2), .val (.int p3), .val (.int p4), .val (.int p5), .val (.int p6), .val (.int (0 : Int32)), .val (.int ((p1.toUInt32 >>> ((1 : Int32) &&& 31).toUInt32).toInt32)), .val (.int ((256 : Int32) + (((p1.toUInt32 >>> ((1 : Int32) &&& 31).toUInt32).toInt32) % (65280 : Int32)))), .val (.int (65535 : Int32)), .val (.int (p2 &&& (65535 : Int32))), .val (.int (p3 &&& (65535 : Int32))), .val (.int (p4 &&& (65535 : Int32))), .val (.int ((p5 &&& (2147483647 : Int32)) % (4 : Int32))), .val (.ref b103), .val (.ref b108)] [(.int (2 : Int32)), (.ref b103)])) _
      refine X142.iaload hx (j := (2 : Int32)) (v := (.int (own_e (p6 ^^^ (-1 : Int32)) (2 : Int32) ((p5 &&& (2147483647 : Int32)) % (4 : Int32)) (nar .char ((p4 &&& (65535 : Int32)).toUInt32.toUInt16.toUInt32.toInt32))))) (by rw [Heq142]; exact Ar143.1) (State.isArrayOf_alike hZ.alike Ar143.2.1) Ar143.2.2 hin143 (Hh143.at hin143 (rfl)) (g := (mkF m 198 #[.val (.int p1), .val (.int p2), .val (.int p3), .val (.int p4), .val (.int p5), .val (.int p6), .val (.int (0 : Int32)), .val (.int ((p1.toUInt32 >>> ((1 : Int32) &&& 31).toUInt32).toInt32)), .val (.int ((256 : Int32) + (((p1.toUInt32 >>> ((1 : Int32) &&& 31).toUInt32).toInt32) % (65280 : Int32)))), .val (.int (65535 : Int32)), .val (.int (p2 &&& (65535 : Int32))), .val (.int (p3 &&& (65535 : Int32))), .val (.int (p4 &&& (65535 : Int32))), .val (.int ((p5 &&& (2147483647 : Int32)) % (4 : Int32))), .val (.ref b103), .val (.ref b108)] [(.int (2 : Int32)), (.ref b103)])) rfl rfl (hb hby at_198) _ ?_
      show Steps p.tables e below (T142.setTop (mkF m 199 #[.val (.int p1), .val (.int p2), .val (.int p3), .val (.int p4), .val (.int p5), .val (.int p6), .val (.int (0 : Int32)), .val (.int ((p1.toUInt32 >>> ((1 : Int32) &&& 31).toUInt32).toInt32)), .val (.int ((256 : Int32) + (((p1.toUInt32 >>> ((1 : Int32) &&& 31).toUInt32).toInt32) % (65280 : Int32)))), .val (.int (65535 : Int32)), .val (.int (p2 &&& (65535 : Int32))), .val (.int (p3 &&& (65535 : Int32))), .val (.int (p4 &&& (65535 : Int32))), .val (.int ((p5 &&& (2147483647 : Int32)) % (4 : Int32))), .val (.ref b103), .val (.ref b108)] [(.int (own_e (p6 ^^^ (-1 : Int32)) (2 : Int32) ((p5 &&& (2147483647 : Int32)) % (4 : Int32)) (nar .char ((p4 &&& (65535 : Int32)).toUInt32.toUInt16.toUInt32.toInt32))))])) _
      refine XS.iload X142.here hx rfl (hb hby at_199) rfl ?_
      show Steps p.tables e below (T142.setTop (mkF m 201 #[.val (.int p1), .val (.int p2), .val (.int p3), .val (.int p4), .val (.int p5), .val (.int p6), .val (.int (0 : Int32)), .val (.int ((p1.toUInt32 >>> ((1 : Int32) &&& 31).toUInt32).toInt32)), .val (.int ((256 : Int32) + (((p1.toUInt32 >>> ((1 : Int32) &&& 31).toUInt32).toInt32) % (65280 : Int32)))), .val (.int (65535 : Int32)), .val (.int (p2 &&& (65535 : Int32))), .val (.int (p3 &&& (65535 : Int32))), .val (.int (p4 &&& (65535 : Int32))), .val (.int ((p5 &&& (2147483647 : Int32)) % (4 : Int32))), .val (.ref b103), .val (.ref b108)] [(.int p6), (.int (own_e (p6 ^^^ (-1 : Int32)) (2 : Int32) ((p5 &&& (2147483647 : Int32)) % (4 : Int32)) (nar .char ((p4 &&& (65535 : Int32)).toUInt32.toUInt16.toUInt32.toInt32))))])) _
      refine XS.iconst X142.here hx rfl (hb hby at_201) ?_
      show Steps p.tables e below (T142.setTop (mkF m 202 #[.val (.int p1), .val (.int p2), .val (.int p3), .val (.int p4), .val (.int p5), .val (.int p6), .val (.int (0 : Int32)), .val (.int ((p1.toUInt32 >>> ((1 : Int32) &&& 31).toUInt32).toInt32)), .val (.int ((256 : Int32) + (((p1.toUInt32 >>> ((1 : Int32) &&& 31).toUInt32).toInt32) % (65280 : Int32)))), .val (.int (65535 : Int32)), .val (.int (p2 &&& (65535 : Int32))), .val (.int (p3 &&& (65535 : Int32))), .val (.int (p4 &&& (65535 : Int32))), .val (.int ((p5 &&& (2147483647 : Int32)) % (4 : Int32))), .val (.ref b103), .val (.ref b108)] [(.int (-1 : Int32)), (.int p6), (.int (own_e (p6 ^^^ (-1 : Int32)) (2 : Int32) ((p5 &&& (2147483647 : Int32)) % (4 : Int32)) (nar .char ((p4 &&& (65535 : Int32)).toUInt32.toUInt16.toUInt32.toInt32))))])) _
      refine XS.ixor X142.here hx rfl (hb hby at_202) rfl ?_
      show Steps p.tables e below (T142.setTop (mkF m 203 #[.val (.int p1), .val (.int p2), .val (.int p3), .val (.int p4), .val (.int p5), .val (.int p6), .val (.int (0 : Int32)), .val (.int ((p1.toUInt32 >>> ((1 : Int32) &&& 31).toUInt32).toInt32)), .val (.int ((256 : Int32) + (((p1.toUInt32 >>> ((1 : Int32) &&& 31).toUInt32).toInt32) % (65280 : Int32)))), .val (.int (65535 : Int32)), .val (.int (p2 &&& (65535 : Int32))), .val (.int (p3 &&& (65535 : Int32))), .val (.int (p4 &&& (65535 : Int32))), .val (.int ((p5 &&& (2147483647 : Int32)) % (4 : Int32))), .val (.ref b103), .val (.ref b108)] [(.int (p6 ^^^ (-1 : Int32))), (.int (own_e (p6 ^^^ (-1 : Int32)) (2 : Int32) ((p5 &&& (2147483647 : Int32)) % (4 : Int32)) (nar .char ((p4 &&& (65535 : Int32)).toUInt32.toUInt16.toUInt32.toInt32))))])) _
      refine XS.iconst X142.here hx rfl (hb hby at_203) ?_
      show Steps p.tables e below (T142.setTop (mkF m 204 #[.val (.int p1), .val (.int p2), .val (.int p3), .val (.int p4), .val (.int p5), .val (.int p6), .val (.int (0 : Int32)), .val (.int ((p1.toUInt32 >>> ((1 : Int32) &&& 31).toUInt32).toInt32)), .val (.int ((256 : Int32) + (((p1.toUInt32 >>> ((1 : Int32) &&& 31).toUInt32).toInt32) % (65280 : Int32)))), .val (.int (65535 : Int32)), .val (.int (p2 &&& (65535 : Int32))), .val (.int (p3 &&& (65535 : Int32))), .val (.int (p4 &&& (65535 : Int32))), .val (.int ((p5 &&& (2147483647 : Int32)) % (4 : Int32))), .val (.ref b103), .val (.ref b108)] [(.int (2 : Int32)), (.int (p6 ^^^ (-1 : Int32))), (.int (own_e (p6 ^^^ (-1 : Int32)) (2 : Int32) ((p5 &&& (2147483647 : Int32)) % (4 : Int32)) (nar .char ((p4 &&& (65535 : Int32)).toUInt32.toUInt16.toUInt32.toInt32))))])) _
      refine XS.iload X142.here hx rfl (hb hby at_204) rfl ?_
      show Steps p.tables e below (T142.setTop (mkF m 206 #[.val (.int p1), .val (.int p2), .val (.int p3), .val (.int p4), .val (.int p5), .val (.int p6), .val (.int (0 : Int32)), .val (.int ((p1.toUInt32 >>> ((1 : Int32) &&& 31).toUInt32).toInt32)), .val (.int ((256 : Int32) + (((p1.toUInt32 >>> ((1 : Int32) &&& 31).toUInt32).toInt32) % (65280 : Int32)))), .val (.int (65535 : Int32)), .val (.int (p2 &&& (65535 : Int32))), .val (.int (p3 &&& (65535 : Int32))), .val (.int (p4 &&& (65535 : Int32))), .val (.int ((p5 &&& (2147483647 : Int32)) % (4 : Int32))), .val (.ref b103), .val (.ref b108)] [(.int ((p5 &&& (2147483647 : Int32)) % (4 : Int32))), (.int (2 : Int32)), (.int (p6 ^^^ (-1 : Int32))), (.int (own_e (p6 ^^^ (-1 : Int32)) (2 : Int32) ((p5 &&& (2147483647 : Int32)) % (4 : Int32)) (nar .char ((p4 &&& (65535 : Int32)).toUInt32.toUInt16.toUInt32.toInt32))))])) _
      refine XS.iload X142.here hx rfl (hb hby at_206) rfl ?_
      show Steps p.tables e below (T142.setTop (mkF m 208 #[.val (.int p1), .val (.int p2), .val (.int p3), .val (.int p4), .val (.int p5), .val (.int p6), .val (.int (0 : Int32)), .val (.int ((p1.toUInt32 >>> ((1 : Int32) &&& 31).toUInt32).toInt32)), .val (.int ((256 : Int32) + (((p1.toUInt32 >>> ((1 : Int32) &&& 31).toUInt32).toInt32) % (65280 : Int32)))), .val (.int (65535 : Int32)), .val (.int (p2 &&& (65535 : Int32))), .val (.int (p3 &&& (65535 : Int32))), .val (.int (p4 &&& (65535 : Int32))), .val (.int ((p5 &&& (2147483647 : Int32)) % (4 : Int32))), .val (.ref b103), .val (.ref b108)] [(.int (p4 &&& (65535 : Int32))), (.int ((p5 &&& (2147483647 : Int32)) % (4 : Int32))), (.int (2 : Int32)), (.int (p6 ^^^ (-1 : Int32))), (.int (own_e (p6 ^^^ (-1 : Int32)) (2 : Int32) ((p5 &&& (2147483647 : Int32)) % (4 : Int32)) (nar .char ((p4 &&& (65535 : Int32)).toUInt32.toUInt16.toUInt32.toInt32))))])) _
      refine st144 _ ?_
      show Steps p.tables e below (T144.setTop (mkF m 211 #[.val (.int p1), .val (.int p2), .val (.int p3), .val (.int p4), .val (.int p5), .val (.int p6), .val (.int (0 : Int32)), .val (.int ((p1.toUInt32 >>> ((1 : Int32) &&& 31).toUInt32).toInt32)), .val (.int ((256 : Int32) + (((p1.toUInt32 >>> ((1 : Int32) &&& 31).toUInt32).toInt32) % (65280 : Int32)))), .val (.int (65535 : Int32)), .val (.int (p2 &&& (65535 : Int32))), .val (.int (p3 &&& (65535 : Int32))), .val (.int (p4 &&& (65535 : Int32))), .val (.int ((p5 &&& (2147483647 : Int32)) % (4 : Int32))), .val (.ref b103), .val (.ref b108)] [(.int (own_x (p6 ^^^ (-1 : Int32)) (2 : Int32) ((p5 &&& (2147483647 : Int32)) % (4 : Int32)) (p4 &&& (65535 : Int32)))), (.int (own_e (p6 ^^^ (-1 : Int32)) (2 : Int32) ((p5 &&& (2147483647 : Int32)) % (4 : Int32)) (nar .char ((p4 &&& (65535 : Int32)).toUInt32.toUInt16.toUInt32.toInt32))))])) _
      refine XS.icmpNo X144.here hx rfl (hb hby at_211) rfl (teq (own_ex _ _ _ _ _ (own_cz _) : (own_e (p6 ^^^ (-1 : Int32)) (2 : Int32) ((p5 &&& (2147483647 : Int32)) % (4 : Int32)) (nar .char ((p4 &&& (65535 : Int32)).toUInt32.toUInt16.toUInt32.toInt32))) = (own_x (p6 ^^^ (-1 : Int32)) (2 : Int32) ((p5 &&& (2147483647 : Int32)) % (4 : Int32)) (p4 &&& (65535 : Int32))))).2 ?_
      show Steps p.tables e below (T144.setTop (mkF m 214 #[.val (.int p1), .val (.int p2), .val (.int p3), .val (.int p4), .val (.int p5), .val (.int p6), .val (.int (0 : Int32)), .val (.int ((p1.toUInt32 >>> ((1 : Int32) &&& 31).toUInt32).toInt32)), .val (.int ((256 : Int32) + (((p1.toUInt32 >>> ((1 : Int32) &&& 31).toUInt32).toInt32) % (65280 : Int32)))), .val (.int (65535 : Int32)), .val (.int (p2 &&& (65535 : Int32))), .val (.int (p3 &&& (65535 : Int32))), .val (.int (p4 &&& (65535 : Int32))), .val (.int ((p5 &&& (2147483647 : Int32)) % (4 : Int32))), .val (.ref b103), .val (.ref b108)] [])) _
      refine XS.iconst X144.here hx rfl (hb hby at_214) ?_
      show Steps p.tables e below (T144.setTop (mkF m 215 #[.val (.int p1), .val (.int p2), .val (.int p3), .val (.int p4), .val (.int p5), .val (.int p6), .val (.int (0 : Int32)), .val (.int ((p1.toUInt32 >>> ((1 : Int32) &&& 31).toUInt32).toInt32)), .val (.int ((256 : Int32) + (((p1.toUInt32 >>> ((1 : Int32) &&& 31).toUInt32).toInt32) % (65280 : Int32)))), .val (.int (65535 : Int32)), .val (.int (p2 &&& (65535 : Int32))), .val (.int (p3 &&& (65535 : Int32))), .val (.int (p4 &&& (65535 : Int32))), .val (.int ((p5 &&& (2147483647 : Int32)) % (4 : Int32))), .val (.ref b103), .val (.ref b108)] [(.int (1 : Int32))])) _
      refine XS.goto X144.here hx rfl (pc0 := 215) (pc' := 219) rfl (hb hby at_215) (by decide) (by decide) ?_
      show Steps p.tables e below (T144.setTop (mkF m 219 #[.val (.int p1), .val (.int p2), .val (.int p3), .val (.int p4), .val (.int p5), .val (.int p6), .val (.int (0 : Int32)), .val (.int ((p1.toUInt32 >>> ((1 : Int32) &&& 31).toUInt32).toInt32)), .val (.int ((256 : Int32) + (((p1.toUInt32 >>> ((1 : Int32) &&& 31).toUInt32).toInt32) % (65280 : Int32)))), .val (.int (65535 : Int32)), .val (.int (p2 &&& (65535 : Int32))), .val (.int (p3 &&& (65535 : Int32))), .val (.int (p4 &&& (65535 : Int32))), .val (.int ((p5 &&& (2147483647 : Int32)) % (4 : Int32))), .val (.ref b103), .val (.ref b108)] [(.int (1 : Int32))])) _
      exact retN X144 hx (t := .boolean) Bd.returns (by simp) (hb hby at_219) hr
    · show Q0 Z p1 p2 p3 p4 p5 p6 h0 n0 _ T144.heap _
      rw [Heq144]
      exact ⟨rfl, N144⟩
  · skip
    obtain ⟨T145, h145, k145, X145, e145, E145, A145, Qe145, st145⟩ := newPE X0 hx hZ (hw _ (List.mem_of_getElem? (i := 3) rfl)) e0 (g := (mkF m 86 #[.val (.int p1), .val (.int p2), .val (.int p3), .val (.int p4), .val (.int p5), .val (.int p6), .val (.int (1 : Int32)), .val (.int ((p1.toUInt32 >>> ((1 : Int32) &&& 31).toUInt32).toInt32)), .val (.int (((p1.toUInt32 >>> ((1 : Int32) &&& 31).toUInt32).toInt32) &&& (255 : Int32))), .val (.int (255 : Int32)), .val (.int (p2 &&& (255 : Int32))), .val (.int (p3 &&& (255 : Int32))), .val (.int (p4 &&& (255 : Int32))), .val (.int ((p5 &&& (2147483647 : Int32)) % (4 : Int32))), .unset, .unset] [(.int (3 : Int32))])) rfl (hb hby at_86) rfl (by decide) (cap := 3) (by decide) (by decide) (by decide) (by decide) (ad := "[I") (by decide)
    obtain ⟨b145, g145⟩ : ∃ z, z = h0.size := ⟨_, rfl⟩
    rw [← g145] at A145 Qe145 st145
    have V145 : Arv Z h145 b145 k145 .int (3 : Int32) [(.int (0 : Int32)), (.int (0 : Int32)), (.int (0 : Int32))] (.int (0 : Int32)) := (Arv.new A145 (by decide)).pad (pad_rep [] (.int (0 : Int32)) 3)
    obtain ⟨cl146, Ar146, qc146, S146, M146, Hh146, G146⟩ := id V145
    have hin146 : ¬ ((0 : Int32) < 0 ∨ cl146.slots.size ≤ ((0 : Int32)).toNatClampNeg) := inb_of S146 ⟨by decide, by decide⟩
    obtain ⟨T146, h146, X146, e146, W146, st146⟩ := stI X145 hx hZ e145 Ar146 (j := (0 : Int32)) hin146 (g := (mkF m 95 #[.val (.int p1), .val (.int p2), .val (.int p3), .val (.int p4), .val (.int p5), .val (.int p6), .val (.int (1 : Int32)), .val (.int ((p1.toUInt32 >>> ((1 : Int32) &&& 31).toUInt32).toInt32)), .val (.int (((p1.toUInt32 >>> ((1 : Int32) &&& 31).toUInt32).toInt32) &&& (255 : Int32))), .val (.int (255 : Int32)), .val (.int (p2 &&& (255 : Int32))), .val (.int (p3 &&& (255 : Int32))), .val (.int (p4 &&& (255 : Int32))), .val (.int ((p5 &&& (2147483647 : Int32)) % (4 : Int32))), .val (.ref b145), .unset] [(.int p6), (.int (0 : Int32)), (.ref b145)])) rfl rfl (hb hby at_95)
    have V146 : Arv Z h146 b145 k145 .int (3 : Int32) [(.int p6), (.int (0 : Int32)), (.int (0 : Int32))] (.int (0 : Int32)) := Arv.set Ar146 qc146 S146 M146 Hh146 G146 rfl W146 0 rfl (by first | decide | (simp; done))
    have g147 : n0 ≤ b145 := Nat.le_trans Z0 (Nat.le_of_eq g145.symm)
    have N146 := Fr.snoc X146 N0 g147
    obtain ⟨cl148, Ar148, qc148, S148, M148, Hh148, G148⟩ := id V146
    have hin148 : ¬ ((1 : Int32) < 0 ∨ cl148.slots.size ≤ ((1 : Int32)).toNatClampNeg) := inb_of S148 ⟨by decide, by decide⟩
    obtain ⟨T148, h148, X148, e148, W148, st148⟩ := stI X146 hx hZ e146 Ar148 (j := (1 : Int32)) hin148 (g := (mkF m 104 #[.val (.int p1), .val (.int p2), .val (.int p3), .val (.int p4), .val (.int p5), .val (.int p6), .val (.int (1 : Int32)), .val (.int ((p1.toUInt32 >>> ((1 : Int32) &&& 31).toUInt32).toInt32)), .val (.int (((p1.toUInt32 >>> ((1 : Int32) &&& 31).toUInt32).toInt32) &&& (255 : Int32))), .val (.int (255 : Int32)), .val (.int (p2 &&& (255 : Int32))), .val (.int (p3 &&& (255 : Int32))), .val (.int (p4 &&& (255 : Int32))), .val (.int ((p5 &&& (2147483647 : Int32)) % (4 : Int32))), .val (.ref b145), .unset] [(.int (p6 ^^^ (42 : Int32))), (.int (1 : Int32)), (.ref b145)])) rfl rfl (hb hby at_104)
    have V148 : Arv Z h148 b145 k145 .int (3 : Int32) [(.int p6), (.int (p6 ^^^ (42 : Int32))), (.int (0 : Int32))] (.int (0 : Int32)) := Arv.set Ar148 qc148 S148 M148 Hh148 G148 rfl W148 1 rfl (by first | decide | (simp; done))
    have N148 := Fr.snoc X148 N146 g147
    obtain ⟨cl149, Ar149, qc149, S149, M149, Hh149, G149⟩ := id V148
    have hin149 : ¬ ((2 : Int32) < 0 ∨ cl149.slots.size ≤ ((2 : Int32)).toNatClampNeg) := inb_of S149 ⟨by decide, by decide⟩
    obtain ⟨T149, h149, X149, e149, W149, st149⟩ := stI X148 hx hZ e148 Ar149 (j := (2 : Int32)) hin149 (g := (mkF m 112 #[.val (.int p1), .val (.int p2), .val (.int p3), .val (.int p4), .val (.int p5), .val (.int p6), .val (.int (1 : Int32)), .val (.int ((p1.toUInt32 >>> ((1 : Int32) &&& 31).toUInt32).toInt32)), .val (.int (((p1.toUInt32 >>> ((1 : Int32) &&& 31).toUInt32).toInt32) &&& (255 : Int32))), .val (.int (255 : Int32)), .val (.int (p2 &&& (255 : Int32))), .val (.int (p3 &&& (255 : Int32))), .val (.int (p4 &&& (255 : Int32))), .val (.int ((p5 &&& (2147483647 : Int32)) % (4 : Int32))), .val (.ref b145), .unset] [(.int (p6 ^^^ (-1 : Int32))), (.int (2 : Int32)), (.ref b145)])) rfl rfl (hb hby at_112)
    have V149 : Arv Z h149 b145 k145 .int (3 : Int32) [(.int p6), (.int (p6 ^^^ (42 : Int32))), (.int (p6 ^^^ (-1 : Int32)))] (.int (0 : Int32)) := Arv.set Ar149 qc149 S149 M149 Hh149 G149 rfl W149 2 rfl (by first | decide | (simp; done))
    have N149 := Fr.snoc X149 N148 g147
    obtain ⟨T150, h150, X150, e150, E150, A150, D150, -, st150⟩ := newO X149 hx hZ hown (hw _ (List.mem_of_getElem? (i := 4) rfl)) (hw _ (List.mem_of_getElem? (i := 5) rfl)) (hw _ (List.mem_of_getElem? (i := 6) rfl)) e149 (g := (mkF m 113 #[.val (.int p1), .val (.int p2), .val (.int p3), .val (.int p4), .val (.int p5), .val (.int p6), .val (.int (1 : Int32)), .val (.int ((p1.toUInt32 >>> ((1 : Int32) &&& 31).toUInt32).toInt32)), .val (.int (((p1.toUInt32 >>> ((1 : Int32) &&& 31).toUInt32).toInt32) &&& (255 : Int32))), .val (.int (255 : Int32)), .val (.int (p2 &&& (255 : Int32))), .val (.int (p3 &&& (255 : Int32))), .val (.int (p4 &&& (255 : Int32))), .val (.int ((p5 &&& (2147483647 : Int32)) % (4 : Int32))), .val (.ref b145), .unset] [])) rfl (hb hby at_113) (by decide) (by decide)
    obtain ⟨b150, g150⟩ : ∃ z, z = h149.size := ⟨_, rfl⟩
    rw [← g150] at A150 D150 st150
    have F151 : Fld Z h150 b150 "com/example/plain_ranker/plainranker/data/BinArray" "bytes" "[B" .null := D150 (Or.inr (hw _ (List.mem_of_getElem? (i := 14) rfl))) (ty := (.array .byte)) (by decide)
    have F152 : Fld Z h150 b150 "com/example/plain_ranker/plainranker/data/BinArray" "chars" "[C" .null := D150 (Or.inr (hw _ (List.mem_of_getElem? (i := 18) rfl))) (ty := (.array .char)) (by decide)
    have F153 : Fld Z h150 b150 "com/example/plain_ranker/plainranker/data/BinArray" "ints" "[I" .null := D150 (Or.inr (hw _ (List.mem_of_getElem? (i := 20) rfl))) (ty := (.array .int)) (by decide)
    have g154 : n0 ≤ b150 := Nat.le_trans (Nat.le_trans (Nat.le_trans (Nat.le_trans (Nat.le_trans Z0 E145.1) (Nat.le_of_eq W146.size.symm)) (Nat.le_of_eq W148.size.symm)) (Nat.le_of_eq W149.size.symm)) (Nat.le_of_eq g150.symm)
    have z156 : n0 ≤ h150.size := (Nat.le_trans (Nat.le_trans (Nat.le_trans (Nat.le_trans (Nat.le_trans Z0 E145.1) (Nat.le_of_eq W146.size.symm)) (Nat.le_of_eq W148.size.symm)) (Nat.le_of_eq W149.size.symm)) E150.1)
    obtain ⟨_, _, ⟨T155, L155, k155, n155⟩, -, X155, ⟨Lc155, hQ155, l155, y155, z155⟩, st155⟩ := X150.specialBack hx (y := (⟨"com/example/plain_ranker/plainranker/data/BinArray", "<init>", "(II)V"⟩ : MethodName)) rfl hown (mvT hZ (hw _ (List.mem_of_getElem? (i := 7) rfl))) (mvT hZ (hw _ (List.mem_of_getElem? (i := 8) rfl))) (mvT hZ (hw _ (List.mem_of_getElem? (i := 9) rfl))) (by decide) (backOf (W := 1) (rm1n l Z a0 hw [] b150 (((p1.toUInt32 >>> ((1 : Int32) &&& 31).toUInt32).toInt32) &&& (255 : Int32)) .null .null .null h150 n0 z156 A150 F151 F152 F153 g154 (own_small _)) hZ (hw _ (List.mem_of_getElem? (i := 9) rfl)) (hw _ (List.mem_of_getElem? (i := 6) rfl)) (by decide) (by decide)) (g := (mkF m 120 #[.val (.int p1), .val (.int p2), .val (.int p3), .val (.int p4), .val (.int p5), .val (.int p6), .val (.int (1 : Int32)), .val (.int ((p1.toUInt32 >>> ((1 : Int32) &&& 31).toUInt32).toInt32)), .val (.int (((p1.toUInt32 >>> ((1 : Int32) &&& 31).toUInt32).toInt32) &&& (255 : Int32))), .val (.int (255 : Int32)), .val (.int (p2 &&& (255 : Int32))), .val (.int (p3 &&& (255 : Int32))), .val (.int (p4 &&& (255 : Int32))), .val (.int ((p5 &&& (2147483647 : Int32)) % (4 : Int32))), .val (.ref b145), .unset] [(.int (((p1.toUInt32 >>> ((1 : Int32) &&& 31).toUInt32).toInt32) &&& (255 : Int32))), (.int (3 : Int32)), (.ref b150), (.ref b150)])) rfl (by rw [hml]; rfl) (Steps.refl _) (a := b150) (argsL := [(.int (3 : Int32)), (.int (((p1.toUInt32 >>> ((1 : Int32) &&& 31).toUInt32).toInt32) &&& (255 : Int32)))]) (rest := [(.ref b150)]) (lenOf pd_0 rfl) rfl (by show 2 * 0 + _ ≤ _; exact Nat.le_of_eq rfl) (hb hby at_120) (fun _ _ => ⟨rfl, e150, (by decide : 2 + 1 ≤ _), (by decide : 6 + 3 ≤ _)⟩)
    dsimp only [Pt.U, Pt.locs, Pt.cells, Pt.slots] at X155 l155 y155 z155 st155 hQ155
    subst l155 y155 z155
    obtain ⟨bb155, bk155, rfl, Nq155, K155, R155_1, R155_2, R155_3, R155_4, R155_5⟩ := hQ155
    have N155 := Fr.app N149 Nq155
    have g157 : n0 ≤ bb155 := Nat.le_trans z156 R155_4
    have f158 : Exa Z T155.heap b150 "com/example/plain_ranker/plainranker/data/BinArray" := (A150.keep K155)
    have z160 : n0 ≤ T155.heap.size := (Nat.le_trans z156 K155.1)
    obtain ⟨cq159, kq159, q159a, q159b, q159c⟩ := isOf hZ rfl f158
    obtain ⟨_, _, ⟨T159, L159, k159, n159⟩, -, X159, ⟨Lc159, hQ159, l159, y159, z159⟩, st159⟩ := X155.virtualBack hx (y := (⟨"com/example/plain_ranker/plainranker/data/BinArray", "set", "(II)V"⟩ : MethodName)) (z := (⟨"com/example/plain_ranker/plainranker/data/BinArray", "set", "(II)V"⟩ : MethodName)) hown (mvT hZ (hw _ (List.mem_of_getElem? (i := 21) rfl))) (mvT hZ (hw _ (List.mem_of_getElem? (i := 22) rfl))) (notFace_of_selects (args := #[]) (mvT hZ (hw _ (List.mem_of_getElem? (i := 24) rfl)))) (mvT hZ (hw _ (List.mem_of_getElem? (i := 24) rfl))) (mvT hZ (hw _ (List.mem_of_getElem? (i := 23) rfl))) (by decide) (backOf (W := 0) (rm3n0 l Z a0 hw [] b150 (p2 &&& (255 : Int32)) bb155 bk155 (0 : Int32) (0 : Int32) (0 : Int32) T155.heap n0 z160 R155_1 R155_2 R155_5 g157 f158) hZ (hw _ (List.mem_of_getElem? (i := 25) rfl)) (hw _ (List.mem_of_getElem? (i := 6) rfl)) (by decide) (by decide)) q159a q159c (g := (mkF m 130 #[.val (.int p1), .val (.int p2), .val (.int p3), .val (.int p4), .val (.int p5), .val (.int p6), .val (.int (1 : Int32)), .val (.int ((p1.toUInt32 >>> ((1 : Int32) &&& 31).toUInt32).toInt32)), .val (.int (((p1.toUInt32 >>> ((1 : Int32) &&& 31).toUInt32).toInt32) &&& (255 : Int32))), .val (.int (255 : Int32)), .val (.int (p2 &&& (255 : Int32))), .val (.int (p3 &&& (255 : Int32))), .val (.int (p4 &&& (255 : Int32))), .val (.int ((p5 &&& (2147483647 : Int32)) % (4 : Int32))), .val (.ref b145), .val (.ref b150)] [(.int (p2 &&& (255 : Int32))), (.int (0 : Int32)), (.ref b150)])) rfl (by rw [hml]; rfl) (Steps.refl _) (argsL := [(.int (0 : Int32)), (.int (p2 &&& (255 : Int32)))]) (rest := []) (lenOf pd_0 rfl) rfl (by show 2 * 0 + _ ≤ _; exact Nat.le_of_eq rfl) (hb hby at_130) (fun _ _ => ⟨rfl, rfl, (by decide : 3 + 0 ≤ _), (by decide : 9 + 0 ≤ _)⟩)
    dsimp only [Pt.U, Pt.locs, Pt.cells, Pt.slots] at X159 l159 y159 z159 st159 hQ159
    subst l159 y159 z159
    obtain ⟨rfl, Nq159, K159, R159_1⟩ := hQ159
    have N159 := Fr.app N155 Nq159
    have ne161 : b150 ≠ bb155 := (Nat.ne_of_lt (Nat.lt_of_lt_of_le A150.lt R155_4))
    have f162 : Fld Z T159.heap b150 "com/example/plain_ranker/plainranker/data/BinArray" "bytes" "[B" (.ref bb155) := (R155_1.keep K159 (ninS ne161 nin0))
    have f163 : Fld Z T159.heap b150 "com/example/plain_ranker/plainranker/data/BinArray" "chars" "[C" .null := (R155_2.keep K159 (ninS ne161 nin0))
    have f164 : Exa Z T159.heap b150 "com/example/plain_ranker/plainranker/data/BinArray" := (f158.keep K159)
    have z166 : n0 ≤ T159.heap.size := (Nat.le_trans z160 K159.1)
    obtain ⟨cq165, kq165, q165a, q165b, q165c⟩ := isOf hZ rfl f164
    obtain ⟨_, _, ⟨T165, L165, k165, n165⟩, -, X165, ⟨Lc165, hQ165, l165, y165, z165⟩, st165⟩ := X159.virtualBack hx (y := (⟨"com/example/plain_ranker/plainranker/data/BinArray", "set", "(II)V"⟩ : MethodName)) (z := (⟨"com/example/plain_ranker/plainranker/data/BinArray", "set", "(II)V"⟩ : MethodName)) hown (mvT hZ (hw _ (List.mem_of_getElem? (i := 21) rfl))) (mvT hZ (hw _ (List.mem_of_getElem? (i := 22) rfl))) (notFace_of_selects (args := #[]) (mvT hZ (hw _ (List.mem_of_getElem? (i := 24) rfl)))) (mvT hZ (hw _ (List.mem_of_getElem? (i := 24) rfl))) (mvT hZ (hw _ (List.mem_of_getElem? (i := 23) rfl))) (by decide) (backOf (W := 0) (rm3n1 l Z a0 hw [] b150 (p3 &&& (255 : Int32)) bb155 bk155 (nar .byte ((p2 &&& (255 : Int32)).toInt8.toInt32)) (0 : Int32) (0 : Int32) T159.heap n0 z166 f162 f163 R159_1 g157 f164) hZ (hw _ (List.mem_of_getElem? (i := 25) rfl)) (hw _ (List.mem_of_getElem? (i := 6) rfl)) (by decide) (by decide)) q165a q165c (g := (mkF m 138 #[.val (.int p1), .val (.int p2), .val (.int p3), .val (.int p4), .val (.int p5), .val (.int p6), .val (.int (1 : Int32)), .val (.int ((p1.toUInt32 >>> ((1 : Int32) &&& 31).toUInt32).toInt32)), .val (.int (((p1.toUInt32 >>> ((1 : Int32) &&& 31).toUInt32).toInt32) &&& (255 : Int32))), .val (.int (255 : Int32)), .val (.int (p2 &&& (255 : Int32))), .val (.int (p3 &&& (255 : Int32))), .val (.int (p4 &&& (255 : Int32))), .val (.int ((p5 &&& (2147483647 : Int32)) % (4 : Int32))), .val (.ref b145), .val (.ref b150)] [(.int (p3 &&& (255 : Int32))), (.int (1 : Int32)), (.ref b150)])) rfl (by rw [hml]; rfl) (Steps.refl _) (argsL := [(.int (1 : Int32)), (.int (p3 &&& (255 : Int32)))]) (rest := []) (lenOf pd_0 rfl) rfl (by show 2 * 0 + _ ≤ _; exact Nat.le_of_eq rfl) (hb hby at_138) (fun _ _ => ⟨rfl, rfl, (by decide : 3 + 0 ≤ _), (by decide : 9 + 0 ≤ _)⟩)
    dsimp only [Pt.U, Pt.locs, Pt.cells, Pt.slots] at X165 l165 y165 z165 st165 hQ165
    subst l165 y165 z165
    obtain ⟨rfl, Nq165, K165, R165_1⟩ := hQ165
    have N165 := Fr.app N159 Nq165
    have f167 : Fld Z T165.heap b150 "com/example/plain_ranker/plainranker/data/BinArray" "bytes" "[B" (.ref bb155) := (f162.keep K165 (ninS ne161 nin0))
    have f168 : Fld Z T165.heap b150 "com/example/plain_ranker/plainranker/data/BinArray" "chars" "[C" .null := (f163.keep K165 (ninS ne161 nin0))
    have f169 : Exa Z T165.heap b150 "com/example/plain_ranker/plainranker/data/BinArray" := (f164.keep K165)
    have z171 : n0 ≤ T165.heap.size := (Nat.le_trans z166 K165.1)
    obtain ⟨cq170, kq170, q170a, q170b, q170c⟩ := isOf hZ rfl f169
    obtain ⟨_, _, ⟨T170, L170, k170, n170⟩, -, X170, ⟨Lc170, hQ170, l170, y170, z170⟩, st170⟩ := X165.virtualBack hx (y := (⟨"com/example/plain_ranker/plainranker/data/BinArray", "set", "(II)V"⟩ : MethodName)) (z := (⟨"com/example/plain_ranker/plainranker/data/BinArray", "set", "(II)V"⟩ : MethodName)) hown (mvT hZ (hw _ (List.mem_of_getElem? (i := 21) rfl))) (mvT hZ (hw _ (List.mem_of_getElem? (i := 22) rfl))) (notFace_of_selects (args := #[]) (mvT hZ (hw _ (List.mem_of_getElem? (i := 24) rfl)))) (mvT hZ (hw _ (List.mem_of_getElem? (i := 24) rfl))) (mvT hZ (hw _ (List.mem_of_getElem? (i := 23) rfl))) (by decide) (backOf (W := 0) (rm3n2 l Z a0 hw [] b150 (p4 &&& (255 : Int32)) bb155 bk155 (nar .byte ((p2 &&& (255 : Int32)).toInt8.toInt32)) (nar .byte ((p3 &&& (255 : Int32)).toInt8.toInt32)) (0 : Int32) T165.heap n0 z171 f167 f168 R165_1 g157 f169) hZ (hw _ (List.mem_of_getElem? (i := 25) rfl)) (hw _ (List.mem_of_getElem? (i := 6) rfl)) (by decide) (by decide)) q170a q170c (g := (mkF m 146 #[.val (.int p1), .val (.int p2), .val (.int p3), .val (.int p4), .val (.int p5), .val (.int p6), .val (.int (1 : Int32)), .val (.int ((p1.toUInt32 >>> ((1 : Int32) &&& 31).toUInt32).toInt32)), .val (.int (((p1.toUInt32 >>> ((1 : Int32) &&& 31).toUInt32).toInt32) &&& (255 : Int32))), .val (.int (255 : Int32)), .val (.int (p2 &&& (255 : Int32))), .val (.int (p3 &&& (255 : Int32))), .val (.int (p4 &&& (255 : Int32))), .val (.int ((p5 &&& (2147483647 : Int32)) % (4 : Int32))), .val (.ref b145), .val (.ref b150)] [(.int (p4 &&& (255 : Int32))), (.int (2 : Int32)), (.ref b150)])) rfl (by rw [hml]; rfl) (Steps.refl _) (argsL := [(.int (2 : Int32)), (.int (p4 &&& (255 : Int32)))]) (rest := []) (lenOf pd_0 rfl) rfl (by show 2 * 0 + _ ≤ _; exact Nat.le_of_eq rfl) (hb hby at_146) (fun _ _ => ⟨rfl, rfl, (by decide : 3 + 0 ≤ _), (by decide : 9 + 0 ≤ _)⟩)
    dsimp only [Pt.U, Pt.locs, Pt.cells, Pt.slots] at X170 l170 y170 z170 st170 hQ170
    subst l170 y170 z170
    obtain ⟨rfl, Nq170, K170, R170_1⟩ := hQ170
    have N170 := Fr.app N165 Nq170
    have f172 : Fld Z T170.heap b150 "com/example/plain_ranker/plainranker/data/BinArray" "bytes" "[B" (.ref bb155) := (f167.keep K170 (ninS ne161 nin0))
    have f173 : Fld Z T170.heap b150 "com/example/plain_ranker/plainranker/data/BinArray" "chars" "[C" .null := (f168.keep K170 (ninS ne161 nin0))
    have ne174 : b145 ≠ b150 := (Nat.ne_of_lt (Nat.lt_of_lt_of_le (((Qe145.wr W146).wr W148).wr W149).lt (Nat.le_of_eq g150.symm)))
    have ne175 : b145 ≠ bb155 := (Nat.ne_of_lt (Nat.lt_of_lt_of_le ((((Qe145.wr W146).wr W148).wr W149).ext E150).lt R155_4))
    have f176 : Arv Z T170.heap b145 k145 .int (3 : Int32) [(.int p6), (.int (p6 ^^^ (42 : Int32))), (.int (p6 ^^^ (-1 : Int32)))] (.int (0 : Int32)) := (((((V149.ext E150).keep K155 (ninS ne174 nin0)).keep K159 (ninS ne175 nin0)).keep K165 (ninS ne175 nin0)).keep K170 (ninS ne175 nin0))
    have f177 : Exa Z T170.heap b150 "com/example/plain_ranker/plainranker/data/BinArray" := (f169.keep K170)
    have z179 : n0 ≤ T170.heap.size := (Nat.le_trans z171 K170.1)
    obtain ⟨cq178, kq178, q178a, q178b, q178c⟩ := isOf hZ rfl f177
    obtain ⟨_, _, ⟨T178, L178, k178, n178⟩, -, X178, ⟨Lc178, hQ178, l178, y178, z178⟩, st178⟩ := X170.virtualBack hx (y := (⟨"com/example/plain_ranker/plainranker/data/BinArray", "countNonZero", "(I[I)V"⟩ : MethodName)) (z := (⟨"com/example/plain_ranker/plainranker/data/BinArray", "countNonZero", "(I[I)V"⟩ : MethodName)) hown (mvT hZ (hw _ (List.mem_of_getElem? (i := 26) rfl))) (mvT hZ (hw _ (List.mem_of_getElem? (i := 27) rfl))) (notFace_of_selects (args := #[]) (mvT hZ (hw _ (List.mem_of_getElem? (i := 29) rfl)))) (mvT hZ (hw _ (List.mem_of_getElem? (i := 29) rfl))) (mvT hZ (hw _ (List.mem_of_getElem? (i := 28) rfl))) (by decide) (backOf (W := 0) (rm4n l Z a0 hw [] b150 ((p5 &&& (2147483647 : Int32)) % (4 : Int32)) b145 bb155 bk155 k145 (nar .byte ((p2 &&& (255 : Int32)).toInt8.toInt32)) (nar .byte ((p3 &&& (255 : Int32)).toInt8.toInt32)) (nar .byte ((p4 &&& (255 : Int32)).toInt8.toInt32)) p6 (p6 ^^^ (42 : Int32)) (p6 ^^^ (-1 : Int32)) T170.heap n0 z179 f172 f173 R170_1 f176 g147 (Ne.symm ne175) f177 (own_t _)) hZ (hw _ (List.mem_of_getElem? (i := 30) rfl)) (hw _ (List.mem_of_getElem? (i := 6) rfl)) (by decide) (by decide)) q178a q178c (g := (mkF m 155 #[.val (.int p1), .val (.int p2), .val (.int p3), .val (.int p4), .val (.int p5), .val (.int p6), .val (.int (1 : Int32)), .val (.int ((p1.toUInt32 >>> ((1 : Int32) &&& 31).toUInt32).toInt32)), .val (.int (((p1.toUInt32 >>> ((1 : Int32) &&& 31).toUInt32).toInt32) &&& (255 : Int32))), .val (.int (255 : Int32)), .val (.int (p2 &&& (255 : Int32))), .val (.int (p3 &&& (255 : Int32))), .val (.int (p4 &&& (255 : Int32))), .val (.int ((p5 &&& (2147483647 : Int32)) % (4 : Int32))), .val (.ref b145), .val (.ref b150)] [(.ref b145), (.int ((p5 &&& (2147483647 : Int32)) % (4 : Int32))), (.ref b150)])) rfl (by rw [hml]; rfl) (Steps.refl _) (argsL := [(.int ((p5 &&& (2147483647 : Int32)) % (4 : Int32))), (.ref b145)]) (rest := []) (lenOf pd_1 rfl) rfl (by show 2 * 0 + _ ≤ _; exact Nat.le_of_eq rfl) (hb hby at_155) (fun _ _ => ⟨rfl, rfl, (by decide : 3 + 0 ≤ _), (by decide : 9 + 0 ≤ _)⟩)
    dsimp only [Pt.U, Pt.locs, Pt.cells, Pt.slots] at X178 l178 y178 z178 st178 hQ178
    subst l178 y178 z178
    obtain ⟨rfl, Nq178, K178, R178_1⟩ := hQ178
    have N178 := Fr.app N170 Nq178
    obtain ⟨cl180, Ar180, qc180, S180, M180, Hh180, G180⟩ := id R178_1
    have hin180 : ¬ ((0 : Int32) < 0 ∨ cl180.slots.size ≤ ((0 : Int32)).toNatClampNeg) := inb_of S180 ⟨by decide, by decide⟩
    have z182 : n0 ≤ T178.heap.size := (Nat.le_trans z179 K178.1)
    obtain ⟨_, _, ⟨T181, L181, k181, n181⟩, -, X181, ⟨Lc181, hQ181, l181, y181, z181⟩, st181⟩ := Jvm.LawKit.callS X178 hx (y := (⟨"com/example/plain_ranker/plainranker/data/BinArrayCountNonZeroPinLaw", "expect", "(IIII)I"⟩ : MethodName)) hown (mvT hZ (hw _ (List.mem_of_getElem? (i := 31) rfl))) (mvT hZ (hw _ (List.mem_of_getElem? (i := 32) rfl))) (mvT hZ (hw _ (List.mem_of_getElem? (i := 33) rfl))) (mvT hZ (hw _ (List.mem_of_getElem? (i := 34) rfl))) (by decide) (backOf (W := 1) (rm5 l Z a0 hw [] p6 (0 : Int32) ((p5 &&& (2147483647 : Int32)) % (4 : Int32)) (p2 &&& (255 : Int32)) T178.heap n0 z182) hZ (hw _ (List.mem_of_getElem? (i := 34) rfl)) (hw _ (List.mem_of_getElem? (i := 33) rfl)) (by decide) (by decide)) (g := (mkF m 169 #[.val (.int p1), .val (.int p2), .val (.int p3), .val (.int p4), .val (.int p5), .val (.int p6), .val (.int (1 : Int32)), .val (.int ((p1.toUInt32 >>> ((1 : Int32) &&& 31).toUInt32).toInt32)), .val (.int (((p1.toUInt32 >>> ((1 : Int32) &&& 31).toUInt32).toInt32) &&& (255 : Int32))), .val (.int (255 : Int32)), .val (.int (p2 &&& (255 : Int32))), .val (.int (p3 &&& (255 : Int32))), .val (.int (p4 &&& (255 : Int32))), .val (.int ((p5 &&& (2147483647 : Int32)) % (4 : Int32))), .val (.ref b145), .val (.ref b150)] [(.int (p2 &&& (255 : Int32))), (.int ((p5 &&& (2147483647 : Int32)) % (4 : Int32))), (.int (0 : Int32)), (.int p6), (.int (own_e p6 (0 : Int32) ((p5 &&& (2147483647 : Int32)) % (4 : Int32)) (nar .byte ((p2 &&& (255 : Int32)).toInt8.toInt32))))])) rfl (by rw [hml]; rfl) (argsL := [(.int p6), (.int (0 : Int32)), (.int ((p5 &&& (2147483647 : Int32)) % (4 : Int32))), (.int (p2 &&& (255 : Int32)))]) (rest := [(.int (own_e p6 (0 : Int32) ((p5 &&& (2147483647 : Int32)) % (4 : Int32)) (nar .byte ((p2 &&& (255 : Int32)).toInt8.toInt32))))]) (lenOf pd_2 rfl) rfl (by show 2 * 0 + _ ≤ _; exact Nat.le_of_eq rfl) (hb hby at_169) (fun _ _ => ⟨rfl, rfl, (by decide : 3 + 0 ≤ _), (by decide : 9 + 0 ≤ _)⟩)
    dsimp only [Pt.U, Pt.locs, Pt.cells, Pt.slots] at X181 l181 y181 z181 st181 hQ181
    subst l181 y181 z181
    obtain ⟨rfl, Nq181, Heq181⟩ := hQ181
    have N181 := Fr.app N178 Nq181
    obtain ⟨cl183, Ar183, qc183, S183, M183, Hh183, G183⟩ := id R178_1
    have hin183 : ¬ ((1 : Int32) < 0 ∨ cl183.slots.size ≤ ((1 : Int32)).toNatClampNeg) := inb_of S183 ⟨by decide, by decide⟩
    obtain ⟨_, _, ⟨T184, L184, k184, n184⟩, -, X184, ⟨Lc184, hQ184, l184, y184, z184⟩, st184⟩ := Jvm.LawKit.callS X181 hx (y := (⟨"com/example/plain_ranker/plainranker/data/BinArrayCountNonZeroPinLaw", "expect", "(IIII)I"⟩ : MethodName)) hown (mvT hZ (hw _ (List.mem_of_getElem? (i := 31) rfl))) (mvT hZ (hw _ (List.mem_of_getElem? (i := 32) rfl))) (mvT hZ (hw _ (List.mem_of_getElem? (i := 33) rfl))) (mvT hZ (hw _ (List.mem_of_getElem? (i := 34) rfl))) (by decide) (backOf (W := 1) (rm5 l Z a0 hw [] (p6 ^^^ (42 : Int32)) (1 : Int32) ((p5 &&& (2147483647 : Int32)) % (4 : Int32)) (p3 &&& (255 : Int32)) T178.heap n0 z182) hZ (hw _ (List.mem_of_getElem? (i := 34) rfl)) (hw _ (List.mem_of_getElem? (i := 33) rfl)) (by decide) (by decide)) (g := (mkF m 189 #[.val (.int p1), .val (.int p2), .val (.int p3), .val (.int p4), .val (.int p5), .val (.int p6), .val (.int (1 : Int32)), .val (.int ((p1.toUInt32 >>> ((1 : Int32) &&& 31).toUInt32).toInt32)), .val (.int (((p1.toUInt32 >>> ((1 : Int32) &&& 31).toUInt32).toInt32) &&& (255 : Int32))), .val (.int (255 : Int32)), .val (.int (p2 &&& (255 : Int32))), .val (.int (p3 &&& (255 : Int32))), .val (.int (p4 &&& (255 : Int32))), .val (.int ((p5 &&& (2147483647 : Int32)) % (4 : Int32))), .val (.ref b145), .val (.ref b150)] [(.int (p3 &&& (255 : Int32))), (.int ((p5 &&& (2147483647 : Int32)) % (4 : Int32))), (.int (1 : Int32)), (.int (p6 ^^^ (42 : Int32))), (.int (own_e (p6 ^^^ (42 : Int32)) (1 : Int32) ((p5 &&& (2147483647 : Int32)) % (4 : Int32)) (nar .byte ((p3 &&& (255 : Int32)).toInt8.toInt32))))])) rfl (by rw [hml]; rfl) (argsL := [(.int (p6 ^^^ (42 : Int32))), (.int (1 : Int32)), (.int ((p5 &&& (2147483647 : Int32)) % (4 : Int32))), (.int (p3 &&& (255 : Int32)))]) (rest := [(.int (own_e (p6 ^^^ (42 : Int32)) (1 : Int32) ((p5 &&& (2147483647 : Int32)) % (4 : Int32)) (nar .byte ((p3 &&& (255 : Int32)).toInt8.toInt32))))]) (lenOf pd_2 rfl) rfl (by show 2 * 0 + _ ≤ _; exact Nat.le_of_eq rfl) (hb hby at_189) (fun _ _ => ⟨rfl, Heq181, (by decide : 3 + 0 ≤ _), (by decide : 9 + 0 ≤ _)⟩)
    dsimp only [Pt.U, Pt.locs, Pt.cells, Pt.slots] at X184 l184 y184 z184 st184 hQ184
    subst l184 y184 z184
    obtain ⟨rfl, Nq184, Heq184⟩ := hQ184
    have N184 := Fr.app N181 Nq184
    obtain ⟨cl185, Ar185, qc185, S185, M185, Hh185, G185⟩ := id R178_1
    have hin185 : ¬ ((2 : Int32) < 0 ∨ cl185.slots.size ≤ ((2 : Int32)).toNatClampNeg) := inb_of S185 ⟨by decide, by decide⟩
    obtain ⟨_, _, ⟨T186, L186, k186, n186⟩, -, X186, ⟨Lc186, hQ186, l186, y186, z186⟩, st186⟩ := Jvm.LawKit.callS X184 hx (y := (⟨"com/example/plain_ranker/plainranker/data/BinArrayCountNonZeroPinLaw", "expect", "(IIII)I"⟩ : MethodName)) hown (mvT hZ (hw _ (List.mem_of_getElem? (i := 31) rfl))) (mvT hZ (hw _ (List.mem_of_getElem? (i := 32) rfl))) (mvT hZ (hw _ (List.mem_of_getElem? (i := 33) rfl))) (mvT hZ (hw _ (List.mem_of_getElem? (i := 34) rfl))) (by decide) (backOf (W := 1) (rm5 l Z a0 hw [] (p6 ^^^ (-1 : Int32)) (2 : Int32) ((p5 &&& (2147483647 : Int32)) % (4 : Int32)) (p4 &&& (255 : Int32)) T178.heap n0 z182) hZ (hw _ (List.mem_of_getElem? (i := 34) rfl)) (hw _ (List.mem_of_getElem? (i := 33) rfl)) (by decide) (by decide)) (g := (mkF m 208 #[.val (.int p1), .val (.int p2), .val (.int p3), .val (.int p4), .val (.int p5), .val (.int p6), .val (.int (1 : Int32)), .val (.int ((p1.toUInt32 >>> ((1 : Int32) &&& 31).toUInt32).toInt32)), .val (.int (((p1.toUInt32 >>> ((1 : Int32) &&& 31).toUInt32).toInt32) &&& (255 : Int32))), .val (.int (255 : Int32)), .val (.int (p2 &&& (255 : Int32))), .val (.int (p3 &&& (255 : Int32))), .val (.int (p4 &&& (255 : Int32))), .val (.int ((p5 &&& (2147483647 : Int32)) % (4 : Int32))), .val (.ref b145), .val (.ref b150)] [(.int (p4 &&& (255 : Int32))), (.int ((p5 &&& (2147483647 : Int32)) % (4 : Int32))), (.int (2 : Int32)), (.int (p6 ^^^ (-1 : Int32))), (.int (own_e (p6 ^^^ (-1 : Int32)) (2 : Int32) ((p5 &&& (2147483647 : Int32)) % (4 : Int32)) (nar .byte ((p4 &&& (255 : Int32)).toInt8.toInt32))))])) rfl (by rw [hml]; rfl) (argsL := [(.int (p6 ^^^ (-1 : Int32))), (.int (2 : Int32)), (.int ((p5 &&& (2147483647 : Int32)) % (4 : Int32))), (.int (p4 &&& (255 : Int32)))]) (rest := [(.int (own_e (p6 ^^^ (-1 : Int32)) (2 : Int32) ((p5 &&& (2147483647 : Int32)) % (4 : Int32)) (nar .byte ((p4 &&& (255 : Int32)).toInt8.toInt32))))]) (lenOf pd_2 rfl) rfl (by show 2 * 0 + _ ≤ _; exact Nat.le_of_eq rfl) (hb hby at_208) (fun _ _ => ⟨rfl, Heq184, (by decide : 3 + 0 ≤ _), (by decide : 9 + 0 ≤ _)⟩)
    dsimp only [Pt.U, Pt.locs, Pt.cells, Pt.slots] at X186 l186 y186 z186 st186 hQ186
    subst l186 y186 z186
    obtain ⟨rfl, Nq186, Heq186⟩ := hQ186
    have N186 := Fr.app N184 Nq186
    obtain ⟨fs, hr, hrun, hended, hW, hsame⟩ := X186.leave (v := some (.int (1 : Int32))) (fun h => by rw [Bd.returns] at h; cases h)
    refine ⟨_, _, pre101 _ ?_, hrun, hended, _, _, rfl, ?_, ⟨_, rfl⟩, hW, hsame.mono (by decide) (by decide)⟩
    · skip
      show Steps p.tables e below (s₁.setTop (mkF m 3 #[.val (.int p1), .val (.int p2), .val (.int p3), .val (.int p4), .val (.int p5), .val (.int p6), .unset, .unset, .unset, .unset, .unset, .unset, .unset, .unset, .unset, .unset] [(.int (p1 &&& (1 : Int32)))])) _
      refine XS.ifNo X0.here hx rfl (hb hby at_3) rfl ((if0 _ _).trans (feq (hc3_102 : ¬ ((p1 &&& (1 : Int32)) = (0 : Int32)))).1) ?_
      show Steps p.tables e below (s₁.setTop (mkF m 6 #[.val (.int p1), .val (.int p2), .val (.int p3), .val (.int p4), .val (.int p5), .val (.int p6), .unset, .unset, .unset, .unset, .unset, .unset, .unset, .unset, .unset, .unset] [])) _
      refine XS.iconst X0.here hx rfl (hb hby at_6) ?_
      show Steps p.tables e below (s₁.setTop (mkF m 7 #[.val (.int p1), .val (.int p2), .val (.int p3), .val (.int p4), .val (.int p5), .val (.int p6), .unset, .unset, .unset, .unset, .unset, .unset, .unset, .unset, .unset, .unset] [(.int (1 : Int32))])) _
      refine XS.goto X0.here hx rfl (pc0 := 7) (pc' := 11) rfl (hb hby at_7) (by decide) (by decide) ?_
      show Steps p.tables e below (s₁.setTop (mkF m 11 #[.val (.int p1), .val (.int p2), .val (.int p3), .val (.int p4), .val (.int p5), .val (.int p6), .unset, .unset, .unset, .unset, .unset, .unset, .unset, .unset, .unset, .unset] [(.int (1 : Int32))])) _
      refine XS.istore X0.here hx rfl (hb hby at_11) rfl (l' := #[.val (.int p1), .val (.int p2), .val (.int p3), .val (.int p4), .val (.int p5), .val (.int p6), .val (.int (1 : Int32)), .unset, .unset, .unset, .unset, .unset, .unset, .unset, .unset, .unset]) rfl ?_
      show Steps p.tables e below (s₁.setTop (mkF m 13 #[.val (.int p1), .val (.int p2), .val (.int p3), .val (.int p4), .val (.int p5), .val (.int p6), .val (.int (1 : Int32)), .unset, .unset, .unset, .unset, .unset, .unset, .unset, .unset, .unset] [])) _
      refine XS.iloadN X0.here hx rfl (hb hby at_13) rfl ?_
      show Steps p.tables e below (s₁.setTop (mkF m 14 #[.val (.int p1), .val (.int p2), .val (.int p3), .val (.int p4), .val (.int p5), .val (.int p6), .val (.int (1 : Int32)), .unset, .unset, .unset, .unset, .unset, .unset, .unset, .unset, .unset] [(.int p1)])) _
      refine XS.iconst X0.here hx rfl (hb hby at_14) ?_
      show Steps p.tables e below (s₁.setTop (mkF m 15 #[.val (.int p1), .val (.int p2), .val (.int p3), .val (.int p4), .val (.int p5), .val (.int p6), .val (.int (1 : Int32)), .unset, .unset, .unset, .unset, .unset, .unset, .unset, .unset, .unset] [(.int (1 : Int32)), (.int p1)])) _
      refine XS.iushr X0.here hx rfl (hb hby at_15) rfl ?_
      show Steps p.tables e below (s₁.setTop (mkF m 16 #[.val (.int p1), .val (.int p2), .val (.int p3), .val (.int p4), .val (.int p5), .val (.int p6), .val (.int (1 : Int32)), .unset, .unset, .unset, .unset, .unset, .unset, .unset, .unset, .unset] [(.int ((p1.toUInt32 >>> ((1 : Int32) &&& 31).toUInt32).toInt32))])) _
      refine XS.istore X0.here hx rfl (hb hby at_16) rfl (l' := #[.val (.int p1), .val (.int p2), .val (.int p3), .val (.int p4), .val (.int p5), .val (.int p6), .val (.int (1 : Int32)), .val (.int ((p1.toUInt32 >>> ((1 : Int32) &&& 31).toUInt32).toInt32)), .unset, .unset, .unset, .unset, .unset, .unset, .unset, .unset]) rfl ?_
      show Steps p.tables e below (s₁.setTop (mkF m 18 #[.val (.int p1), .val (.int p2), .val (.int p3), .val (.int p4), .val (.int p5), .val (.int p6), .val (.int (1 : Int32)), .val (.int ((p1.toUInt32 >>> ((1 : Int32) &&& 31).toUInt32).toInt32)), .unset, .unset, .unset, .unset, .unset, .unset, .unset, .unset] [])) _
      refine XS.iload X0.here hx rfl (hb hby at_18) rfl ?_
      show Steps p.tables e below (s₁.setTop (mkF m 20 #[.val (.int p1), .val (.int p2), .val (.int p3), .val (.int p4), .val (.int p5), .val (.int p6), .val (.int (1 : Int32)), .val (.int ((p1.toUInt32 >>> ((1 : Int32) &&& 31).toUInt32).toInt32)), .unset, .unset, .unset, .unset, .unset, .unset, .unset, .unset] [(.int (1 : Int32))])) _
      refine XS.ifNo X0.here hx rfl (hb hby at_20) rfl ((if0 _ _).trans (feq (by decide : ¬ ((1 : Int32) = (0 : Int32)))).1) ?_
      show Steps p.tables e below (s₁.setTop (mkF m 23 #[.val (.int p1), .val (.int p2), .val (.int p3), .val (.int p4), .val (.int p5), .val (.int p6), .val (.int (1 : Int32)), .val (.int ((p1.toUInt32 >>> ((1 : Int32) &&& 31).toUInt32).toInt32)), .unset, .unset, .unset, .unset, .unset, .unset, .unset, .unset] [])) _
      refine XS.iload X0.here hx rfl (hb hby at_23) rfl ?_
      show Steps p.tables e below (s₁.setTop (mkF m 25 #[.val (.int p1), .val (.int p2), .val (.int p3), .val (.int p4), .val (.int p5), .val (.int p6), .val (.int (1 : Int32)), .val (.int ((p1.toUInt32 >>> ((1 : Int32) &&& 31).toUInt32).toInt32)), .unset, .unset, .unset, .unset, .unset, .unset, .unset, .unset] [(.int ((p1.toUInt32 >>> ((1 : Int32) &&& 31).toUInt32).toInt32))])) _
      refine XS.sipush X0.here hx rfl (hb hby at_25) ?_
      show Steps p.tables e below (s₁.setTop (mkF m 28 #[.val (.int p1), .val (.int p2), .val (.int p3), .val (.int p4), .val (.int p5), .val (.int p6), .val (.int (1 : Int32)), .val (.int ((p1.toUInt32 >>> ((1 : Int32) &&& 31).toUInt32).toInt32)), .unset, .unset, .unset, .unset, .unset, .unset, .unset, .unset] [(.int (255 : Int32)), (.int ((p1.toUInt32 >>> ((1 : Int32) &&& 31).toUInt32).toInt32))])) _
      refine XS.iand X0.here hx rfl (hb hby at_28) rfl ?_
      show Steps p.tables e below (s₁.setTop (mkF m 29 #[.val (.int p1), .val (.int p2), .val (.int p3), .val (.int p4), .val (.int p5), .val (.int p6), .val (.int (1 : Int32)), .val (.int ((p1.toUInt32 >>> ((1 : Int32) &&& 31).toUInt32).toInt32)), .unset, .unset, .unset, .unset, .unset, .unset, .unset, .unset] [(.int (((p1.toUInt32 >>> ((1 : Int32) &&& 31).toUInt32).toInt32) &&& (255 : Int32)))])) _
      refine XS.goto X0.here hx rfl (pc0 := 29) (pc' := 41) rfl (hb hby at_29) (by decide) (by decide) ?_
      show Steps p.tables e below (s₁.setTop (mkF m 41 #[.val (.int p1), .val (.int p2), .val (.int p3), .val (.int p4), .val (.int p5), .val (.int p6), .val (.int (1 : Int32)), .val (.int ((p1.toUInt32 >>> ((1 : Int32) &&& 31).toUInt32).toInt32)), .unset, .unset, .unset, .unset, .unset, .unset, .unset, .unset] [(.int (((p1.toUInt32 >>> ((1 : Int32) &&& 31).toUInt32).toInt32) &&& (255 : Int32)))])) _
      refine XS.istore X0.here hx rfl (hb hby at_41) rfl (l' := #[.val (.int p1), .val (.int p2), .val (.int p3), .val (.int p4), .val (.int p5), .val (.int p6), .val (.int (1 : Int32)), .val (.int ((p1.toUInt32 >>> ((1 : Int32) &&& 31).toUInt32).toInt32)), .val (.int (((p1.toUInt32 >>> ((1 : Int32) &&& 31).toUInt32).toInt32) &&& (255 : Int32))), .unset, .unset, .unset, .unset, .unset, .unset, .unset]) rfl ?_
      show Steps p.tables e below (s₁.setTop (mkF m 43 #[.val (.int p1), .val (.int p2), .val (.int p3), .val (.int p4), .val (.int p5), .val (.int p6), .val (.int (1 : Int32)), .val (.int ((p1.toUInt32 >>> ((1 : Int32) &&& 31).toUInt32).toInt32)), .val (.int (((p1.toUInt32 >>> ((1 : Int32) &&& 31).toUInt32).toInt32) &&& (255 : Int32))), .unset, .unset, .unset, .unset, .unset, .unset, .unset] [])) _
      refine XS.iload X0.here hx rfl (hb hby at_43) rfl ?_
      show Steps p.tables e below (s₁.setTop (mkF m 45 #[.val (.int p1), .val (.int p2), .val (.int p3), .val (.int p4), .val (.int p5), .val (.int p6), .val (.int (1 : Int32)), .val (.int ((p1.toUInt32 >>> ((1 : Int32) &&& 31).toUInt32).toInt32)), .val (.int (((p1.toUInt32 >>> ((1 : Int32) &&& 31).toUInt32).toInt32) &&& (255 : Int32))), .unset, .unset, .unset, .unset, .unset, .unset, .unset] [(.int (1 : Int32))])) _
      refine XS.ifNo X0.here hx rfl (hb hby at_45) rfl ((if0 _ _).trans (feq (by decide : ¬ ((1 : Int32) = (0 : Int32)))).1) ?_
      show Steps p.tables e below (s₁.setTop (mkF m 48 #[.val (.int p1), .val (.int p2), .val (.int p3), .val (.int p4), .val (.int p5), .val (.int p6), .val (.int (1 : Int32)), .val (.int ((p1.toUInt32 >>> ((1 : Int32) &&& 31).toUInt32).toInt32)), .val (.int (((p1.toUInt32 >>> ((1 : Int32) &&& 31).toUInt32).toInt32) &&& (255 : Int32))), .unset, .unset, .unset, .unset, .unset, .unset, .unset] [])) _
      refine XS.sipush X0.here hx rfl (hb hby at_48) ?_
      show Steps p.tables e below (s₁.setTop (mkF m 51 #[.val (.int p1), .val (.int p2), .val (.int p3), .val (.int p4), .val (.int p5), .val (.int p6), .val (.int (1 : Int32)), .val (.int ((p1.toUInt32 >>> ((1 : Int32) &&& 31).toUInt32).toInt32)), .val (.int (((p1.toUInt32 >>> ((1 : Int32) &&& 31).toUInt32).toInt32) &&& (255 : Int32))), .unset, .unset, .unset, .unset, .unset, .unset, .unset] [(.int (255 : Int32))])) _
      refine XS.goto X0.here hx rfl (pc0 := 51) (pc' := 56) rfl (hb hby at_51) (by decide) (by decide) ?_
      show Steps p.tables e below (s₁.setTop (mkF m 56 #[.val (.int p1), .val (.int p2), .val (.int p3), .val (.int p4), .val (.int p5), .val (.int p6), .val (.int (1 : Int32)), .val (.int ((p1.toUInt32 >>> ((1 : Int32) &&& 31).toUInt32).toInt32)), .val (.int (((p1.toUInt32 >>> ((1 : Int32) &&& 31).toUInt32).toInt32) &&& (255 : Int32))), .unset, .unset, .unset, .unset, .unset, .unset, .unset] [(.int (255 : Int32))])) _
      refine XS.istore X0.here hx rfl (hb hby at_56) rfl (l' := #[.val (.int p1), .val (.int p2), .val (.int p3), .val (.int p4), .val (.int p5), .val (.int p6), .val (.int (1 : Int32)), .val (.int ((p1.toUInt32 >>> ((1 : Int32) &&& 31).toUInt32).toInt32)), .val (.int (((p1.toUInt32 >>> ((1 : Int32) &&& 31).toUInt32).toInt32) &&& (255 : Int32))), .val (.int (255 : Int32)), .unset, .unset, .unset, .unset, .unset, .unset]) rfl ?_
      show Steps p.tables e below (s₁.setTop (mkF m 58 #[.val (.int p1), .val (.int p2), .val (.int p3), .val (.int p4), .val (.int p5), .val (.int p6), .val (.int (1 : Int32)), .val (.int ((p1.toUInt32 >>> ((1 : Int32) &&& 31).toUInt32).toInt32)), .val (.int (((p1.toUInt32 >>> ((1 : Int32) &&& 31).toUInt32).toInt32) &&& (255 : Int32))), .val (.int (255 : Int32)), .unset, .unset, .unset, .unset, .unset, .unset] [])) _
      refine XS.iloadN X0.here hx rfl (hb hby at_58) rfl ?_
      show Steps p.tables e below (s₁.setTop (mkF m 59 #[.val (.int p1), .val (.int p2), .val (.int p3), .val (.int p4), .val (.int p5), .val (.int p6), .val (.int (1 : Int32)), .val (.int ((p1.toUInt32 >>> ((1 : Int32) &&& 31).toUInt32).toInt32)), .val (.int (((p1.toUInt32 >>> ((1 : Int32) &&& 31).toUInt32).toInt32) &&& (255 : Int32))), .val (.int (255 : Int32)), .unset, .unset, .unset, .unset, .unset, .unset] [(.int p2)])) _
      refine XS.iload X0.here hx rfl (hb hby at_59) rfl ?_
      show Steps p.tables e below (s₁.setTop (mkF m 61 #[.val (.int p1), .val (.int p2), .val (.int p3), .val (.int p4), .val (.int p5), .val (.int p6), .val (.int (1 : Int32)), .val (.int ((p1.toUInt32 >>> ((1 : Int32) &&& 31).toUInt32).toInt32)), .val (.int (((p1.toUInt32 >>> ((1 : Int32) &&& 31).toUInt32).toInt32) &&& (255 : Int32))), .val (.int (255 : Int32)), .unset, .unset, .unset, .unset, .unset, .unset] [(.int (255 : Int32)), (.int p2)])) _
      refine XS.iand X0.here hx rfl (hb hby at_61) rfl ?_
      show Steps p.tables e below (s₁.setTop (mkF m 62 #[.val (.int p1), .val (.int p2), .val (.int p3), .val (.int p4), .val (.int p5), .val (.int p6), .val (.int (1 : Int32)), .val (.int ((p1.toUInt32 >>> ((1 : Int32) &&& 31).toUInt32).toInt32)), .val (.int (((p1.toUInt32 >>> ((1 : Int32) &&& 31).toUInt32).toInt32) &&& (255 : Int32))), .val (.int (255 : Int32)), .unset, .unset, .unset, .unset, .unset, .unset] [(.int (p2 &&& (255 : Int32)))])) _
      refine XS.istore X0.here hx rfl (hb hby at_62) rfl (l' := #[.val (.int p1), .val (.int p2), .val (.int p3), .val (.int p4), .val (.int p5), .val (.int p6), .val (.int (1 : Int32)), .val (.int ((p1.toUInt32 >>> ((1 : Int32) &&& 31).toUInt32).toInt32)), .val (.int (((p1.toUInt32 >>> ((1 : Int32) &&& 31).toUInt32).toInt32) &&& (255 : Int32))), .val (.int (255 : Int32)), .val (.int (p2 &&& (255 : Int32))), .unset, .unset, .unset, .unset, .unset]) rfl ?_
      show Steps p.tables e below (s₁.setTop (mkF m 64 #[.val (.int p1), .val (.int p2), .val (.int p3), .val (.int p4), .val (.int p5), .val (.int p6), .val (.int (1 : Int32)), .val (.int ((p1.toUInt32 >>> ((1 : Int32) &&& 31).toUInt32).toInt32)), .val (.int (((p1.toUInt32 >>> ((1 : Int32) &&& 31).toUInt32).toInt32) &&& (255 : Int32))), .val (.int (255 : Int32)), .val (.int (p2 &&& (255 : Int32))), .unset, .unset, .unset, .unset, .unset] [])) _
      refine XS.iloadN X0.here hx rfl (hb hby at_64) rfl ?_
      show Steps p.tables e below (s₁.setTop (mkF m 65 #[.val (.int p1), .val (.int p2), .val (.int p3), .val (.int p4), .val (.int p5), .val (.int p6), .val (.int (1 : Int32)), .val (.int ((p1.toUInt32 >>> ((1 : Int32) &&& 31).toUInt32).toInt32)), .val (.int (((p1.toUInt32 >>> ((1 : Int32) &&& 31).toUInt32).toInt32) &&& (255 : Int32))), .val (.int (255 : Int32)), .val (.int (p2 &&& (255 : Int32))), .unset, .unset, .unset, .unset, .unset] [(.int p3)])) _
      refine XS.iload X0.here hx rfl (hb hby at_65) rfl ?_
      show Steps p.tables e below (s₁.setTop (mkF m 67 #[.val (.int p1), .val (.int p2), .val (.int p3), .val (.int p4), .val (.int p5), .val (.int p6), .val (.int (1 : Int32)), .val (.int ((p1.toUInt32 >>> ((1 : Int32) &&& 31).toUInt32).toInt32)), .val (.int (((p1.toUInt32 >>> ((1 : Int32) &&& 31).toUInt32).toInt32) &&& (255 : Int32))), .val (.int (255 : Int32)), .val (.int (p2 &&& (255 : Int32))), .unset, .unset, .unset, .unset, .unset] [(.int (255 : Int32)), (.int p3)])) _
      refine XS.iand X0.here hx rfl (hb hby at_67) rfl ?_
      show Steps p.tables e below (s₁.setTop (mkF m 68 #[.val (.int p1), .val (.int p2), .val (.int p3), .val (.int p4), .val (.int p5), .val (.int p6), .val (.int (1 : Int32)), .val (.int ((p1.toUInt32 >>> ((1 : Int32) &&& 31).toUInt32).toInt32)), .val (.int (((p1.toUInt32 >>> ((1 : Int32) &&& 31).toUInt32).toInt32) &&& (255 : Int32))), .val (.int (255 : Int32)), .val (.int (p2 &&& (255 : Int32))), .unset, .unset, .unset, .unset, .unset] [(.int (p3 &&& (255 : Int32)))])) _
      refine XS.istore X0.here hx rfl (hb hby at_68) rfl (l' := #[.val (.int p1), .val (.int p2), .val (.int p3), .val (.int p4), .val (.int p5), .val (.int p6), .val (.int (1 : Int32)), .val (.int ((p1.toUInt32 >>> ((1 : Int32) &&& 31).toUInt32).toInt32)), .val (.int (((p1.toUInt32 >>> ((1 : Int32) &&& 31).toUInt32).toInt32) &&& (255 : Int32))), .val (.int (255 : Int32)), .val (.int (p2 &&& (255 : Int32))), .val (.int (p3 &&& (255 : Int32))), .unset, .unset, .unset, .unset]) rfl ?_
      show Steps p.tables e below (s₁.setTop (mkF m 70 #[.val (.int p1), .val (.int p2), .val (.int p3), .val (.int p4), .val (.int p5), .val (.int p6), .val (.int (1 : Int32)), .val (.int ((p1.toUInt32 >>> ((1 : Int32) &&& 31).toUInt32).toInt32)), .val (.int (((p1.toUInt32 >>> ((1 : Int32) &&& 31).toUInt32).toInt32) &&& (255 : Int32))), .val (.int (255 : Int32)), .val (.int (p2 &&& (255 : Int32))), .val (.int (p3 &&& (255 : Int32))), .unset, .unset, .unset, .unset] [])) _
      refine XS.iloadN X0.here hx rfl (hb hby at_70) rfl ?_
      show Steps p.tables e below (s₁.setTop (mkF m 71 #[.val (.int p1), .val (.int p2), .val (.int p3), .val (.int p4), .val (.int p5), .val (.int p6), .val (.int (1 : Int32)), .val (.int ((p1.toUInt32 >>> ((1 : Int32) &&& 31).toUInt32).toInt32)), .val (.int (((p1.toUInt32 >>> ((1 : Int32) &&& 31).toUInt32).toInt32) &&& (255 : Int32))), .val (.int (255 : Int32)), .val (.int (p2 &&& (255 : Int32))), .val (.int (p3 &&& (255 : Int32))), .unset, .unset, .unset, .unset] [(.int p4)])) _
      refine XS.iload X0.here hx rfl (hb hby at_71) rfl ?_
      show Steps p.tables e below (s₁.setTop (mkF m 73 #[.val (.int p1), .val (.int p2), .val (.int p3), .val (.int p4), .val (.int p5), .val (.int p6), .val (.int (1 : Int32)), .val (.int ((p1.toUInt32 >>> ((1 : Int32) &&& 31).toUInt32).toInt32)), .val (.int (((p1.toUInt32 >>> ((1 : Int32) &&& 31).toUInt32).toInt32) &&& (255 : Int32))), .val (.int (255 : Int32)), .val (.int (p2 &&& (255 : Int32))), .val (.int (p3 &&& (255 : Int32))), .unset, .unset, .unset, .unset] [(.int (255 : Int32)), (.int p4)])) _
      refine XS.iand X0.here hx rfl (hb hby at_73) rfl ?_
      show Steps p.tables e below (s₁.setTop (mkF m 74 #[.val (.int p1), .val (.int p2), .val (.int p3), .val (.int p4), .val (.int p5), .val (.int p6), .val (.int (1 : Int32)), .val (.int ((p1.toUInt32 >>> ((1 : Int32) &&& 31).toUInt32).toInt32)), .val (.int (((p1.toUInt32 >>> ((1 : Int32) &&& 31).toUInt32).toInt32) &&& (255 : Int32))), .val (.int (255 : Int32)), .val (.int (p2 &&& (255 : Int32))), .val (.int (p3 &&& (255 : Int32))), .unset, .unset, .unset, .unset] [(.int (p4 &&& (255 : Int32)))])) _
      refine XS.istore X0.here hx rfl (hb hby at_74) rfl (l' := #[.val (.int p1), .val (.int p2), .val (.int p3), .val (.int p4), .val (.int p5), .val (.int p6), .val (.int (1 : Int32)), .val (.int ((p1.toUInt32 >>> ((1 : Int32) &&& 31).toUInt32).toInt32)), .val (.int (((p1.toUInt32 >>> ((1 : Int32) &&& 31).toUInt32).toInt32) &&& (255 : Int32))), .val (.int (255 : Int32)), .val (.int (p2 &&& (255 : Int32))), .val (.int (p3 &&& (255 : Int32))), .val (.int (p4 &&& (255 : Int32))), .unset, .unset, .unset]) rfl ?_
      show Steps p.tables e below (s₁.setTop (mkF m 76 #[.val (.int p1), .val (.int p2), .val (.int p3), .val (.int p4), .val (.int p5), .val (.int p6), .val (.int (1 : Int32)), .val (.int ((p1.toUInt32 >>> ((1 : Int32) &&& 31).toUInt32).toInt32)), .val (.int (((p1.toUInt32 >>> ((1 : Int32) &&& 31).toUInt32).toInt32) &&& (255 : Int32))), .val (.int (255 : Int32)), .val (.int (p2 &&& (255 : Int32))), .val (.int (p3 &&& (255 : Int32))), .val (.int (p4 &&& (255 : Int32))), .unset, .unset, .unset] [])) _
      refine XS.iload X0.here hx rfl (hb hby at_76) rfl ?_
      show Steps p.tables e below (s₁.setTop (mkF m 78 #[.val (.int p1), .val (.int p2), .val (.int p3), .val (.int p4), .val (.int p5), .val (.int p6), .val (.int (1 : Int32)), .val (.int ((p1.toUInt32 >>> ((1 : Int32) &&& 31).toUInt32).toInt32)), .val (.int (((p1.toUInt32 >>> ((1 : Int32) &&& 31).toUInt32).toInt32) &&& (255 : Int32))), .val (.int (255 : Int32)), .val (.int (p2 &&& (255 : Int32))), .val (.int (p3 &&& (255 : Int32))), .val (.int (p4 &&& (255 : Int32))), .unset, .unset, .unset] [(.int p5)])) _
      refine X0.ldcInt hx hown (mvT hZ (hw _ (List.mem_of_getElem? (i := 2) rfl))) (g := (mkF m 78 #[.val (.int p1), .val (.int p2), .val (.int p3), .val (.int p4), .val (.int p5), .val (.int p6), .val (.int (1 : Int32)), .val (.int ((p1.toUInt32 >>> ((1 : Int32) &&& 31).toUInt32).toInt32)), .val (.int (((p1.toUInt32 >>> ((1 : Int32) &&& 31).toUInt32).toInt32) &&& (255 : Int32))), .val (.int (255 : Int32)), .val (.int (p2 &&& (255 : Int32))), .val (.int (p3 &&& (255 : Int32))), .val (.int (p4 &&& (255 : Int32))), .unset, .unset, .unset] [(.int p5)])) rfl (hb hby at_78) _ ?_
      show Steps p.tables e below (s₁.setTop (mkF m 80 #[.val (.int p1), .val (.int p2), .val (.int p3), .val (.int p4), .val (.int p5), .val (.int p6), .val (.int (1 : Int32)), .val (.int ((p1.toUInt32 >>> ((1 : Int32) &&& 31).toUInt32).toInt32)), .val (.int (((p1.toUInt32 >>> ((1 : Int32) &&& 31).toUInt32).toInt32) &&& (255 : Int32))), .val (.int (255 : Int32)), .val (.int (p2 &&& (255 : Int32))), .val (.int (p3 &&& (255 : Int32))), .val (.int (p4 &&& (255 : Int32))), .unset, .unset, .unset] [(.int (2147483647 : Int32)), (.int p5)])) _
      refine XS.iand X0.here hx rfl (hb hby at_80) rfl ?_
      show Steps p.tables e below (s₁.setTop (mkF m 81 #[.val (.int p1), .val (.int p2), .val (.int p3), .val (.int p4), .val (.int p5), .val (.int p6), .val (.int (1 : Int32)), .val (.int ((p1.toUInt32 >>> ((1 : Int32) &&& 31).toUInt32).toInt32)), .val (.int (((p1.toUInt32 >>> ((1 : Int32) &&& 31).toUInt32).toInt32) &&& (255 : Int32))), .val (.int (255 : Int32)), .val (.int (p2 &&& (255 : Int32))), .val (.int (p3 &&& (255 : Int32))), .val (.int (p4 &&& (255 : Int32))), .unset, .unset, .unset] [(.int (p5 &&& (2147483647 : Int32)))])) _
      refine XS.iconst X0.here hx rfl (hb hby at_81) ?_
      show Steps p.tables e below (s₁.setTop (mkF m 82 #[.val (.int p1), .val (.int p2), .val (.int p3), .val (.int p4), .val (.int p5), .val (.int p6), .val (.int (1 : Int32)), .val (.int ((p1.toUInt32 >>> ((1 : Int32) &&& 31).toUInt32).toInt32)), .val (.int (((p1.toUInt32 >>> ((1 : Int32) &&& 31).toUInt32).toInt32) &&& (255 : Int32))), .val (.int (255 : Int32)), .val (.int (p2 &&& (255 : Int32))), .val (.int (p3 &&& (255 : Int32))), .val (.int (p4 &&& (255 : Int32))), .unset, .unset, .unset] [(.int (4 : Int32)), (.int (p5 &&& (2147483647 : Int32)))])) _
      refine iremM (g := (mkF m 82 #[.val (.int p1), .val (.int p2), .val (.int p3), .val (.int p4), .val (.int p5), .val (.int p6), .val (.int (1 : Int32)), .val (.int ((p1.toUInt32 >>> ((1 : Int32) &&& 31).toUInt32).toInt32)), .val (.int (((p1.toUInt32 >>> ((1 : Int32) &&& 31).toUInt32).toInt32) &&& (255 : Int32))), .val (.int (255 : Int32)), .val (.int (p2 &&& (255 : Int32))), .val (.int (p3 &&& (255 : Int32))), .val (.int (p4 &&& (255 : Int32))), .unset, .unset, .unset] [(.int (4 : Int32)), (.int (p5 &&& (2147483647 : Int32)))])) X0 hx rfl (hb hby at_82) rfl (by decide) ?_
      show Steps p.tables e below (s₁.setTop (mkF m 83 #[.val (.int p1), .val (.int p2), .val (.int p3), .val (.int p4), .val (.int p5), .val (.int p6), .val (.int (1 : Int32)), .val (.int ((p1.toUInt32 >>> ((1 : Int32) &&& 31).toUInt32).toInt32)), .val (.int (((p1.toUInt32 >>> ((1 : Int32) &&& 31).toUInt32).toInt32) &&& (255 : Int32))), .val (.int (255 : Int32)), .val (.int (p2 &&& (255 : Int32))), .val (.int (p3 &&& (255 : Int32))), .val (.int (p4 &&& (255 : Int32))), .unset, .unset, .unset] [(.int ((p5 &&& (2147483647 : Int32)) % (4 : Int32)))])) _
      refine XS.istore X0.here hx rfl (hb hby at_83) rfl (l' := #[.val (.int p1), .val (.int p2), .val (.int p3), .val (.int p4), .val (.int p5), .val (.int p6), .val (.int (1 : Int32)), .val (.int ((p1.toUInt32 >>> ((1 : Int32) &&& 31).toUInt32).toInt32)), .val (.int (((p1.toUInt32 >>> ((1 : Int32) &&& 31).toUInt32).toInt32) &&& (255 : Int32))), .val (.int (255 : Int32)), .val (.int (p2 &&& (255 : Int32))), .val (.int (p3 &&& (255 : Int32))), .val (.int (p4 &&& (255 : Int32))), .val (.int ((p5 &&& (2147483647 : Int32)) % (4 : Int32))), .unset, .unset]) rfl ?_
      show Steps p.tables e below (s₁.setTop (mkF m 85 #[.val (.int p1), .val (.int p2), .val (.int p3), .val (.int p4), .val (.int p5), .val (.int p6), .val (.int (1 : Int32)), .val (.int ((p1.toUInt32 >>> ((1 : Int32) &&& 31).toUInt32).toInt32)), .val (.int (((p1.toUInt32 >>> ((1 : Int32) &&& 31).toUInt32).toInt32) &&& (255 : Int32))), .val (.int (255 : Int32)), .val (.int (p2 &&& (255 : Int32))), .val (.int (p3 &&& (255 : Int32))), .val (.int (p4 &&& (255 : Int32))), .val (.int ((p5 &&& (2147483647 : Int32)) % (4 : Int32))), .unset, .unset] [])) _
      refine XS.iconst X0.here hx rfl (hb hby at_85) ?_
      show Steps p.tables e below (s₁.setTop (mkF m 86 #[.val (.int p1), .val (.int p2), .val (.int p3), .val (.int p4), .val (.int p5), .val (.int p6), .val (.int (1 : Int32)), .val (.int ((p1.toUInt32 >>> ((1 : Int32) &&& 31).toUInt32).toInt32)), .val (.int (((p1.toUInt32 >>> ((1 : Int32) &&& 31).toUInt32).toInt32) &&& (255 : Int32))), .val (.int (255 : Int32)), .val (.int (p2 &&& (255 : Int32))), .val (.int (p3 &&& (255 : Int32))), .val (.int (p4 &&& (255 : Int32))), .val (.int ((p5 &&& (2147483647 : Int32)) % (4 : Int32))), .unset, .unset] [(.int (3 : Int32))])) _
      refine st145 _ ?_
      show Steps p.tables e below (T145.setTop (mkF m 88 #[.val (.int p1), .val (.int p2), .val (.int p3), .val (.int p4), .val (.int p5), .val (.int p6), .val (.int (1 : Int32)), .val (.int ((p1.toUInt32 >>> ((1 : Int32) &&& 31).toUInt32).toInt32)), .val (.int (((p1.toUInt32 >>> ((1 : Int32) &&& 31).toUInt32).toInt32) &&& (255 : Int32))), .val (.int (255 : Int32)), .val (.int (p2 &&& (255 : Int32))), .val (.int (p3 &&& (255 : Int32))), .val (.int (p4 &&& (255 : Int32))), .val (.int ((p5 &&& (2147483647 : Int32)) % (4 : Int32))), .unset, .unset] [(.ref b145)])) _
      refine XS.astore X145.here hx rfl (hb hby at_88) rfl rfl (l' := #[.val (.int p1), .val (.int p2), .val (.int p3), .val (.int p4), .val (.int p5), .val (.int p6), .val (.int (1 : Int32)), .val (.int ((p1.toUInt32 >>> ((1 : Int32) &&& 31).toUInt32).toInt32)), .val (.int (((p1.toUInt32 >>> ((1 : Int32) &&& 31).toUInt32).toInt32) &&& (255 : Int32))), .val (.int (255 : Int32)), .val (.int (p2 &&& (255 : Int32))), .val (.int (p3 &&& (255 : Int32))), .val (.int (p4 &&& (255 : Int32))), .val (.int ((p5 &&& (2147483647 : Int32)) % (4 : Int32))), .val (.ref b145), .unset]) rfl ?_
      show Steps p.tables e below (T145.setTop (mkF m 90 #[.val (.int p1), .val (.int p2), .val (.int p3), .val (.int p4), .val (.int p5), .val (.int p6), .val (.int (1 : Int32)), .val (.int ((p1.toUInt32 >>> ((1 : Int32) &&& 31).toUInt32).toInt32)), .val (.int (((p1.toUInt32 >>> ((1 : Int32) &&& 31).toUInt32).toInt32) &&& (255 : Int32))), .val (.int (255 : Int32)), .val (.int (p2 &&& (255 : Int32))), .val (.int (p3 &&& (255 : Int32))), .val (.int (p4 &&& (255 : Int32))), .val (.int ((p5 &&& (2147483647 : Int32)) % (4 : Int32))), .val (.ref b145), .unset] [])) _
      refine XS.aload X145.here hx rfl (hb hby at_90) rfl rfl ?_
      show Steps p.tables e below (T145.setTop (mkF m 92 #[.val (.int p1), .val (.int p2), .val (.int p3), .val (.int p4), .val (.int p5), .val (.int p6), .val (.int (1 : Int32)), .val (.int ((p1.toUInt32 >>> ((1 : Int32) &&& 31).toUInt32).toInt32)), .val (.int (((p1.toUInt32 >>> ((1 : Int32) &&& 31).toUInt32).toInt32) &&& (255 : Int32))), .val (.int (255 : Int32)), .val (.int (p2 &&& (255 : Int32))), .val (.int (p3 &&& (255 : Int32))), .val (.int (p4 &&& (255 : Int32))), .val (.int ((p5 &&& (2147483647 : Int32)) % (4 : Int32))), .val (.ref b145), .unset] [(.ref b145)])) _
      refine XS.iconst X145.here hx rfl (hb hby at_92) ?_
      show Steps p.tables e below (T145.setTop (mkF m 93 #[.val (.int p1), .val (.int p2), .val (.int p3), .val (.int p4), .val (.int p5), .val (.int p6), .val (.int (1 : Int32)), .val (.int ((p1.toUInt32 >>> ((1 : Int32) &&& 31).toUInt32).toInt32)), .val (.int (((p1.toUInt32 >>> ((1 : Int32) &&& 31).toUInt32).toInt32) &&& (255 : Int32))), .val (.int (255 : Int32)), .val (.int (p2 &&& (255 : Int32))), .val (.int (p3 &&& (255 : Int32))), .val (.int (p4 &&& (255 : Int32))), .val (.int ((p5 &&& (2147483647 : Int32)) % (4 : Int32))), .val (.ref b145), .unset] [(.int (0 : Int32)), (.ref b145)])) _
      refine XS.iload X145.here hx rfl (hb hby at_93) rfl ?_
      show Steps p.tables e below (T145.setTop (mkF m 95 #[.val (.int p1), .val (.int p2), .val (.int p3), .val (.int p4), .val (.int p5), .val (.int p6), .val (.int (1 : Int32)), .val (.int ((p1.toUInt32 >>> ((1 : Int32) &&& 31).toUInt32).toInt32)), .val (.int (((p1.toUInt32 >>> ((1 : Int32) &&& 31).toUInt32).toInt32) &&& (255 : Int32))), .val (.int (255 : Int32)), .val (.int (p2 &&& (255 : Int32))), .val (.int (p3 &&& (255 : Int32))), .val (.int (p4 &&& (255 : Int32))), .val (.int ((p5 &&& (2147483647 : Int32)) % (4 : Int32))), .val (.ref b145), .unset] [(.int p6), (.int (0 : Int32)), (.ref b145)])) _
      refine st146 _ ?_
      show Steps p.tables e below (T146.setTop (mkF m 96 #[.val (.int p1), .val (.int p2), .val (.int p3), .val (.int p4), .val (.int p5), .val (.int p6), .val (.int (1 : Int32)), .val (.int ((p1.toUInt32 >>> ((1 : Int32) &&& 31).toUInt32).toInt32)), .val (.int (((p1.toUInt32 >>> ((1 : Int32) &&& 31).toUInt32).toInt32) &&& (255 : Int32))), .val (.int (255 : Int32)), .val (.int (p2 &&& (255 : Int32))), .val (.int (p3 &&& (255 : Int32))), .val (.int (p4 &&& (255 : Int32))), .val (.int ((p5 &&& (2147483647 : Int32)) % (4 : Int32))), .val (.ref b145), .unset] [])) _
      refine XS.aload X146.here hx rfl (hb hby at_96) rfl rfl ?_
      show Steps p.tables e below (T146.setTop (mkF m 98 #[.val (.int p1), .val (.int p2), .val (.int p3), .val (.int p4), .val (.int p5), .val (.int p6), .val (.int (1 : Int32)), .val (.int ((p1.toUInt32 >>> ((1 : Int32) &&& 31).toUInt32).toInt32)), .val (.int (((p1.toUInt32 >>> ((1 : Int32) &&& 31).toUInt32).toInt32) &&& (255 : Int32))), .val (.int (255 : Int32)), .val (.int (p2 &&& (255 : Int32))), .val (.int (p3 &&& (255 : Int32))), .val (.int (p4 &&& (255 : Int32))), .val (.int ((p5 &&& (2147483647 : Int32)) % (4 : Int32))), .val (.ref b145), .unset] [(.ref b145)])) _
      refine XS.iconst X146.here hx rfl (hb hby at_98) ?_
      show Steps p.tables e below (T146.setTop (mkF m 99 #[.val (.int p1), .val (.int p2), .val (.int p3), .val (.int p4), .val (.int p5), .val (.int p6), .val (.int (1 : Int32)), .val (.int ((p1.toUInt32 >>> ((1 : Int32) &&& 31).toUInt32).toInt32)), .val (.int (((p1.toUInt32 >>> ((1 : Int32) &&& 31).toUInt32).toInt32) &&& (255 : Int32))), .val (.int (255 : Int32)), .val (.int (p2 &&& (255 : Int32))), .val (.int (p3 &&& (255 : Int32))), .val (.int (p4 &&& (255 : Int32))), .val (.int ((p5 &&& (2147483647 : Int32)) % (4 : Int32))), .val (.ref b145), .unset] [(.int (1 : Int32)), (.ref b145)])) _
      refine XS.iload X146.here hx rfl (hb hby at_99) rfl ?_
      show Steps p.tables e below (T146.setTop (mkF m 101 #[.val (.int p1), .val (.int p2), .val (.int p3), .val (.int p4), .val (.int p5), .val (.int p6), .val (.int (1 : Int32)), .val (.int ((p1.toUInt32 >>> ((1 : Int32) &&& 31).toUInt32).toInt32)), .val (.int (((p1.toUInt32 >>> ((1 : Int32) &&& 31).toUInt32).toInt32) &&& (255 : Int32))), .val (.int (255 : Int32)), .val (.int (p2 &&& (255 : Int32))), .val (.int (p3 &&& (255 : Int32))), .val (.int (p4 &&& (255 : Int32))), .val (.int ((p5 &&& (2147483647 : Int32)) % (4 : Int32))), .val (.ref b145), .unset] [(.int p6), (.int (1 : Int32)), (.ref b145)])) _
      refine XS.bipush X146.here hx rfl (hb hby at_101) ?_
      show Steps p.tables e below (T146.setTop (mkF m 103 #[.val (.int p1), .val (.int p2), .val (.int p3), .val (.int p4), .val (.int p5), .val (.int p6), .val (.int (1 : Int32)), .val (.int ((p1.toUInt32 >>> ((1 : Int32) &&& 31).toUInt32).toInt32)), .val (.int (((p1.toUInt32 >>> ((1 : Int32) &&& 31).toUInt32).toInt32) &&& (255 : Int32))), .val (.int (255 : Int32)), .val (.int (p2 &&& (255 : Int32))), .val (.int (p3 &&& (255 : Int32))), .val (.int (p4 &&& (255 : Int32))), .val (.int ((p5 &&& (2147483647 : Int32)) % (4 : Int32))), .val (.ref b145), .unset] [(.int (42 : Int32)), (.int p6), (.int (1 : Int32)), (.ref b145)])) _
      refine XS.ixor X146.here hx rfl (hb hby at_103) rfl ?_
      show Steps p.tables e below (T146.setTop (mkF m 104 #[.val (.int p1), .val (.int p2), .val (.int p3), .val (.int p4), .val (.int p5), .val (.int p6), .val (.int (1 : Int32)), .val (.int ((p1.toUInt32 >>> ((1 : Int32) &&& 31).toUInt32).toInt32)), .val (.int (((p1.toUInt32 >>> ((1 : Int32) &&& 31).toUInt32).toInt32) &&& (255 : Int32))), .val (.int (255 : Int32)), .val (.int (p2 &&& (255 : Int32))), .val (.int (p3 &&& (255 : Int32))), .val (.int (p4 &&& (255 : Int32))), .val (.int ((p5 &&& (2147483647 : Int32)) % (4 : Int32))), .val (.ref b145), .unset] [(.int (p6 ^^^ (42 : Int32))), (.int (1 : Int32)), (.ref b145)])) _
      refine st148 _ ?_
      show Steps p.tables e below (T148.setTop (mkF m 105 #[.val (.int p1), .val (.int p2), .val (.int p3), .val (.int p4), .val (.int p5), .val (.int p6), .val (.int (1 : Int32)), .val (.int ((p1.toUInt32 >>> ((1 : Int32) &&& 31).toUInt32).toInt32)), .val (.int (((p1.toUInt32 >>> ((1 : Int32) &&& 31).toUInt32).toInt32) &&& (255 : Int32))), .val (.int (255 : Int32)), .val (.int (p2 &&& (255 : Int32))), .val (.int (p3 &&& (255 : Int32))), .val (.int (p4 &&& (255 : Int32))), .val (.int ((p5 &&& (2147483647 : Int32)) % (4 : Int32))), .val (.ref b145), .unset] [])) _
      refine XS.aload X148.here hx rfl (hb hby at_105) rfl rfl ?_
      show Steps p.tables e below (T148.setTop (mkF m 107 #[.val (.int p1), .val (.int p2), .val (.int p3), .val (.int p4), .val (.int p5), .val (.int p6), .val (.int (1 : Int32)), .val (.int ((p1.toUInt32 >>> ((1 : Int32) &&& 31).toUInt32).toInt32)), .val (.int (((p1.toUInt32 >>> ((1 : Int32) &&& 31).toUInt32).toInt32) &&& (255 : Int32))), .val (.int (255 : Int32)), .val (.int (p2 &&& (255 : Int32))), .val (.int (p3 &&& (255 : Int32))), .val (.int (p4 &&& (255 : Int32))), .val (.int ((p5 &&& (2147483647 : Int32)) % (4 : Int32))), .val (.ref b145), .unset] [(.ref b145)])) _
      refine XS.iconst X148.here hx rfl (hb hby at_107) ?_
      show Steps p.tables e below (T148.setTop (mkF m 108 #[.val (.int p1), .val (.int p2), .val (.int p3), .val (.int p4), .val (.int p5), .val (.int p6), .val (.int (1 : Int32)), .val (.int ((p1.toUInt32 >>> ((1 : Int32) &&& 31).toUInt32).toInt32)), .val (.int (((p1.toUInt32 >>> ((1 : Int32) &&& 31).toUInt32).toInt32) &&& (255 : Int32))), .val (.int (255 : Int32)), .val (.int (p2 &&& (255 : Int32))), .val (.int (p3 &&& (255 : Int32))), .val (.int (p4 &&& (255 : Int32))), .val (.int ((p5 &&& (2147483647 : Int32)) % (4 : Int32))), .val (.ref b145), .unset] [(.int (2 : Int32)), (.ref b145)])) _
      refine XS.iload X148.here hx rfl (hb hby at_108) rfl ?_
      show Steps p.tables e below (T148.setTop (mkF m 110 #[.val (.int p1), .val (.int p2), .val (.int p3), .val (.int p4), .val (.int p5), .val (.int p6), .val (.int (1 : Int32)), .val (.int ((p1.toUInt32 >>> ((1 : Int32) &&& 31).toUInt32).toInt32)), .val (.int (((p1.toUInt32 >>> ((1 : Int32) &&& 31).toUInt32).toInt32) &&& (255 : Int32))), .val (.int (255 : Int32)), .val (.int (p2 &&& (255 : Int32))), .val (.int (p3 &&& (255 : Int32))), .val (.int (p4 &&& (255 : Int32))), .val (.int ((p5 &&& (2147483647 : Int32)) % (4 : Int32))), .val (.ref b145), .unset] [(.int p6), (.int (2 : Int32)), (.ref b145)])) _
      refine XS.iconst X148.here hx rfl (hb hby at_110) ?_
      show Steps p.tables e below (T148.setTop (mkF m 111 #[.val (.int p1), .val (.int p2), .val (.int p3), .val (.int p4), .val (.int p5), .val (.int p6), .val (.int (1 : Int32)), .val (.int ((p1.toUInt32 >>> ((1 : Int32) &&& 31).toUInt32).toInt32)), .val (.int (((p1.toUInt32 >>> ((1 : Int32) &&& 31).toUInt32).toInt32) &&& (255 : Int32))), .val (.int (255 : Int32)), .val (.int (p2 &&& (255 : Int32))), .val (.int (p3 &&& (255 : Int32))), .val (.int (p4 &&& (255 : Int32))), .val (.int ((p5 &&& (2147483647 : Int32)) % (4 : Int32))), .val (.ref b145), .unset] [(.int (-1 : Int32)), (.int p6), (.int (2 : Int32)), (.ref b145)])) _
      refine XS.ixor X148.here hx rfl (hb hby at_111) rfl ?_
      show Steps p.tables e below (T148.setTop (mkF m 112 #[.val (.int p1), .val (.int p2), .val (.int p3), .val (.int p4), .val (.int p5), .val (.int p6), .val (.int (1 : Int32)), .val (.int ((p1.toUInt32 >>> ((1 : Int32) &&& 31).toUInt32).toInt32)), .val (.int (((p1.toUInt32 >>> ((1 : Int32) &&& 31).toUInt32).toInt32) &&& (255 : Int32))), .val (.int (255 : Int32)), .val (.int (p2 &&& (255 : Int32))), .val (.int (p3 &&& (255 : Int32))), .val (.int (p4 &&& (255 : Int32))), .val (.int ((p5 &&& (2147483647 : Int32)) % (4 : Int32))), .val (.ref b145), .unset] [(.int (p6 ^^^ (-1 : Int32))), (.int (2 : Int32)), (.ref b145)])) _
      refine st149 _ ?_
      show Steps p.tables e below (T149.setTop (mkF m 113 #[.val (.int p1), .val (.int p2), .val (.int p3), .val (.int p4), .val (.int p5), .val (.int p6), .val (.int (1 : Int32)), .val (.int ((p1.toUInt32 >>> ((1 : Int32) &&& 31).toUInt32).toInt32)), .val (.int (((p1.toUInt32 >>> ((1 : Int32) &&& 31).toUInt32).toInt32) &&& (255 : Int32))), .val (.int (255 : Int32)), .val (.int (p2 &&& (255 : Int32))), .val (.int (p3 &&& (255 : Int32))), .val (.int (p4 &&& (255 : Int32))), .val (.int ((p5 &&& (2147483647 : Int32)) % (4 : Int32))), .val (.ref b145), .unset] [])) _
      refine st150 _ ?_
      show Steps p.tables e below (T150.setTop (mkF m 116 #[.val (.int p1), .val (.int p2), .val (.int p3), .val (.int p4), .val (.int p5), .val (.int p6), .val (.int (1 : Int32)), .val (.int ((p1.toUInt32 >>> ((1 : Int32) &&& 31).toUInt32).toInt32)), .val (.int (((p1.toUInt32 >>> ((1 : Int32) &&& 31).toUInt32).toInt32) &&& (255 : Int32))), .val (.int (255 : Int32)), .val (.int (p2 &&& (255 : Int32))), .val (.int (p3 &&& (255 : Int32))), .val (.int (p4 &&& (255 : Int32))), .val (.int ((p5 &&& (2147483647 : Int32)) % (4 : Int32))), .val (.ref b145), .unset] [(.ref b150)])) _
      refine XS.dup X150.here hx rfl (hb hby at_116) rfl rfl ?_
      show Steps p.tables e below (T150.setTop (mkF m 117 #[.val (.int p1), .val (.int p2), .val (.int p3), .val (.int p4), .val (.int p5), .val (.int p6), .val (.int (1 : Int32)), .val (.int ((p1.toUInt32 >>> ((1 : Int32) &&& 31).toUInt32).toInt32)), .val (.int (((p1.toUInt32 >>> ((1 : Int32) &&& 31).toUInt32).toInt32) &&& (255 : Int32))), .val (.int (255 : Int32)), .val (.int (p2 &&& (255 : Int32))), .val (.int (p3 &&& (255 : Int32))), .val (.int (p4 &&& (255 : Int32))), .val (.int ((p5 &&& (2147483647 : Int32)) % (4 : Int32))), .val (.ref b145), .unset] [(.ref b150), (.ref b150)])) _
      refine XS.iconst X150.here hx rfl (hb hby at_117) ?_
      show Steps p.tables e below (T150.setTop (mkF m 118 #[.val (.int p1), .val (.int p2), .val (.int p3), .val (.int p4), .val (.int p5), .val (.int p6), .val (.int (1 : Int32)), .val (.int ((p1.toUInt32 >>> ((1 : Int32) &&& 31).toUInt32).toInt32)), .val (.int (((p1.toUInt32 >>> ((1 : Int32) &&& 31).toUInt32).toInt32) &&& (255 : Int32))), .val (.int (255 : Int32)), .val (.int (p2 &&& (255 : Int32))), .val (.int (p3 &&& (255 : Int32))), .val (.int (p4 &&& (255 : Int32))), .val (.int ((p5 &&& (2147483647 : Int32)) % (4 : Int32))), .val (.ref b145), .unset] [(.int (3 : Int32)), (.ref b150), (.ref b150)])) _
      refine XS.iload X150.here hx rfl (hb hby at_118) rfl ?_
      show Steps p.tables e below (T150.setTop (mkF m 120 #[.val (.int p1), .val (.int p2), .val (.int p3), .val (.int p4), .val (.int p5), .val (.int p6), .val (.int (1 : Int32)), .val (.int ((p1.toUInt32 >>> ((1 : Int32) &&& 31).toUInt32).toInt32)), .val (.int (((p1.toUInt32 >>> ((1 : Int32) &&& 31).toUInt32).toInt32) &&& (255 : Int32))), .val (.int (255 : Int32)), .val (.int (p2 &&& (255 : Int32))), .val (.int (p3 &&& (255 : Int32))), .val (.int (p4 &&& (255 : Int32))), .val (.int ((p5 &&& (2147483647 : Int32)) % (4 : Int32))), .val (.ref b145), .unset] [(.int (((p1.toUInt32 >>> ((1 : Int32) &&& 31).toUInt32).toInt32) &&& (255 : Int32))), (.int (3 : Int32)), (.ref b150), (.ref b150)])) _
      refine st155.trans ?_
      show Steps p.tables e below (T155.setTop (mkF m 123 #[.val (.int p1), .val (.int p2), .val (.int p3), .val (.int p4), .val (.int p5), .val (.int p6), .val (.int (1 : Int32)), .val (.int ((p1.toUInt32 >>> ((1 : Int32) &&& 31).toUInt32).toInt32)), .val (.int (((p1.toUInt32 >>> ((1 : Int32) &&& 31).toUInt32).toInt32) &&& (255 : Int32))), .val (.int (255 : Int32)), .val (.int (p2 &&& (255 : Int32))), .val (.int (p3 &&& (255 : Int32))), .val (.int (p4 &&& (255 : Int32))), .val (.int ((p5 &&& (2147483647 : Int32)) % (4 : Int32))), .val (.ref b145), .unset] [(.ref b150)])) _
      refine XS.astore X155.here hx rfl (hb hby at_123) rfl rfl (l' := #[.val (.int p1), .val (.int p2), .val (.int p3), .val (.int p4), .val (.int p5), .val (.int p6), .val (.int (1 : Int32)), .val (.int ((p1.toUInt32 >>> ((1 : Int32) &&& 31).toUInt32).toInt32)), .val (.int (((p1.toUInt32 >>> ((1 : Int32) &&& 31).toUInt32).toInt32) &&& (255 : Int32))), .val (.int (255 : Int32)), .val (.int (p2 &&& (255 : Int32))), .val (.int (p3 &&& (255 : Int32))), .val (.int (p4 &&& (255 : Int32))), .val (.int ((p5 &&& (2147483647 : Int32)) % (4 : Int32))), .val (.ref b145), .val (.ref b150)]) rfl ?_
      show Steps p.tables e below (T155.setTop (mkF m 125 #[.val (.int p1), .val (.int p2), .val (.int p3), .val (.int p4), .val (.int p5), .val (.int p6), .val (.int (1 : Int32)), .val (.int ((p1.toUInt32 >>> ((1 : Int32) &&& 31).toUInt32).toInt32)), .val (.int (((p1.toUInt32 >>> ((1 : Int32) &&& 31).toUInt32).toInt32) &&& (255 : Int32))), .val (.int (255 : Int32)), .val (.int (p2 &&& (255 : Int32))), .val (.int (p3 &&& (255 : Int32))), .val (.int (p4 &&& (255 : Int32))), .val (.int ((p5 &&& (2147483647 : Int32)) % (4 : Int32))), .val (.ref b145), .val (.ref b150)] [])) _
      refine XS.aload X155.here hx rfl (hb hby at_125) rfl rfl ?_
      show Steps p.tables e below (T155.setTop (mkF m 127 #[.val (.int p1), .val (.int p2), .val (.int p3), .val (.int p4), .val (.int p5), .val (.int p6), .val (.int (1 : Int32)), .val (.int ((p1.toUInt32 >>> ((1 : Int32) &&& 31).toUInt32).toInt32)), .val (.int (((p1.toUInt32 >>> ((1 : Int32) &&& 31).toUInt32).toInt32) &&& (255 : Int32))), .val (.int (255 : Int32)), .val (.int (p2 &&& (255 : Int32))), .val (.int (p3 &&& (255 : Int32))), .val (.int (p4 &&& (255 : Int32))), .val (.int ((p5 &&& (2147483647 : Int32)) % (4 : Int32))), .val (.ref b145), .val (.ref b150)] [(.ref b150)])) _
      refine XS.iconst X155.here hx rfl (hb hby at_127) ?_
      show Steps p.tables e below (T155.setTop (mkF m 128 #[.val (.int p1), .val (.int p2), .val (.int p3), .val (.int p4), .val (.int p5), .val (.int p6), .val (.int (1 : Int32)), .val (.int ((p1.toUInt32 >>> ((1 : Int32) &&& 31).toUInt32).toInt32)), .val (.int (((p1.toUInt32 >>> ((1 : Int32) &&& 31).toUInt32).toInt32) &&& (255 : Int32))), .val (.int (255 : Int32)), .val (.int (p2 &&& (255 : Int32))), .val (.int (p3 &&& (255 : Int32))), .val (.int (p4 &&& (255 : Int32))), .val (.int ((p5 &&& (2147483647 : Int32)) % (4 : Int32))), .val (.ref b145), .val (.ref b150)] [(.int (0 : Int32)), (.ref b150)])) _
      refine XS.iload X155.here hx rfl (hb hby at_128) rfl ?_
      show Steps p.tables e below (T155.setTop (mkF m 130 #[.val (.int p1), .val (.int p2), .val (.int p3), .val (.int p4), .val (.int p5), .val (.int p6), .val (.int (1 : Int32)), .val (.int ((p1.toUInt32 >>> ((1 : Int32) &&& 31).toUInt32).toInt32)), .val (.int (((p1.toUInt32 >>> ((1 : Int32) &&& 31).toUInt32).toInt32) &&& (255 : Int32))), .val (.int (255 : Int32)), .val (.int (p2 &&& (255 : Int32))), .val (.int (p3 &&& (255 : Int32))), .val (.int (p4 &&& (255 : Int32))), .val (.int ((p5 &&& (2147483647 : Int32)) % (4 : Int32))), .val (.ref b145), .val (.ref b150)] [(.int (p2 &&& (255 : Int32))), (.int (0 : Int32)), (.ref b150)])) _
      refine st159.trans ?_
      show Steps p.tables e below (T159.setTop (mkF m 133 #[.val (.int p1), .val (.int p2), .val (.int p3), .val (.int p4), .val (.int p5), .val (.int p6), .val (.int (1 : Int32)), .val (.int ((p1.toUInt32 >>> ((1 : Int32) &&& 31).toUInt32).toInt32)), .val (.int (((p1.toUInt32 >>> ((1 : Int32) &&& 31).toUInt32).toInt32) &&& (255 : Int32))), .val (.int (255 : Int32)), .val (.int (p2 &&& (255 : Int32))), .val (.int (p3 &&& (255 : Int32))), .val (.int (p4 &&& (255 : Int32))), .val (.int ((p5 &&& (2147483647 : Int32)) % (4 : Int32))), .val (.ref b145), .val (.ref b150)] [])) _
      refine XS.aload X159.here hx rfl (hb hby at_133) rfl rfl ?_
      show Steps p.tables e below (T159.setTop (mkF m 135 #[.val (.int p1), .val (.int p2), .val (.int p3), .val (.int p4), .val (.int p5), .val (.int p6), .val (.int (1 : Int32)), .val (.int ((p1.toUInt32 >>> ((1 : Int32) &&& 31).toUInt32).toInt32)), .val (.int (((p1.toUInt32 >>> ((1 : Int32) &&& 31).toUInt32).toInt32) &&& (255 : Int32))), .val (.int (255 : Int32)), .val (.int (p2 &&& (255 : Int32))), .val (.int (p3 &&& (255 : Int32))), .val (.int (p4 &&& (255 : Int32))), .val (.int ((p5 &&& (2147483647 : Int32)) % (4 : Int32))), .val (.ref b145), .val (.ref b150)] [(.ref b150)])) _
      refine XS.iconst X159.here hx rfl (hb hby at_135) ?_
      show Steps p.tables e below (T159.setTop (mkF m 136 #[.val (.int p1), .val (.int p2), .val (.int p3), .val (.int p4), .val (.int p5), .val (.int p6), .val (.int (1 : Int32)), .val (.int ((p1.toUInt32 >>> ((1 : Int32) &&& 31).toUInt32).toInt32)), .val (.int (((p1.toUInt32 >>> ((1 : Int32) &&& 31).toUInt32).toInt32) &&& (255 : Int32))), .val (.int (255 : Int32)), .val (.int (p2 &&& (255 : Int32))), .val (.int (p3 &&& (255 : Int32))), .val (.int (p4 &&& (255 : Int32))), .val (.int ((p5 &&& (2147483647 : Int32)) % (4 : Int32))), .val (.ref b145), .val (.ref b150)] [(.int (1 : Int32)), (.ref b150)])) _
      refine XS.iload X159.here hx rfl (hb hby at_136) rfl ?_
      show Steps p.tables e below (T159.setTop (mkF m 138 #[.val (.int p1), .val (.int p2), .val (.int p3), .val (.int p4), .val (.int p5), .val (.int p6), .val (.int (1 : Int32)), .val (.int ((p1.toUInt32 >>> ((1 : Int32) &&& 31).toUInt32).toInt32)), .val (.int (((p1.toUInt32 >>> ((1 : Int32) &&& 31).toUInt32).toInt32) &&& (255 : Int32))), .val (.int (255 : Int32)), .val (.int (p2 &&& (255 : Int32))), .val (.int (p3 &&& (255 : Int32))), .val (.int (p4 &&& (255 : Int32))), .val (.int ((p5 &&& (2147483647 : Int32)) % (4 : Int32))), .val (.ref b145), .val (.ref b150)] [(.int (p3 &&& (255 : Int32))), (.int (1 : Int32)), (.ref b150)])) _
      refine st165.trans ?_
      show Steps p.tables e below (T165.setTop (mkF m 141 #[.val (.int p1), .val (.int p2), .val (.int p3), .val (.int p4), .val (.int p5), .val (.int p6), .val (.int (1 : Int32)), .val (.int ((p1.toUInt32 >>> ((1 : Int32) &&& 31).toUInt32).toInt32)), .val (.int (((p1.toUInt32 >>> ((1 : Int32) &&& 31).toUInt32).toInt32) &&& (255 : Int32))), .val (.int (255 : Int32)), .val (.int (p2 &&& (255 : Int32))), .val (.int (p3 &&& (255 : Int32))), .val (.int (p4 &&& (255 : Int32))), .val (.int ((p5 &&& (2147483647 : Int32)) % (4 : Int32))), .val (.ref b145), .val (.ref b150)] [])) _
      refine XS.aload X165.here hx rfl (hb hby at_141) rfl rfl ?_
      show Steps p.tables e below (T165.setTop (mkF m 143 #[.val (.int p1), .val (.int p2), .val (.int p3), .val (.int p4), .val (.int p5), .val (.int p6), .val (.int (1 : Int32)), .val (.int ((p1.toUInt32 >>> ((1 : Int32) &&& 31).toUInt32).toInt32)), .val (.int (((p1.toUInt32 >>> ((1 : Int32) &&& 31).toUInt32).toInt32) &&& (255 : Int32))), .val (.int (255 : Int32)), .val (.int (p2 &&& (255 : Int32))), .val (.int (p3 &&& (255 : Int32))), .val (.int (p4 &&& (255 : Int32))), .val (.int ((p5 &&& (2147483647 : Int32)) % (4 : Int32))), .val (.ref b145), .val (.ref b150)] [(.ref b150)])) _
      refine XS.iconst X165.here hx rfl (hb hby at_143) ?_
      show Steps p.tables e below (T165.setTop (mkF m 144 #[.val (.int p1), .val (.int p2), .val (.int p3), .val (.int p4), .val (.int p5), .val (.int p6), .val (.int (1 : Int32)), .val (.int ((p1.toUInt32 >>> ((1 : Int32) &&& 31).toUInt32).toInt32)), .val (.int (((p1.toUInt32 >>> ((1 : Int32) &&& 31).toUInt32).toInt32) &&& (255 : Int32))), .val (.int (255 : Int32)), .val (.int (p2 &&& (255 : Int32))), .val (.int (p3 &&& (255 : Int32))), .val (.int (p4 &&& (255 : Int32))), .val (.int ((p5 &&& (2147483647 : Int32)) % (4 : Int32))), .val (.ref b145), .val (.ref b150)] [(.int (2 : Int32)), (.ref b150)])) _
      refine XS.iload X165.here hx rfl (hb hby at_144) rfl ?_
      show Steps p.tables e below (T165.setTop (mkF m 146 #[.val (.int p1), .val (.int p2), .val (.int p3), .val (.int p4), .val (.int p5), .val (.int p6), .val (.int (1 : Int32)), .val (.int ((p1.toUInt32 >>> ((1 : Int32) &&& 31).toUInt32).toInt32)), .val (.int (((p1.toUInt32 >>> ((1 : Int32) &&& 31).toUInt32).toInt32) &&& (255 : Int32))), .val (.int (255 : Int32)), .val (.int (p2 &&& (255 : Int32))), .val (.int (p3 &&& (255 : Int32))), .val (.int (p4 &&& (255 : Int32))), .val (.int ((p5 &&& (2147483647 : Int32)) % (4 : Int32))), .val (.ref b145), .val (.ref b150)] [(.int (p4 &&& (255 : Int32))), (.int (2 : Int32)), (.ref b150)])) _
      refine st170.trans ?_
      show Steps p.tables e below (T170.setTop (mkF m 149 #[.val (.int p1), .val (.int p2), .val (.int p3), .val (.int p4), .val (.int p5), .val (.int p6), .val (.int (1 : Int32)), .val (.int ((p1.toUInt32 >>> ((1 : Int32) &&& 31).toUInt32).toInt32)), .val (.int (((p1.toUInt32 >>> ((1 : Int32) &&& 31).toUInt32).toInt32) &&& (255 : Int32))), .val (.int (255 : Int32)), .val (.int (p2 &&& (255 : Int32))), .val (.int (p3 &&& (255 : Int32))), .val (.int (p4 &&& (255 : Int32))), .val (.int ((p5 &&& (2147483647 : Int32)) % (4 : Int32))), .val (.ref b145), .val (.ref b150)] [])) _
      refine XS.aload X170.here hx rfl (hb hby at_149) rfl rfl ?_
      show Steps p.tables e below (T170.setTop (mkF m 151 #[.val (.int p1), .val (.int p2), .val (.int p3), .val (.int p4), .val (.int p5), .val (.int p6), .val (.int (1 : Int32)), .val (.int ((p1.toUInt32 >>> ((1 : Int32) &&& 31).toUInt32).toInt32)), .val (.int (((p1.toUInt32 >>> ((1 : Int32) &&& 31).toUInt32).toInt32) &&& (255 : Int32))), .val (.int (255 : Int32)), .val (.int (p2 &&& (255 : Int32))), .val (.int (p3 &&& (255 : Int32))), .val (.int (p4 &&& (255 : Int32))), .val (.int ((p5 &&& (2147483647 : Int32)) % (4 : Int32))), .val (.ref b145), .val (.ref b150)] [(.ref b150)])) _
      refine XS.iload X170.here hx rfl (hb hby at_151) rfl ?_
      show Steps p.tables e below (T170.setTop (mkF m 153 #[.val (.int p1), .val (.int p2), .val (.int p3), .val (.int p4), .val (.int p5), .val (.int p6), .val (.int (1 : Int32)), .val (.int ((p1.toUInt32 >>> ((1 : Int32) &&& 31).toUInt32).toInt32)), .val (.int (((p1.toUInt32 >>> ((1 : Int32) &&& 31).toUInt32).toInt32) &&& (255 : Int32))), .val (.int (255 : Int32)), .val (.int (p2 &&& (255 : Int32))), .val (.int (p3 &&& (255 : Int32))), .val (.int (p4 &&& (255 : Int32))), .val (.int ((p5 &&& (2147483647 : Int32)) % (4 : Int32))), .val (.ref b145), .val (.ref b150)] [(.int ((p5 &&& (2147483647 : Int32)) % (4 : Int32))), (.ref b150)])) _
      refine XS.aload X170.here hx rfl (hb hby at_153) rfl rfl ?_
      show Steps p.tables e below (T170.setTop (mkF m 155 #[.val (.int p1), .val (.int p2), .val (.int p3), .val (.int p4), .val (.int p5), .val (.int p6), .val (.int (1 : Int32)), .val (.int ((p1.toUInt32 >>> ((1 : Int32) &&& 31).toUInt32).toInt32)), .val (.int (((p1.toUInt32 >>> ((1 : Int32) &&& 31).toUInt32).toInt32) &&& (255 : Int32))), .val (.int (255 : Int32)), .val (.int (p2 &&& (255 : Int32))), .val (.int (p3 &&& (255 : Int32))), .val (.int (p4 &&& (255 : Int32))), .val (.int ((p5 &&& (2147483647 : Int32)) % (4 : Int32))), .val (.ref b145), .val (.ref b150)] [(.ref b145), (.int ((p5 &&& (2147483647 : Int32)) % (4 : Int32))), (.ref b150)])) _
      refine st178.trans ?_
      show Steps p.tables e below (T178.setTop (mkF m 158 #[.val (.int p1), .val (.int p2), .val (.int p3), .val (.int p4), .val (.int p5), .val (.int p6), .val (.int (1 : Int32)), .val (.int ((p1.toUInt32 >>> ((1 : Int32) &&& 31).toUInt32).toInt32)), .val (.int (((p1.toUInt32 >>> ((1 : Int32) &&& 31).toUInt32).toInt32) &&& (255 : Int32))), .val (.int (255 : Int32)), .val (.int (p2 &&& (255 : Int32))), .val (.int (p3 &&& (255 : Int32))), .val (.int (p4 &&& (255 : Int32))), .val (.int ((p5 &&& (2147483647 : Int32)) % (4 : Int32))), .val (.ref b145), .val (.ref b150)] [])) _
      refine XS.aload X178.here hx rfl (hb hby at_158) rfl rfl ?_
      show Steps p.tables e below (T178.setTop (mkF m 160 #[.val (.int p1), .val (.int p2), .val (.int p3), .val (.int p4), .val (.int p5), .val (.int p6), .val (.int (1 : Int32)), .val (.int ((p1.toUInt32 >>> ((1 : Int32) &&& 31).toUInt32).toInt32)), .val (.int (((p1.toUInt32 >>> ((1 : Int32) &&& 31).toUInt32).toInt32) &&& (255 : Int32))), .val (.int (255 : Int32)), .val (.int (p2 &&& (255 : Int32))), .val (.int (p3 &&& (255 : Int32))), .val (.int (p4 &&& (255 : Int32))), .val (.int ((p5 &&& (2147483647 : Int32)) % (4 : Int32))), .val (.ref b145), .val (.ref b150)] [(.ref b145)])) _
      refine XS.iconst X178.here hx rfl (hb hby at_160) ?_
      show Steps p.tables e below (T178.setTop (mkF m 161 #[.val (.int p1), .val (.int p2), .val (.int p3), .val (.int p4), .val (.int p5), .val (.int p6), .val (.int (1 : Int32)), .val (.int ((p1.toUInt32 >>> ((1 : Int32) &&& 31).toUInt32).toInt32)), .val (.int (((p1.toUInt32 >>> ((1 : Int32) &&& 31).toUInt32).toInt32) &&& (255 : Int32))), .val (.int (255 : Int32)), .val (.int (p2 &&& (255 : Int32))), .val (.int (p3 &&& (255 : Int32))), .val (.int (p4 &&& (255 : Int32))), .val (.int ((p5 &&& (2147483647 : Int32)) % (4 : Int32))), .val (.ref b145), .val (.ref b150)] [(.int (0 : Int32)), (.ref b145)])) _
      refine X178.iaload hx (j := (0 : Int32)) (v := (.int (own_e p6 (0 : Int32) ((p5 &&& (2147483647 : Int32)) % (4 : Int32)) (nar .byte ((p2 &&& (255 : Int32)).toInt8.toInt32))))) Ar180.1 (State.isArrayOf_alike hZ.alike Ar180.2.1) Ar180.2.2 hin180 (Hh180.at hin180 (rfl)) (g := (mkF m 161 #[.val (.int p1), .val (.int p2), .val (.int p3), .val (.int p4), .val (.int p5), .val (.int p6), .val (.int (1 : Int32)), .val (.int ((p1.toUInt32 >>> ((1 : Int32) &&& 31).toUInt32).toInt32)), .val (.int (((p1.toUInt32 >>> ((1 : Int32) &&& 31).toUInt32).toInt32) &&& (255 : Int32))), .val (.int (255 : Int32)), .val (.int (p2 &&& (255 : Int32))), .val (.int (p3 &&& (255 : Int32))), .val (.int (p4 &&& (255 : Int32))), .val (.int ((p5 &&& (2147483647 : Int32)) % (4 : Int32))), .val (.ref b145), .val (.ref b150)] [(.int (0 : Int32)), (.ref b145)])) rfl rfl (hb hby at_161) _ ?_
      show Steps p.tables e below (T178.setTop (mkF m 162 #[.val (.int p1), .val (.int p2), .val (.int p3), .val (.int p4), .val (.int p5), .val (.int p6), .val (.int (1 : Int32)), .val (.int ((p1.toUInt32 >>> ((1 : Int32) &&& 31).toUInt32).toInt32)), .val (.int (((p1.toUInt32 >>> ((1 : Int32) &&& 31).toUInt32).toInt32) &&& (255 : Int32))), .val (.int (255 : Int32)), .val (.int (p2 &&& (255 : Int32))), .val (.int (p3 &&& (255 : Int32))), .val (.int (p4 &&& (255 : Int32))), .val (.int ((p5 &&& (2147483647 : Int32)) % (4 : Int32))), .val (.ref b145), .val (.ref b150)] [(.int (own_e p6 (0 : Int32) ((p5 &&& (2147483647 : Int32)) % (4 : Int32)) (nar .byte ((p2 &&& (255 : Int32)).toInt8.toInt32))))])) _
      refine XS.iload X178.here hx rfl (hb hby at_162) rfl ?_
      show Steps p.tables e below (T178.setTop (mkF m 164 #[.val (.int p1), .val (.int p2), .val (.int p3), .val (.int p4), .val (.int p5), .val (.int p6), .val (.int (1 : Int32)), .val (.int ((p1.toUInt32 >>> ((1 : Int32) &&& 31).toUInt32).toInt32)), .val (.int (((p1.toUInt32 >>> ((1 : Int32) &&& 31).toUInt32).toInt32) &&& (255 : Int32))), .val (.int (255 : Int32)), .val (.int (p2 &&& (255 : Int32))), .val (.int (p3 &&& (255 : Int32))), .val (.int (p4 &&& (255 : Int32))), .val (.int ((p5 &&& (2147483647 : Int32)) % (4 : Int32))), .val (.ref b145), .val (.ref b150)] [(.int p6), (.int (own_e p6 (0 : Int32) ((p5 &&& (2147483647 : Int32)) % (4 : Int32)) (nar .byte ((p2 &&& (255 : Int32)).toInt8.toInt32))))])) _
      refine XS.iconst X178.here hx rfl (hb hby at_164) ?_
      show Steps p.tables e below (T178.setTop (mkF m 165 #[.val (.int p1), .val (.int p2), .val (.int p3), .val (.int p4), .val (.int p5), .val (.int p6), .val (.int (1 : Int32)), .val (.int ((p1.toUInt32 >>> ((1 : Int32) &&& 31).toUInt32).toInt32)), .val (.int (((p1.toUInt32 >>> ((1 : Int32) &&& 31).toUInt32).toInt32) &&& (255 : Int32))), .val (.int (255 : Int32)), .val (.int (p2 &&& (255 : Int32))), .val (.int (p3 &&& (255 : Int32))), .val (.int (p4 &&& (255 : Int32))), .val (.int ((p5 &&& (2147483647 : Int32)) % (4 : Int32))), .val (.ref b145), .val (.ref b150)] [(.int (0 : Int32)), (.int p6), (.int (own_e p6 (0 : Int32) ((p5 &&& (2147483647 : Int32)) % (4 : Int32)) (nar .byte ((p2 &&& (255 : Int32)).toInt8.toInt32))))])) _
      refine XS.iload X178.here hx rfl (hb hby at_165) rfl ?_
      show Steps p.tables e below (T178.setTop (mkF m 167 #[.val (.int p1), .val (.int p2), .val (.int p3), .val (.int p4), .val (.int p5), .val (.int p6), .val (.int (1 : Int32)), .val (.int ((p1.toUInt32 >>> ((1 : Int32) &&& 31).toUInt32).toInt32)), .val (.int (((p1.toUInt32 >>> ((1 : Int32) &&& 31).toUInt32).toInt32) &&& (255 : Int32))), .val (.int (255 : Int32)), .val (.int (p2 &&& (255 : Int32))), .val (.int (p3 &&& (255 : Int32))), .val (.int (p4 &&& (255 : Int32))), .val (.int ((p5 &&& (2147483647 : Int32)) % (4 : Int32))), .val (.ref b145), .val (.ref b150)] [(.int ((p5 &&& (2147483647 : Int32)) % (4 : Int32))), (.int (0 : Int32)), (.int p6), (.int (own_e p6 (0 : Int32) ((p5 &&& (2147483647 : Int32)) % (4 : Int32)) (nar .byte ((p2 &&& (255 : Int32)).toInt8.toInt32))))])) _
      refine XS.iload X178.here hx rfl (hb hby at_167) rfl ?_
      show Steps p.tables e below (T178.setTop (mkF m 169 #[.val (.int p1), .val (.int p2), .val (.int p3), .val (.int p4), .val (.int p5), .val (.int p6), .val (.int (1 : Int32)), .val (.int ((p1.toUInt32 >>> ((1 : Int32) &&& 31).toUInt32).toInt32)), .val (.int (((p1.toUInt32 >>> ((1 : Int32) &&& 31).toUInt32).toInt32) &&& (255 : Int32))), .val (.int (255 : Int32)), .val (.int (p2 &&& (255 : Int32))), .val (.int (p3 &&& (255 : Int32))), .val (.int (p4 &&& (255 : Int32))), .val (.int ((p5 &&& (2147483647 : Int32)) % (4 : Int32))), .val (.ref b145), .val (.ref b150)] [(.int (p2 &&& (255 : Int32))), (.int ((p5 &&& (2147483647 : Int32)) % (4 : Int32))), (.int (0 : Int32)), (.int p6), (.int (own_e p6 (0 : Int32) ((p5 &&& (2147483647 : Int32)) % (4 : Int32)) (nar .byte ((p2 &&& (255 : Int32)).toInt8.toInt32))))])) _
      refine st181 _ ?_
      show Steps p.tables e below (T181.setTop (mkF m 172 #[.val (.int p1), .val (.int p2), .val (.int p3), .val (.int p4), .val (.int p5), .val (.int p6), .val (.int (1 : Int32)), .val (.int ((p1.toUInt32 >>> ((1 : Int32) &&& 31).toUInt32).toInt32)), .val (.int (((p1.toUInt32 >>> ((1 : Int32) &&& 31).toUInt32).toInt32) &&& (255 : Int32))), .val (.int (255 : Int32)), .val (.int (p2 &&& (255 : Int32))), .val (.int (p3 &&& (255 : Int32))), .val (.int (p4 &&& (255 : Int32))), .val (.int ((p5 &&& (2147483647 : Int32)) % (4 : Int32))), .val (.ref b145), .val (.ref b150)] [(.int (own_x p6 (0 : Int32) ((p5 &&& (2147483647 : Int32)) % (4 : Int32)) (p2 &&& (255 : Int32)))), (.int (own_e p6 (0 : Int32) ((p5 &&& (2147483647 : Int32)) % (4 : Int32)) (nar .byte ((p2 &&& (255 : Int32)).toInt8.toInt32))))])) _
      refine XS.icmpNo X181.here hx rfl (hb hby at_172) rfl (teq (own_ex _ _ _ _ _ (own_bz _) : (own_e p6 (0 : Int32) ((p5 &&& (2147483647 : Int32)) % (4 : Int32)) (nar .byte ((p2 &&& (255 : Int32)).toInt8.toInt32))) = (own_x p6 (0 : Int32) ((p5 &&& (2147483647 : Int32)) % (4 : Int32)) (p2 &&& (255 : Int32))))).2 ?_
      show Steps p.tables e below (T181.setTop (mkF m 175 #[.val (.int p1), .val (.int p2), .val (.int p3), .val (.int p4), .val (.int p5), .val (.int p6), .val (.int (1 : Int32)), .val (.int ((p1.toUInt32 >>> ((1 : Int32) &&& 31).toUInt32).toInt32)), .val (.int (((p1.toUInt32 >>> ((1 : Int32) &&& 31).toUInt32).toInt32) &&& (255 : Int32))), .val (.int (255 : Int32)), .val (.int (p2 &&& (255 : Int32))), .val (.int (p3 &&& (255 : Int32))), .val (.int (p4 &&& (255 : Int32))), .val (.int ((p5 &&& (2147483647 : Int32)) % (4 : Int32))), .val (.ref b145), .val (.ref b150)] [])) _
      refine XS.aload X181.here hx rfl (hb hby at_175) rfl rfl ?_
      show Steps p.tables e below (T181.setTop (mkF m 177 #[.val (.int p1), .val (.int p2), .val (.int p3), .val (.int p4), .val (.int p5), .val (.int p6), .val (.int (1 : Int32)), .val (.int ((p1.toUInt32 >>> ((1 : Int32) &&& 31).toUInt32).toInt32)), .val (.int (((p1.toUInt32 >>> ((1 : Int32) &&& 31).toUInt32).toInt32) &&& (255 : Int32))), .val (.int (255 : Int32)), .val (.int (p2 &&& (255 : Int32))), .val (.int (p3 &&& (255 : Int32))), .val (.int (p4 &&& (255 : Int32))), .val (.int ((p5 &&& (2147483647 : Int32)) % (4 : Int32))), .val (.ref b145), .val (.ref b150)] [(.ref b145)])) _
      refine XS.iconst X181.here hx rfl (hb hby at_177) ?_
      show Steps p.tables e below (T181.setTop (mkF m 178 #[.val (.int p1), .val (.int p2), .val (.int p3), .val (.int p4), .val (.int p5), .val (.int p6), .val (.int (1 : Int32)), .val (.int ((p1.toUInt32 >>> ((1 : Int32) &&& 31).toUInt32).toInt32)), .val (.int (((p1.toUInt32 >>> ((1 : Int32) &&& 31).toUInt32).toInt32) &&& (255 : Int32))), .val (.int (255 : Int32)), .val (.int (p2 &&& (255 : Int32))), .val (.int (p3 &&& (255 : Int32))), .val (.int (p4 &&& (255 : Int32))), .val (.int ((p5 &&& (2147483647 : Int32)) % (4 : Int32))), .val (.ref b145), .val (.ref b150)] [(.int (1 : Int32)), (.ref b145)])) _
      refine X181.iaload hx (j := (1 : Int32)) (v := (.int (own_e (p6 ^^^ (42 : Int32)) (1 : Int32) ((p5 &&& (2147483647 : Int32)) % (4 : Int32)) (nar .byte ((p3 &&& (255 : Int32)).toInt8.toInt32))))) (by rw [Heq181]; exact Ar183.1) (State.isArrayOf_alike hZ.alike Ar183.2.1) Ar183.2.2 hin183 (Hh183.at hin183 (rfl)) (g := (mkF m 178 #[.val (.int p1), .val (.int p2), .val (.int p3), .val (.int p4), .val (.int p5), .val (.int p6), .val (.int (1 : Int32)), .val (.int ((p1.toUInt32 >>> ((1 : Int32) &&& 31).toUInt32).toInt32)), .val (.int (((p1.toUInt32 >>> ((1 : Int32) &&& 31).toUInt32).toInt32) &&& (255 : Int32))), .val (.int (255 : Int32)), .val (.int (p2 &&& (255 : Int32))), .val (.int (p3 &&& (255 : Int32))), .val (.int (p4 &&& (255 : Int32))), .val (.int ((p5 &&& (2147483647 : Int32)) % (4 : Int32))), .val (.ref b145), .val (.ref b150)] [(.int (1 : Int32)), (.ref b145)])) rfl rfl (hb hby at_178) _ ?_
      show Steps p.tables e below (T181.setTop (mkF m 179 #[.val (.int p1), .val (.int p2), .val (.int p3), .val (.int p4), .val (.int p5), .val (.int p6), .val (.int (1 : Int32)), .val (.int ((p1.toUInt32 >>> ((1 : Int32) &&& 31).toUInt32).toInt32)), .val (.int (((p1.toUInt32 >>> ((1 : Int32) &&& 31).toUInt32).toInt32) &&& (255 : Int32))), .val (.int (255 : Int32)), .val (.int (p2 &&& (255 : Int32))), .val (.int (p3 &&& (255 : Int32))), .val (.int (p4 &&& (255 : Int32))), .val (.int ((p5 &&& (2147483647 : Int32)) % (4 : Int32))), .val (.ref b145), .val (.ref b150)] [(.int (own_e (p6 ^^^ (42 : Int32)) (1 : Int32) ((p5 &&& (2147483647 : Int32)) % (4 : Int32)) (nar .byte ((p3 &&& (255 : Int32)).toInt8.toInt32))))])) _
      refine XS.iload X181.here hx rfl (hb hby at_179) rfl ?_
      show Steps p.tables e below (T181.setTop (mkF m 181 #[.val (.int p1), .val (.int p2), .val (.int p3), .val (.int p4), .val (.int p5), .val (.int p6), .val (.int (1 : Int32)), .val (.int ((p1.toUInt32 >>> ((1 : Int32) &&& 31).toUInt32).toInt32)), .val (.int (((p1.toUInt32 >>> ((1 : Int32) &&& 31).toUInt32).toInt32) &&& (255 : Int32))), .val (.int (255 : Int32)), .val (.int (p2 &&& (255 : Int32))), .val (.int (p3 &&& (255 : Int32))), .val (.int (p4 &&& (255 : Int32))), .val (.int ((p5 &&& (2147483647 : Int32)) % (4 : Int32))), .val (.ref b145), .val (.ref b150)] [(.int p6), (.int (own_e (p6 ^^^ (42 : Int32)) (1 : Int32) ((p5 &&& (2147483647 : Int32)) % (4 : Int32)) (nar .byte ((p3 &&& (255 : Int32)).toInt8.toInt32))))])) _
      refine XS.bipush X181.here hx rfl (hb hby at_181) ?_
      show Steps p.tables e below (T181.setTop (mkF m 183 #[.val (.int p1), .val (.int p2), .val (.int p3), .val (.int p4), .val (.int p5), .val (.int p6), .val (.int (1 : Int32)), .val (.int ((p1.toUInt32 >>> ((1 : Int32) &&& 31).toUInt32).toInt32)), .val (.int (((p1.toUInt32 >>> ((1 : Int32) &&& 31).toUInt32).toInt32) &&& (255 : Int32))), .val (.int (255 : Int32)), .val (.int (p2 &&& (255 : Int32))), .val (.int (p3 &&& (255 : Int32))), .val (.int (p4 &&& (255 : Int32))), .val (.int ((p5 &&& (2147483647 : Int32)) % (4 : Int32))), .val (.ref b145), .val (.ref b150)] [(.int (42 : Int32)), (.int p6), (.int (own_e (p6 ^^^ (42 : Int32)) (1 : Int32) ((p5 &&& (2147483647 : Int32)) % (4 : Int32)) (nar .byte ((p3 &&& (255 : Int32)).toInt8.toInt32))))])) _
      refine XS.ixor X181.here hx rfl (hb hby at_183) rfl ?_
      show Steps p.tables e below (T181.setTop (mkF m 184 #[.val (.int p1), .val (.int p2), .val (.int p3), .val (.int p4), .val (.int p5), .val (.int p6), .val (.int (1 : Int32)), .val (.int ((p1.toUInt32 >>> ((1 : Int32) &&& 31).toUInt32).toInt32)), .val (.int (((p1.toUInt32 >>> ((1 : Int32) &&& 31).toUInt32).toInt32) &&& (255 : Int32))), .val (.int (255 : Int32)), .val (.int (p2 &&& (255 : Int32))), .val (.int (p3 &&& (255 : Int32))), .val (.int (p4 &&& (255 : Int32))), .val (.int ((p5 &&& (2147483647 : Int32)) % (4 : Int32))), .val (.ref b145), .val (.ref b150)] [(.int (p6 ^^^ (42 : Int32))), (.int (own_e (p6 ^^^ (42 : Int32)) (1 : Int32) ((p5 &&& (2147483647 : Int32)) % (4 : Int32)) (nar .byte ((p3 &&& (255 : Int32)).toInt8.toInt32))))])) _
      refine XS.iconst X181.here hx rfl (hb hby at_184) ?_
      show Steps p.tables e below (T181.setTop (mkF m 185 #[.val (.int p1), .val (.int p2), .val (.int p3), .val (.int p4), .val (.int p5), .val (.int p6), .val (.int (1 : Int32)), .val (.int ((p1.toUInt32 >>> ((1 : Int32) &&& 31).toUInt32).toInt32)), .val (.int (((p1.toUInt32 >>> ((1 : Int32) &&& 31).toUInt32).toInt32) &&& (255 : Int32))), .val (.int (255 : Int32)), .val (.int (p2 &&& (255 : Int32))), .val (.int (p3 &&& (255 : Int32))), .val (.int (p4 &&& (255 : Int32))), .val (.int ((p5 &&& (2147483647 : Int32)) % (4 : Int32))), .val (.ref b145), .val (.ref b150)] [(.int (1 : Int32)), (.int (p6 ^^^ (42 : Int32))), (.int (own_e (p6 ^^^ (42 : Int32)) (1 : Int32) ((p5 &&& (2147483647 : Int32)) % (4 : Int32)) (nar .byte ((p3 &&& (255 : Int32)).toInt8.toInt32))))])) _
      refine XS.iload X181.here hx rfl (hb hby at_185) rfl ?_
      show Steps p.tables e below (T181.setTop (mkF m 187 #[.val (.int p1), .val (.int p2), .val (.int p3), .val (.int p4), .val (.int p5), .val (.int p6), .val (.int (1 : Int32)), .val (.int ((p1.toUInt32 >>> ((1 : Int32) &&& 31).toUInt32).toInt32)), .val (.int (((p1.toUInt32 >>> ((1 : Int32) &&& 31).toUInt32).toInt32) &&& (255 : Int32))), .val (.int (255 : Int32)), .val (.int (p2 &&& (255 : Int32))), .val (.int (p3 &&& (255 : Int32))), .val (.int (p4 &&& (255 : Int32))), .val (.int ((p5 &&& (2147483647 : Int32)) % (4 : Int32))), .val (.ref b145), .val (.ref b150)] [(.int ((p5 &&& (2147483647 : Int32)) % (4 : Int32))), (.int (1 : Int32)), (.int (p6 ^^^ (42 : Int32))), (.int (own_e (p6 ^^^ (42 : Int32)) (1 : Int32) ((p5 &&& (2147483647 : Int32)) % (4 : Int32)) (nar .byte ((p3 &&& (255 : Int32)).toInt8.toInt32))))])) _
      refine XS.iload X181.here hx rfl (hb hby at_187) rfl ?_
      show Steps p.tables e below (T181.setTop (mkF m 189 #[.val (.int p1), .val (.int p2), .val (.int p3), .val (.int p4), .val (.int p5), .val (.int p6), .val (.int (1 : Int32)), .val (.int ((p1.toUInt32 >>> ((1 : Int32) &&& 31).toUInt32).toInt32)), .val (.int (((p1.toUInt32 >>> ((1 : Int32) &&& 31).toUInt32).toInt32) &&& (255 : Int32))), .val (.int (255 : Int32)), .val (.int (p2 &&& (255 : Int32))), .val (.int (p3 &&& (255 : Int32))), .val (.int (p4 &&& (255 : Int32))), .val (.int ((p5 &&& (2147483647 : Int32)) % (4 : Int32))), .val (.ref b145), .val (.ref b150)] [(.int (p3 &&& (255 : Int32))), (.int ((p5 &&& (2147483647 : Int32)) % (4 : Int32))), (.int (1 : Int32)), (.int (p6 ^^^ (42 : Int32))), (.int (own_e (p6 ^^^ (42 : Int32)) (1 : Int32) ((p5 &&& (2147483647 : Int32)) % (4 : Int32)) (nar .byte ((p3 &&& (255 : Int32)).toInt8.toInt32))))])) _
      refine st184 _ ?_
      show Steps p.tables e below (T184.setTop (mkF m 192 #[.val (.int p1), .val (.int p2), .val (.int p3), .val (.int p4), .val (.int p5), .val (.int p6), .val (.int (1 : Int32)), .val (.int ((p1.toUInt32 >>> ((1 : Int32) &&& 31).toUInt32).toInt32)), .val (.int (((p1.toUInt32 >>> ((1 : Int32) &&& 31).toUInt32).toInt32) &&& (255 : Int32))), .val (.int (255 : Int32)), .val (.int (p2 &&& (255 : Int32))), .val (.int (p3 &&& (255 : Int32))), .val (.int (p4 &&& (255 : Int32))), .val (.int ((p5 &&& (2147483647 : Int32)) % (4 : Int32))), .val (.ref b145), .val (.ref b150)] [(.int (own_x (p6 ^^^ (42 : Int32)) (1 : Int32) ((p5 &&& (2147483647 : Int32)) % (4 : Int32)) (p3 &&& (255 : Int32)))), (.int (own_e (p6 ^^^ (42 : Int32)) (1 : Int32) ((p5 &&& (2147483647 : Int32)) % (4 : Int32)) (nar .byte ((p3 &&& (255 : Int32)).toInt8.toInt32))))])) _
      refine XS.icmpNo X184.here hx rfl (hb hby at_192) rfl (teq (own_ex _ _ _ _ _ (own_bz _) : (own_e (p6 ^^^ (42 : Int32)) (1 : Int32) ((p5 &&& (2147483647 : Int32)) % (4 : Int32)) (nar .byte ((p3 &&& (255 : Int32)).toInt8.toInt32))) = (own_x (p6 ^^^ (42 : Int32)) (1 : Int32) ((p5 &&& (2147483647 : Int32)) % (4 : Int32)) (p3 &&& (255 : Int32))))).2 ?_
      show Steps p.tables e below (T184.setTop (mkF m 195 #[.val (.int p1), .val (.int p2), .val (.int p3), .val (.int p4), .val (.int p5), .val (.int p6), .val (.int (1 : Int32)), .val (.int ((p1.toUInt32 >>> ((1 : Int32) &&& 31).toUInt32).toInt32)), .val (.int (((p1.toUInt32 >>> ((1 : Int32) &&& 31).toUInt32).toInt32) &&& (255 : Int32))), .val (.int (255 : Int32)), .val (.int (p2 &&& (255 : Int32))), .val (.int (p3 &&& (255 : Int32))), .val (.int (p4 &&& (255 : Int32))), .val (.int ((p5 &&& (2147483647 : Int32)) % (4 : Int32))), .val (.ref b145), .val (.ref b150)] [])) _
      refine XS.aload X184.here hx rfl (hb hby at_195) rfl rfl ?_
      show Steps p.tables e below (T184.setTop (mkF m 197 #[.val (.int p1), .val (.int p2), .val (.int p3), .val (.int p4), .val (.int p5), .val (.int p6), .val (.int (1 : Int32)), .val (.int ((p1.toUInt32 >>> ((1 : Int32) &&& 31).toUInt32).toInt32)), .val (.int (((p1.toUInt32 >>> ((1 : Int32) &&& 31).toUInt32).toInt32) &&& (255 : Int32))), .val (.int (255 : Int32)), .val (.int (p2 &&& (255 : Int32))), .val (.int (p3 &&& (255 : Int32))), .val (.int (p4 &&& (255 : Int32))), .val (.int ((p5 &&& (2147483647 : Int32)) % (4 : Int32))), .val (.ref b145), .val (.ref b150)] [(.ref b145)])) _
      refine XS.iconst X184.here hx rfl (hb hby at_197) ?_
      show Steps p.tables e below (T184.setTop (mkF m 198 #[.val (.int p1), .val (.int p2), .val (.int p3), .val (.int p4), .val (.int p5), .val (.int p6), .val (.int (1 : Int32)), .val (.int ((p1.toUInt32 >>> ((1 : Int32) &&& 31).toUInt32).toInt32)), .val (.int (((p1.toUInt32 >>> ((1 : Int32) &&& 31).toUInt32).toInt32) &&& (255 : Int32))), .val (.int (255 : Int32)), .val (.int (p2 &&& (255 : Int32))), .val (.int (p3 &&& (255 : Int32))), .val (.int (p4 &&& (255 : Int32))), .val (.int ((p5 &&& (2147483647 : Int32)) % (4 : Int32))), .val (.ref b145), .val (.ref b150)] [(.int (2 : Int32)), (.ref b145)])) _
      refine X184.iaload hx (j := (2 : Int32)) (v := (.int (own_e (p6 ^^^ (-1 : Int32)) (2 : Int32) ((p5 &&& (2147483647 : Int32)) % (4 : Int32)) (nar .byte ((p4 &&& (255 : Int32)).toInt8.toInt32))))) (by rw [Heq184]; exact Ar185.1) (State.isArrayOf_alike hZ.alike Ar185.2.1) Ar185.2.2 hin185 (Hh185.at hin185 (rfl)) (g := (mkF m 198 #[.val (.int p1), .val (.int p2), .val (.int p3), .val (.int p4), .val (.int p5), .val (.int p6), .val (.int (1 : Int32)), .val (.int ((p1.toUInt32 >>> ((1 : Int32) &&& 31).toUInt32).toInt32)), .val (.int (((p1.toUInt32 >>> ((1 : Int32) &&& 31).toUInt32).toInt32) &&& (255 : Int32))), .val (.int (255 : Int32)), .val (.int (p2 &&& (255 : Int32))), .val (.int (p3 &&& (255 : Int32))), .val (.int (p4 &&& (255 : Int32))), .val (.int ((p5 &&& (2147483647 : Int32)) % (4 : Int32))), .val (.ref b145), .val (.ref b150)] [(.int (2 : Int32)), (.ref b145)])) rfl rfl (hb hby at_198) _ ?_
      show Steps p.tables e below (T184.setTop (mkF m 199 #[.val (.int p1), .val (.int p2), .val (.int p3), .val (.int p4), .val (.int p5), .val (.int p6), .val (.int (1 : Int32)), .val (.int ((p1.toUInt32 >>> ((1 : Int32) &&& 31).toUInt32).toInt32)), .val (.int (((p1.toUInt32 >>> ((1 : Int32) &&& 31).toUInt32).toInt32) &&& (255 : Int32))), .val (.int (255 : Int32)), .val (.int (p2 &&& (255 : Int32))), .val (.int (p3 &&& (255 : Int32))), .val (.int (p4 &&& (255 : Int32))), .val (.int ((p5 &&& (2147483647 : Int32)) % (4 : Int32))), .val (.ref b145), .val (.ref b150)] [(.int (own_e (p6 ^^^ (-1 : Int32)) (2 : Int32) ((p5 &&& (2147483647 : Int32)) % (4 : Int32)) (nar .byte ((p4 &&& (255 : Int32)).toInt8.toInt32))))])) _
      refine XS.iload X184.here hx rfl (hb hby at_199) rfl ?_
      show Steps p.tables e below (T184.setTop (mkF m 201 #[.val (.int p1), .val (.int p2), .val (.int p3), .val (.int p4), .val (.int p5), .val (.int p6), .val (.int (1 : Int32)), .val (.int ((p1.toUInt32 >>> ((1 : Int32) &&& 31).toUInt32).toInt32)), .val (.int (((p1.toUInt32 >>> ((1 : Int32) &&& 31).toUInt32).toInt32) &&& (255 : Int32))), .val (.int (255 : Int32)), .val (.int (p2 &&& (255 : Int32))), .val (.int (p3 &&& (255 : Int32))), .val (.int (p4 &&& (255 : Int32))), .val (.int ((p5 &&& (2147483647 : Int32)) % (4 : Int32))), .val (.ref b145), .val (.ref b150)] [(.int p6), (.int (own_e (p6 ^^^ (-1 : Int32)) (2 : Int32) ((p5 &&& (2147483647 : Int32)) % (4 : Int32)) (nar .byte ((p4 &&& (255 : Int32)).toInt8.toInt32))))])) _
      refine XS.iconst X184.here hx rfl (hb hby at_201) ?_
      show Steps p.tables e below (T184.setTop (mkF m 202 #[.val (.int p1), .val (.int p2), .val (.int p3), .val (.int p4), .val (.int p5), .val (.int p6), .val (.int (1 : Int32)), .val (.int ((p1.toUInt32 >>> ((1 : Int32) &&& 31).toUInt32).toInt32)), .val (.int (((p1.toUInt32 >>> ((1 : Int32) &&& 31).toUInt32).toInt32) &&& (255 : Int32))), .val (.int (255 : Int32)), .val (.int (p2 &&& (255 : Int32))), .val (.int (p3 &&& (255 : Int32))), .val (.int (p4 &&& (255 : Int32))), .val (.int ((p5 &&& (2147483647 : Int32)) % (4 : Int32))), .val (.ref b145), .val (.ref b150)] [(.int (-1 : Int32)), (.int p6), (.int (own_e (p6 ^^^ (-1 : Int32)) (2 : Int32) ((p5 &&& (2147483647 : Int32)) % (4 : Int32)) (nar .byte ((p4 &&& (255 : Int32)).toInt8.toInt32))))])) _
      refine XS.ixor X184.here hx rfl (hb hby at_202) rfl ?_
      show Steps p.tables e below (T184.setTop (mkF m 203 #[.val (.int p1), .val (.int p2), .val (.int p3), .val (.int p4), .val (.int p5), .val (.int p6), .val (.int (1 : Int32)), .val (.int ((p1.toUInt32 >>> ((1 : Int32) &&& 31).toUInt32).toInt32)), .val (.int (((p1.toUInt32 >>> ((1 : Int32) &&& 31).toUInt32).toInt32) &&& (255 : Int32))), .val (.int (255 : Int32)), .val (.int (p2 &&& (255 : Int32))), .val (.int (p3 &&& (255 : Int32))), .val (.int (p4 &&& (255 : Int32))), .val (.int ((p5 &&& (2147483647 : Int32)) % (4 : Int32))), .val (.ref b145), .val (.ref b150)] [(.int (p6 ^^^ (-1 : Int32))), (.int (own_e (p6 ^^^ (-1 : Int32)) (2 : Int32) ((p5 &&& (2147483647 : Int32)) % (4 : Int32)) (nar .byte ((p4 &&& (255 : Int32)).toInt8.toInt32))))])) _
      refine XS.iconst X184.here hx rfl (hb hby at_203) ?_
      show Steps p.tables e below (T184.setTop (mkF m 204 #[.val (.int p1), .val (.int p2), .val (.int p3), .val (.int p4), .val (.int p5), .val (.int p6), .val (.int (1 : Int32)), .val (.int ((p1.toUInt32 >>> ((1 : Int32) &&& 31).toUInt32).toInt32)), .val (.int (((p1.toUInt32 >>> ((1 : Int32) &&& 31).toUInt32).toInt32) &&& (255 : Int32))), .val (.int (255 : Int32)), .val (.int (p2 &&& (255 : Int32))), .val (.int (p3 &&& (255 : Int32))), .val (.int (p4 &&& (255 : Int32))), .val (.int ((p5 &&& (2147483647 : Int32)) % (4 : Int32))), .val (.ref b145), .val (.ref b150)] [(.int (2 : Int32)), (.int (p6 ^^^ (-1 : Int32))), (.int (own_e (p6 ^^^ (-1 : Int32)) (2 : Int32) ((p5 &&& (2147483647 : Int32)) % (4 : Int32)) (nar .byte ((p4 &&& (255 : Int32)).toInt8.toInt32))))])) _
      refine XS.iload X184.here hx rfl (hb hby at_204) rfl ?_
      show Steps p.tables e below (T184.setTop (mkF m 206 #[.val (.int p1), .val (.int p2), .val (.int p3), .val (.int p4), .val (.int p5), .val (.int p6), .val (.int (1 : Int32)), .val (.int ((p1.toUInt32 >>> ((1 : Int32) &&& 31).toUInt32).toInt32)), .val (.int (((p1.toUInt32 >>> ((1 : Int32) &&& 31).toUInt32).toInt32) &&& (255 : Int32))), .val (.int (255 : Int32)), .val (.int (p2 &&& (255 : Int32))), .val (.int (p3 &&& (255 : Int32))), .val (.int (p4 &&& (255 : Int32))), .val (.int ((p5 &&& (2147483647 : Int32)) % (4 : Int32))), .val (.ref b145), .val (.ref b150)] [(.int ((p5 &&& (2147483647 : Int32)) % (4 : Int32))), (.int (2 : Int32)), (.int (p6 ^^^ (-1 : Int32))), (.int (own_e (p6 ^^^ (-1 : Int32)) (2 : Int32) ((p5 &&& (2147483647 : Int32)) % (4 : Int32)) (nar .byte ((p4 &&& (255 : Int32)).toInt8.toInt32))))])) _
      refine XS.iload X184.here hx rfl (hb hby at_206) rfl ?_
      show Steps p.tables e below (T184.setTop (mkF m 208 #[.val (.int p1), .val (.int p2), .val (.int p3), .val (.int p4), .val (.int p5), .val (.int p6), .val (.int (1 : Int32)), .val (.int ((p1.toUInt32 >>> ((1 : Int32) &&& 31).toUInt32).toInt32)), .val (.int (((p1.toUInt32 >>> ((1 : Int32) &&& 31).toUInt32).toInt32) &&& (255 : Int32))), .val (.int (255 : Int32)), .val (.int (p2 &&& (255 : Int32))), .val (.int (p3 &&& (255 : Int32))), .val (.int (p4 &&& (255 : Int32))), .val (.int ((p5 &&& (2147483647 : Int32)) % (4 : Int32))), .val (.ref b145), .val (.ref b150)] [(.int (p4 &&& (255 : Int32))), (.int ((p5 &&& (2147483647 : Int32)) % (4 : Int32))), (.int (2 : Int32)), (.int (p6 ^^^ (-1 : Int32))), (.int (own_e (p6 ^^^ (-1 : Int32)) (2 : Int32) ((p5 &&& (2147483647 : Int32)) % (4 : Int32)) (nar .byte ((p4 &&& (255 : Int32)).toInt8.toInt32))))])) _
      refine st186 _ ?_
      show Steps p.tables e below (T186.setTop (mkF m 211 #[.val (.int p1), .val (.int p2), .val (.int p3), .val (.int p4), .val (.int p5), .val (.int p6), .val (.int (1 : Int32)), .val (.int ((p1.toUInt32 >>> ((1 : Int32) &&& 31).toUInt32).toInt32)), .val (.int (((p1.toUInt32 >>> ((1 : Int32) &&& 31).toUInt32).toInt32) &&& (255 : Int32))), .val (.int (255 : Int32)), .val (.int (p2 &&& (255 : Int32))), .val (.int (p3 &&& (255 : Int32))), .val (.int (p4 &&& (255 : Int32))), .val (.int ((p5 &&& (2147483647 : Int32)) % (4 : Int32))), .val (.ref b145), .val (.ref b150)] [(.int (own_x (p6 ^^^ (-1 : Int32)) (2 : Int32) ((p5 &&& (2147483647 : Int32)) % (4 : Int32)) (p4 &&& (255 : Int32)))), (.int (own_e (p6 ^^^ (-1 : Int32)) (2 : Int32) ((p5 &&& (2147483647 : Int32)) % (4 : Int32)) (nar .byte ((p4 &&& (255 : Int32)).toInt8.toInt32))))])) _
      refine XS.icmpNo X186.here hx rfl (hb hby at_211) rfl (teq (own_ex _ _ _ _ _ (own_bz _) : (own_e (p6 ^^^ (-1 : Int32)) (2 : Int32) ((p5 &&& (2147483647 : Int32)) % (4 : Int32)) (nar .byte ((p4 &&& (255 : Int32)).toInt8.toInt32))) = (own_x (p6 ^^^ (-1 : Int32)) (2 : Int32) ((p5 &&& (2147483647 : Int32)) % (4 : Int32)) (p4 &&& (255 : Int32))))).2 ?_
      show Steps p.tables e below (T186.setTop (mkF m 214 #[.val (.int p1), .val (.int p2), .val (.int p3), .val (.int p4), .val (.int p5), .val (.int p6), .val (.int (1 : Int32)), .val (.int ((p1.toUInt32 >>> ((1 : Int32) &&& 31).toUInt32).toInt32)), .val (.int (((p1.toUInt32 >>> ((1 : Int32) &&& 31).toUInt32).toInt32) &&& (255 : Int32))), .val (.int (255 : Int32)), .val (.int (p2 &&& (255 : Int32))), .val (.int (p3 &&& (255 : Int32))), .val (.int (p4 &&& (255 : Int32))), .val (.int ((p5 &&& (2147483647 : Int32)) % (4 : Int32))), .val (.ref b145), .val (.ref b150)] [])) _
      refine XS.iconst X186.here hx rfl (hb hby at_214) ?_
      show Steps p.tables e below (T186.setTop (mkF m 215 #[.val (.int p1), .val (.int p2), .val (.int p3), .val (.int p4), .val (.int p5), .val (.int p6), .val (.int (1 : Int32)), .val (.int ((p1.toUInt32 >>> ((1 : Int32) &&& 31).toUInt32).toInt32)), .val (.int (((p1.toUInt32 >>> ((1 : Int32) &&& 31).toUInt32).toInt32) &&& (255 : Int32))), .val (.int (255 : Int32)), .val (.int (p2 &&& (255 : Int32))), .val (.int (p3 &&& (255 : Int32))), .val (.int (p4 &&& (255 : Int32))), .val (.int ((p5 &&& (2147483647 : Int32)) % (4 : Int32))), .val (.ref b145), .val (.ref b150)] [(.int (1 : Int32))])) _
      refine XS.goto X186.here hx rfl (pc0 := 215) (pc' := 219) rfl (hb hby at_215) (by decide) (by decide) ?_
      show Steps p.tables e below (T186.setTop (mkF m 219 #[.val (.int p1), .val (.int p2), .val (.int p3), .val (.int p4), .val (.int p5), .val (.int p6), .val (.int (1 : Int32)), .val (.int ((p1.toUInt32 >>> ((1 : Int32) &&& 31).toUInt32).toInt32)), .val (.int (((p1.toUInt32 >>> ((1 : Int32) &&& 31).toUInt32).toInt32) &&& (255 : Int32))), .val (.int (255 : Int32)), .val (.int (p2 &&& (255 : Int32))), .val (.int (p3 &&& (255 : Int32))), .val (.int (p4 &&& (255 : Int32))), .val (.int ((p5 &&& (2147483647 : Int32)) % (4 : Int32))), .val (.ref b145), .val (.ref b150)] [(.int (1 : Int32))])) _
      exact retN X186 hx (t := .boolean) Bd.returns (by simp) (hb hby at_219) hr
    · show Q0 Z p1 p2 p3 p4 p5 p6 h0 n0 _ T186.heap _
      rw [Heq186]
      exact ⟨rfl, N186⟩
set_option maxRecDepth 65536 in
set_option maxHeartbeats 40000000 in
theorem comes_1 {Post : Tables → Env → Array Value → State → Outcome → State → Prop} (hpost : ∀ tb e args s v u, (limb_1_1.after args s (.returned v) u = true ∧ limb_1_2.after args s (.returned v) u = true ∧ True) → FrameEnd s (.returned v) u (Jvm.fieldLocs frame_1_writes args s ++ Jvm.arrayLocs frame_1_arrays args s ++ Jvm.staticLocs frame_1_statics s) 16 128 → Post tb e args s (.returned v) u) :
    ArmFor flags0 classFile x code maxLocals ret World_1 tables_1 room_1 Calls_1 rest_1 Pre_1 Post := by
  intro l hfl _ _ p e ha hc hk s m args below hf hA hF happ hP
  obtain ⟨hcalls, hrest, hpre⟩ := hP
  obtain ⟨-, -, -, hnamed, -, -, -, hat⟩ := (Spec.applies_iff hf).mp happ
  obtain ⟨hg, hn⟩ := and_e (Cond.before_iff.mp (show (Jvm.Cond.and given_1 narrow_1).before args s = true from hpre))
  obtain ⟨gc, ga0⟩ := and_e hg
  obtain ⟨gv0, ga1⟩ := and_e ga0
  obtain ⟨gv1, ga2⟩ := and_e ga1
  obtain ⟨gv2, ga3⟩ := and_e ga2
  obtain ⟨gv3, ga4⟩ := and_e ga3
  obtain ⟨gv4, ga5⟩ := and_e ga4
  obtain ⟨w0, w1, w2, w3, w4, w5, rfl⟩ : ∃ w0 w1 w2 w3 w4 w5 : Value, args = #[w0, w1, w2, w3, w4, w5] := by
    have hs : args.size = 6 := by simpa [Cond.value, given_1] using gc
    obtain ⟨L⟩ := args
    match L, hs with
    | [w0, w1, w2, w3, w4, w5], _ => exact ⟨w0, w1, w2, w3, w4, w5, rfl⟩
  have hw := fun d (hd : d ∈ tables_1) => atoms_spec (ws := Jvm.Cond.code x code maxLocals ret :: tables_1) hat d (List.mem_cons_of_mem _ hd)
  have hfit : Fit s := fun {y c} hc i hi => by
    obtain ⟨ha, rfl⟩ := Array.getElem?_eq_some_iff.mp hc
    have q := List.all_eq_true.mp ((Array.all_eq_true_iff_forall_mem.mp hF) _ (Array.getElem_mem ha)) i (List.mem_range.mpr hi)
    simpa [Array.getElem?_eq_getElem hi] using q
  obtain ⟨i0, ei0⟩ := is_v gv0
  obtain rfl : w0 = (.int i0) := Option.some.inj ei0
  obtain ⟨i1, ei1⟩ := is_v gv1
  obtain rfl : w1 = (.int i1) := Option.some.inj ei1
  obtain ⟨i2, ei2⟩ := is_v gv2
  obtain rfl : w2 = (.int i2) := Option.some.inj ei2
  obtain ⟨i3, ei3⟩ := is_v gv3
  obtain rfl : w3 = (.int i3) := Option.some.inj ei3
  obtain ⟨i4, ei4⟩ := is_v gv4
  obtain rfl : w4 = (.int i4) := Option.some.inj ei4
  obtain ⟨i5, ei5⟩ := is_v ga5
  obtain rfl : w5 = (.int i5) := Option.some.inj ei5
  obtain ⟨n, o, h1, h2, h3, _, L, rfl, ⟨rfl, N⟩, hq⟩ := rm0 l s _ hw tables_1 i0 i1 i2 i3 i4 i5 s.heap s.heap.size (Nat.le_refl _)  p e ha hc hk s m _ below hf ((Spec.applies_iff_loose hf).mp happ).1 ⟨rfl, State.Warmed39.refl s, rfl⟩ trivial
  refine ⟨n, _, h1, h2, h3, hpost _ _ _ _ _ _ ⟨Cond.after_iff.mpr rfl, Cond.after_iff.mpr (eq_i res_at (Term.int_eval (1)) rfl), trivial⟩ ⟨hq.1, hq.2.1, (hq.2.2.sift fun y hy => Or.inr (N y hy)).mono (by decide) (by decide)⟩⟩
theorem main_1_1 : Claimed_1_1 := comes_1 fun _ _ _ _ _ _ h hF => ⟨h.1, hF⟩
theorem main_1_2 : Claimed_1_2 := comes_1 fun _ _ _ _ _ _ h hF => ⟨h.2.1, hF⟩
end Jvm.Pilot.@@N@@
namespace Jvm.Pilot.@@N@@
open Jvm Jvm.ClassFile Sem Op Lib Jvm.Free Jvm.Stand Jvm.Pilot.@@N@@.Jvm.D
/-! MADE BY PROGRAM (witnessworld.py) out of the Statement's table words and the real class files: 11 classes; the members and pool entries that the words name. The judged class is class 1, her method 1. -/
namespace start1
open Jvm.ClassFile
def u (s : String) : CpInfo := .utf8 (stringToUtf16 s)
/-- a pool by its gaps: so many unusable entries, then the entry; so many at the end -/
def gap : Nat → List CpInfo → List CpInfo
  | 0, r => r
  | n + 1, r => .unusable :: gap n r
def poolList (es : List (Nat × CpInfo)) (last : Nat) : List CpInfo := es.foldr (fun e r => gap e.1 (e.2 :: r)) (gap last [])
def pool (es : List (Nat × CpInfo)) (last : Nat) : Array CpInfo := ⟨poolList es last⟩
def fileOf (pool : Array CpInfo) (this : Nat) (attrs : Array Attribute := #[]) (ms : Array MethodInfo := #[]) (fl : Nat := 33) (sup : Nat := 0) (ifs : Array Nat := #[]) (fds : Array FieldInfo := #[]) : ClassFile where
  minorVersion := 0
  majorVersion := 65
  constantPool := pool
  accessFlags := fl
  thisClass := this
  superClass := sup
  interfaces := ifs
  fields := fds
  methods := ms
  attributes := attrs
def plain (name : String) (sup : Option ClassId) : Class where
  name := name
  kind := .ordinary
  loader := none
  accessFlags := 33
  super := sup
  interfaces := #[]
  cf := none
  fields := #[]
  methods := #[]
  instanceTypes := #[]
  staticTypes := #[]
  resolved := #[]
  callSites := []
  init := .initialized
  statics := none
  mirror := none

def pool0 : Array CpInfo := pool [(5, u "<init>"), (0, u "()V"), (1, .class_ 10), (1, u "java/lang/Object")] 113

def k0c0 : Code := { maxStack := 0, maxLocals := 1, code := object_method_1_code, exceptionTable := #[], attributes := #[] }
def k0m0 : Method := { name := "<init>", desc := "()V", sig := { parameters := [], returnType := none }, accessFlags := 1, code := some k0c0 }
/-- java/lang/Object -/
def k0 : Class := { plain "java/lang/Object" none with
  accessFlags := 33
  interfaces := #[]
  cf := some (fileOf pool0 8 #[] #[{ accessFlags := 1, nameIndex := 5, descriptorIndex := 6, attributes := #[] }] 33 0 #[] #[])
  fields := #[]
  methods := #[k0m0]
  instanceTypes := #[]
  staticTypes := #[]
  resolved := Array.replicate 124 none
  statics := none }

def pool1 : Array CpInfo := pool [(2, .class_ 4), (1, u "java/lang/Object"), (0, u "<init>"), (0, u "()V"), (0, .integer 65280), (0, .integer 65535), (0, .integer 2147483647), (0, .class_ 11), (0, u "com/example/plain_ranker/plainranker/data/BinArray"), (0, .methodref 10 13), (0, .nameAndType 5 14), (0, u "(II)V"), (0, .methodref 10 16), (0, .nameAndType 17 14), (0, u "set"), (0, .methodref 10 19), (0, .nameAndType 20 21), (0, u "countNonZero"), (0, u "(I[I)V"), (0, .methodref 23 24), (0, .class_ 25), (0, .nameAndType 26 27), (0, u "com/example/plain_ranker/plainranker/data/BinArrayCountNonZeroPinLaw"), (0, u "expect"), (0, u "(IIII)I"), (2, u "law"), (0, u "(IIIIII)Z")] 5

def k1m0 : Method := { name := "<init>", desc := "()V", sig := { parameters := [], returnType := none }, accessFlags := 1, code := none }
def k1c1 : Code := { maxStack := 5, maxLocals := 16, code := code, exceptionTable := #[], attributes := #[] }
def k1m1 : Method := { name := "law", desc := "(IIIIII)Z", sig := { parameters := [.int, .int, .int, .int, .int, .int], returnType := some .boolean }, accessFlags := 9, code := some k1c1 }
def k1c2 : Code := { maxStack := 2, maxLocals := 4, code := method_3_code, exceptionTable := #[], attributes := #[] }
def k1m2 : Method := { name := "expect", desc := "(IIII)I", sig := { parameters := [.int, .int, .int, .int], returnType := some .int }, accessFlags := 10, code := some k1c2 }
/-- com/example/plain_ranker/plainranker/data/BinArrayCountNonZeroPinLaw -/
def k1 : Class := { plain "com/example/plain_ranker/plainranker/data/BinArrayCountNonZeroPinLaw" (some 0) with
  accessFlags := 49
  interfaces := #[]
  cf := some (fileOf pool1 23 #[] #[{ accessFlags := 1, nameIndex := 5, descriptorIndex := 6, attributes := #[] }, { accessFlags := 9, nameIndex := 30, descriptorIndex := 31, attributes := #[] }, { accessFlags := 10, nameIndex := 26, descriptorIndex := 27, attributes := #[] }] 49 2 #[] #[])
  fields := #[]
  methods := #[k1m0, k1m1, k1m2]
  instanceTypes := #[]
  staticTypes := #[]
  resolved := Array.replicate 37 none
  statics := none }

def pool2 : Array CpInfo := pool [(1, .methodref 2 3), (0, .class_ 4), (0, .nameAndType 5 6), (0, u "java/lang/Object"), (0, u "<init>"), (0, u "()V"), (0, .class_ 8), (0, u "com/example/plain_ranker/plainranker/data/BinArray"), (0, .fieldref 7 10), (0, .nameAndType 11 12), (0, u "bytes"), (0, u "[B"), (0, .integer 65535), (0, .fieldref 7 15), (0, .nameAndType 16 17), (0, u "chars"), (0, u "[C"), (0, .fieldref 7 19), (0, .nameAndType 20 21), (0, u "ints"), (0, u "[I"), (6, u "(II)V"), (6, u "set"), (0, u "BYTE_LIMIT"), (0, u "I"), (2, u "CHAR_LIMIT"), (10, u "countNonZero"), (0, u "(I[I)V")] 5

def k2c0 : Code := { maxStack := 3, maxLocals := 3, code := prog_8_method_1_code, exceptionTable := #[], attributes := #[] }
def k2m0 : Method := { name := "<init>", desc := "(II)V", sig := { parameters := [.int, .int], returnType := none }, accessFlags := 0, code := some k2c0 }
def k2c1 : Code := { maxStack := 3, maxLocals := 3, code := prog_8_method_6_code, exceptionTable := #[], attributes := #[] }
def k2m1 : Method := { name := "set", desc := "(II)V", sig := { parameters := [.int, .int], returnType := none }, accessFlags := 0, code := some k2c1 }
def k2c2 : Code := { maxStack := 5, maxLocals := 4, code := prog_8_method_7_code, exceptionTable := #[], attributes := #[] }
def k2m2 : Method := { name := "countNonZero", desc := "(I[I)V", sig := { parameters := [.int, (.array .int)], returnType := none }, accessFlags := 0, code := some k2c2 }
/-- com/example/plain_ranker/plainranker/data/BinArray -/
def k2 : Class := { plain "com/example/plain_ranker/plainranker/data/BinArray" (some 0) with
  accessFlags := 32
  interfaces := #[]
  cf := some (fileOf pool2 7 #[] #[{ accessFlags := 0, nameIndex := 5, descriptorIndex := 28, attributes := #[] }, { accessFlags := 0, nameIndex := 35, descriptorIndex := 28, attributes := #[] }, { accessFlags := 0, nameIndex := 51, descriptorIndex := 52, attributes := #[] }] 32 2 #[] #[{ accessFlags := 26, nameIndex := 36, descriptorIndex := 37, attributes := #[] }, { accessFlags := 26, nameIndex := 40, descriptorIndex := 37, attributes := #[] }, { accessFlags := 18, nameIndex := 11, descriptorIndex := 12, attributes := #[] }, { accessFlags := 18, nameIndex := 16, descriptorIndex := 17, attributes := #[] }, { accessFlags := 18, nameIndex := 20, descriptorIndex := 21, attributes := #[] }])
  fields := #[{ name := "BYTE_LIMIT", type := .int, accessFlags := 26, slot := 0, constantValue := 0 }, { name := "CHAR_LIMIT", type := .int, accessFlags := 26, slot := 1, constantValue := 0 }, { name := "bytes", type := (.array .byte), accessFlags := 18, slot := 0, constantValue := 0 }, { name := "chars", type := (.array .char), accessFlags := 18, slot := 1, constantValue := 0 }, { name := "ints", type := (.array .int), accessFlags := 18, slot := 2, constantValue := 0 }]
  methods := #[k2m0, k2m1, k2m2]
  instanceTypes := #[(.array .byte), (.array .char), (.array .int)]
  staticTypes := #[.int, .int]
  resolved := Array.replicate 58 none
  statics := none }

def pool3 : Array CpInfo := pool [(1, u "java/lang/Cloneable"), (0, .class_ 1), (0, u "java/lang/Object"), (0, .class_ 3)] 3

/-- java/lang/Cloneable -/
def k3 : Class := { plain "java/lang/Cloneable" (some 0) with
  accessFlags := 1537
  interfaces := #[]
  cf := some (fileOf pool3 2 #[] #[] 1537 4 #[] #[])
  fields := #[]
  methods := #[]
  instanceTypes := #[]
  staticTypes := #[]
  resolved := Array.replicate 8 none
  statics := none }

def pool4 : Array CpInfo := pool [(1, u "java/io/Serializable"), (0, .class_ 1), (0, u "java/lang/Object"), (0, .class_ 3)] 3

/-- java/io/Serializable -/
def k4 : Class := { plain "java/io/Serializable" (some 0) with
  accessFlags := 1537
  interfaces := #[]
  cf := some (fileOf pool4 2 #[] #[] 1537 4 #[] #[])
  fields := #[]
  methods := #[]
  instanceTypes := #[]
  staticTypes := #[]
  resolved := Array.replicate 8 none
  statics := none }

/-- the primitive byte -/
def k5 : Class := { plain "byte" none with kind := .primitive 'B', accessFlags := 0x411 }
/-- [B -/
def k6 : Class := { plain "[B" (some 0) with kind := .array 5 .byte, interfaces := #[3, 4], accessFlags := 1041 }

/-- the primitive char -/
def k7 : Class := { plain "char" none with kind := .primitive 'C', accessFlags := 0x411 }
/-- [C -/
def k8 : Class := { plain "[C" (some 0) with kind := .array 7 .char, interfaces := #[3, 4], accessFlags := 1041 }

/-- the primitive int -/
def k9 : Class := { plain "int" none with kind := .primitive 'I', accessFlags := 0x411 }
/-- [I -/
def k10 : Class := { plain "[I" (some 0) with kind := .array 9 .int, interfaces := #[3, 4], accessFlags := 1041 }

def heap : Heap := #[]
def classes : Array Class := #[k0, k1, k2, k3, k4, k5, k6, k7, k8, k9, k10]
def interned : List (Array UInt16 × Addr) := []
def slotsUsed : Nat := 0
def theMethod : MethodId := ⟨1, 1⟩
def args0 : Array Value := #[.int 1, .int 2, .int 3, .int 4, .int 5, .int 6]
def aboutOver (below : List Frame) : State where
  vm := { classes := classes, interned := interned.toArray }
  heap := heap
  slotsUsed := slotsUsed
  threads := #[{ frames := .invoking theMethod args0 :: below }]
def below0 : List Frame := [.native { method := ⟨0, 0⟩, args := #[] }]
def about1 : State := aboutOver below0
def p0 : Program := .bare "" "" ""
def e0 : Env := launch0.env 0 0 0
theorem w_frames : about1.frames = Frame.invoking theMethod args0 :: below0 := rfl
set_option maxRecDepth 65536 in
theorem w_args : argsFit about1.vm theMethod args0 = true := by decide +kernel
set_option maxRecDepth 65536 in
theorem w_heap : heapFits about1 = true := by decide +kernel
set_option maxRecDepth 65536 in
theorem w_runnable : about1.curStatus? = some .runnable := by decide +kernel
set_option maxRecDepth 65536 in
theorem w_alone : about1.alone = true := by decide +kernel
set_option maxRecDepth 65536 in
theorem w_named : about1.methodNamed? x = some theMethod := by decide +kernel
set_option maxRecDepth 65536 in
theorem w_hears : about1.hears theMethod below0 = true := by decide +kernel
set_option maxRecDepth 65536 in
theorem w_ripe : about1.ripe theMethod args0 below0 = true := by decide +kernel
theorem w_running : about1.status = .running := rfl
set_option maxRecDepth 65536 in
theorem w_room : about1.hasRoom e0.platform room_1 = true :=
  launch0.hasRoom_least _ room_1 (by decide +kernel) (by decide +kernel) (by decide +kernel) (by decide +kernel) (by decide +kernel) (by decide +kernel)
theorem allAtoms_all (ts : List Jvm.Cond) (a : Array Jvm.Value) (st : Jvm.State) : (allAtoms ts).before a st = ts.all (fun c => c.before a st) := by
  induction ts with
  | nil => rfl
  | cons c t ih =>
    show (Jvm.Cond.and c (allAtoms t)).before a st = _
    rw [Jvm.Cond.before_and, ih, List.all_cons]
def words1 : List Jvm.Cond := Jvm.Cond.code x code maxLocals ret :: tables_1
/-- a 'code' word, met by the world's own term for the bytes: nothing is compared byte by byte -/
theorem code_word {y : MethodName} {bytes : ByteArray} {mx : Nat} {rt : Option FieldType} {a : Array Value} {s : State} {m : MethodId} {meth : Method} {c : Code} (h1 : s.methodNamed? y = some m) (h2 : s.vm.method? m = some meth) (h3 : meth.code = some c) (h4 : c.code = bytes)
    (h5 : (c.maxLocals == mx && c.exceptionTable.isEmpty && decide (c.maxStack ≤ mostOperands) && decide (meth.sig.returnType = rt) && !meth.locks && decide (parseMethodDescriptor y.desc = some meth.sig)) = true) : (Jvm.Cond.code y bytes mx rt).before a s = true := by
  simp only [Bool.and_eq_true, beq_iff_eq, Bool.not_eq_true', decide_eq_true_eq] at h5
  obtain ⟨⟨⟨⟨⟨g1, g2⟩, g3⟩, g4⟩, g5⟩, g6⟩ := h5
  simp [Cond.before, Cond.holds, Cond.value, h1, h2, h3, h4, g1, g2, g3, g4, g5, g6]
def isCode : Jvm.Cond → Bool
  | .code _ _ _ _ => true
  | _ => false
theorem all_split {L : List Jvm.Cond} {P : Jvm.Cond → Bool} (h1 : L.all (fun c => isCode c || P c) = true) (h2 : ∀ c ∈ L.filter isCode, P c = true) : L.all P = true := by
  refine List.all_eq_true.mpr fun c hc => ?_
  have h := List.all_eq_true.mp h1 c hc
  rcases Bool.eq_false_or_eq_true (isCode c) with hi | hi
  · exact h2 c (List.mem_filter.mpr ⟨hc, hi⟩)
  · simpa [hi] using h
set_option maxRecDepth 65536 in
theorem w_c0 : (Jvm.Cond.code x code maxLocals ret).before args0 about1 = true := code_word (m := ⟨1, 1⟩) (meth := k1m1) (c := k1c1) (by decide +kernel) rfl rfl rfl (by decide +kernel)
set_option maxRecDepth 65536 in
theorem w_c1 : (Jvm.Cond.code ({ cls := "com/example/plain_ranker/plainranker/data/BinArray", name := "<init>", desc := "(II)V" } : Jvm.MethodName) prog_8_method_1_code (3 : Nat) (Option.none : Option Jvm.ClassFile.FieldType)).before args0 about1 = true := code_word (m := ⟨2, 0⟩) (meth := k2m0) (c := k2c0) (by decide +kernel) rfl rfl rfl (by decide +kernel)
set_option maxRecDepth 65536 in
theorem w_c2 : (Jvm.Cond.code ({ cls := "java/lang/Object", name := "<init>", desc := "()V" } : Jvm.MethodName) object_method_1_code (1 : Nat) (Option.none : Option Jvm.ClassFile.FieldType)).before args0 about1 = true := code_word (m := ⟨0, 0⟩) (meth := k0m0) (c := k0c0) (by decide +kernel) rfl rfl rfl (by decide +kernel)
set_option maxRecDepth 65536 in
theorem w_c3 : (Jvm.Cond.code ({ cls := "com/example/plain_ranker/plainranker/data/BinArray", name := "set", desc := "(II)V" } : Jvm.MethodName) prog_8_method_6_code (3 : Nat) (Option.none : Option Jvm.ClassFile.FieldType)).before args0 about1 = true := code_word (m := ⟨2, 1⟩) (meth := k2m1) (c := k2c1) (by decide +kernel) rfl rfl rfl (by decide +kernel)
set_option maxRecDepth 65536 in
theorem w_c4 : (Jvm.Cond.code ({ cls := "com/example/plain_ranker/plainranker/data/BinArray", name := "countNonZero", desc := "(I[I)V" } : Jvm.MethodName) prog_8_method_7_code (4 : Nat) (Option.none : Option Jvm.ClassFile.FieldType)).before args0 about1 = true := code_word (m := ⟨2, 2⟩) (meth := k2m2) (c := k2c2) (by decide +kernel) rfl rfl rfl (by decide +kernel)
set_option maxRecDepth 65536 in
theorem w_c5 : (Jvm.Cond.code ({ cls := "com/example/plain_ranker/plainranker/data/BinArrayCountNonZeroPinLaw", name := "expect", desc := "(IIII)I" } : Jvm.MethodName) method_3_code (4 : Nat) (Option.some Jvm.ClassFile.FieldType.int)).before args0 about1 = true := code_word (m := ⟨1, 2⟩) (meth := k1m2) (c := k1c2) (by decide +kernel) rfl rfl rfl (by decide +kernel)
def codes1 : List Jvm.Cond := [Jvm.Cond.code x code maxLocals ret, Jvm.Cond.code ({ cls := "com/example/plain_ranker/plainranker/data/BinArray", name := "<init>", desc := "(II)V" } : Jvm.MethodName) prog_8_method_1_code (3 : Nat) (Option.none : Option Jvm.ClassFile.FieldType), Jvm.Cond.code ({ cls := "java/lang/Object", name := "<init>", desc := "()V" } : Jvm.MethodName) object_method_1_code (1 : Nat) (Option.none : Option Jvm.ClassFile.FieldType), Jvm.Cond.code ({ cls := "com/example/plain_ranker/plainranker/data/BinArray", name := "set", desc := "(II)V" } : Jvm.MethodName) prog_8_method_6_code (3 : Nat) (Option.none : Option Jvm.ClassFile.FieldType), Jvm.Cond.code ({ cls := "com/example/plain_ranker/plainranker/data/BinArray", name := "countNonZero", desc := "(I[I)V" } : Jvm.MethodName) prog_8_method_7_code (4 : Nat) (Option.none : Option Jvm.ClassFile.FieldType), Jvm.Cond.code ({ cls := "com/example/plain_ranker/plainranker/data/BinArrayCountNonZeroPinLaw", name := "expect", desc := "(IIII)I" } : Jvm.MethodName) method_3_code (4 : Nat) (Option.some Jvm.ClassFile.FieldType.int)]
set_option maxRecDepth 65536 in
theorem codes_eq : words1.filter isCode = codes1 := rfl
theorem w_codes : ∀ c ∈ words1.filter isCode, c.before args0 about1 = true := by
  rw [codes_eq]
  intro c hc
  simp only [codes1, List.mem_cons, List.not_mem_nil, or_false] at hc
  rcases hc with rfl | rfl | rfl | rfl | rfl | rfl
  · exact w_c0
  · exact w_c1
  · exact w_c2
  · exact w_c3
  · exact w_c4
  · exact w_c5
set_option maxRecDepth 65536 in
theorem w_t1 : (words1.take 24).all (fun c => isCode c || c.before args0 about1) = true := by decide +kernel
set_option maxRecDepth 65536 in
theorem w_t2 : (words1.drop 24).all (fun c => isCode c || c.before args0 about1) = true := by decide +kernel
theorem w_tables : (allAtoms (Jvm.Cond.code x code maxLocals ret :: tables_1)).before args0 about1 = true := by
  rw [allAtoms_all]
  show words1.all (fun c => c.before args0 about1) = true
  refine all_split ?_ w_codes
  rw [← List.take_append_drop 24 words1, List.all_append, w_t1, w_t2]
  rfl
set_option maxRecDepth 65536 in
theorem w_case : (Jvm.Cond.and given_1 narrow_1).before args0 about1 = true := by decide +kernel
theorem w_applies : (headSpec (Jvm.Cond.code x code maxLocals ret :: tables_1) room_1).applies x e0.platform about1 = true :=
  (Spec.applies_iff w_frames).mpr ⟨w_running, w_runnable, w_alone, w_named, w_hears, w_ripe, w_room, w_tables⟩
theorem atStart : AtStart classFile x code maxLocals ret World_1 tables_1 room_1 Calls_1 rest_1 Pre_1 launch0 p0 e0 about1 theMethod args0 below0 :=
  ⟨lists_1, trivial, launch0.admits_env _ _ _, launch0.least_env, fairChoices_fair.cas, fairChoices_fair.clock, w_frames, w_args, w_heap, w_applies, trivial, trivial, w_case⟩
end start1
theorem witness_1 : WitnessClaimed_1 := ⟨start1.p0, start1.e0, start1.about1, start1.theMethod, start1.args0, start1.below0, start1.atStart⟩
end Jvm.Pilot.@@N@@
