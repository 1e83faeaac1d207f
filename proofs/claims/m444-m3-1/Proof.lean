import JvmDerived
import JvmDerived.Pilot.@@N@@Statement
import JvmDerived.Pilot.@@N@@Code
set_option linter.unusedVariables false
set_option linter.unusedSimpArgs false
namespace Jvm.RoadKit
open Sem ClassFile Op Lib Jvm.Stand Jvm.Free Jvm.LawKit
section New
variable {p : Program} {l : Launch} {e : Env} {R : Room} {s : State} {m : MethodId} {args : Array Value} {below : List Frame} {meth : Method} {c : Code} {T : State} {locs : List Loc} {cells slots : Nat}
theorem retI (X : Stand p l e R s m args below meth c T locs cells slots) (hx : p.tables.exec = Jvm.exec) {pc : Nat} {Ls : Array Slot} {z : Int32} {rest : List Value} (hret : meth.sig.returnType = some .int) (hd : decode c.code pc = .ok (.ireturn, 1)) {fs : List Frame}
    (hl : ∀ (f : JFrame) (acts : List Action), f.method = m → f.locked = none → f.entered = [] → (doReturn e (T.setTop f) acts (some (.int z))).1 = T.setFrames fs) : Steps p.tables e below (T.setTop (mkF m pc Ls (.int z :: rest))) (T.setFrames fs) := by
  have hm' : T.vm.method? m = some meth := X.method'
  have hn : narrow .int (.int z) = .int z := rfl
  show Steps p.tables e below (T.setTop { method := m, pc := pc, locals := Ls, stack := _ :: rest, locked := none }) _
  jvm_step X.here [X.here.top, hx, hd, hm', hret, hn]
  first | (intro acts; rw [hl _ acts rfl rfl rfl]) | rw [hl _ _ rfl rfl rfl]
  exact Steps.refl _
end New
end Jvm.RoadKit
namespace Jvm.Pilot.@@N@@
open Jvm Jvm.ClassFile Sem Op Lib Jvm.Free Jvm.Stand Jvm.LawKit Jvm.RoadKit Bundle Jvm.Pilot.@@N@@.Jvm.D
theorem own_retJ {p : Program} {l : Launch} {e : Env} {R : Room} {s : State} {m : MethodId} {args : Array Value} {below : List Frame} {meth : Method} {c : Code} {T : State} {locs : List Loc} {cells slots : Nat} (X : Stand p l e R s m args below meth c T locs cells slots) (hx : p.tables.exec = Jvm.exec) {pc : Nat} {Ls : Array Slot} {z : Int64} {rest : List Value} (hret : meth.sig.returnType = some .long) (hd : decode c.code pc = .ok (.lreturn, 1)) {fs : List Frame}
    (hl : ∀ (f : JFrame) (acts : List Action), f.method = m → f.locked = none → f.entered = [] → (doReturn e (T.setTop f) acts (some (.long z))).1 = T.setFrames fs) : Steps p.tables e below (T.setTop (mkF m pc Ls (.long z :: rest))) (T.setFrames fs) := by
  have hm' : T.vm.method? m = some meth := X.method'
  have hn : narrow .long (.long z) = .long z := rfl
  show Steps p.tables e below (T.setTop { method := m, pc := pc, locals := Ls, stack := _ :: rest, locked := none }) _
  jvm_step X.here [X.here.top, hx, hd, hm', hret, hn]
  first | (intro acts; rw [hl _ acts rfl rfl rfl]) | rw [hl _ _ rfl rfl rfl]
  exact Steps.refl _
theorem own_retD {p : Program} {l : Launch} {e : Env} {R : Room} {s : State} {m : MethodId} {args : Array Value} {below : List Frame} {meth : Method} {c : Code} {T : State} {locs : List Loc} {cells slots : Nat} (X : Stand p l e R s m args below meth c T locs cells slots) (hx : p.tables.exec = Jvm.exec) {pc : Nat} {Ls : Array Slot} {z : UInt64} {rest : List Value} (hret : meth.sig.returnType = some .double) (hd : decode c.code pc = .ok (.dreturn, 1)) {fs : List Frame}
    (hl : ∀ (f : JFrame) (acts : List Action), f.method = m → f.locked = none → f.entered = [] → (doReturn e (T.setTop f) acts (some (.double z))).1 = T.setFrames fs) : Steps p.tables e below (T.setTop (mkF m pc Ls (.double z :: rest))) (T.setFrames fs) := by
  have hm' : T.vm.method? m = some meth := X.method'
  have hn : narrow .double (.double z) = .double z := rfl
  show Steps p.tables e below (T.setTop { method := m, pc := pc, locals := Ls, stack := _ :: rest, locked := none }) _
  jvm_step X.here [X.here.top, hx, hd, hm', hret, hn]
  first | (intro acts; rw [hl _ acts rfl rfl rfl]) | rw [hl _ _ rfl rfl rfl]
  exact Steps.refl _
theorem own_sta_keep {Z : State} {h h' : Heap} {C n d : String} {v : Value} {ws : List Addr} (F : Sta Z h C n d v) (K : Keep h h' ws) (q : ∀ x ∈ ws, ∀ c : Cell, h[x]? = some c → c.vm.isStatics = false) : Sta Z h' C n d v := by
  obtain ⟨cf, i, k, f, st, cell, h1, h2, h3, h4, h5, h6, h7⟩ := F
  exact ⟨cf, i, k, f, st, cell, h1, h2, h3, h4, K.2.1 st cell h5 (fun z => by have := q st z cell h5; rw [h6] at this; cases this), h6, h7⟩
theorem own_ins_keep {Z : State} {h h' : Heap} {a : Addr} {C : String} {b : Bool} {ws : List Addr} (F : Ins Z h a C b) (K : Keep h h' ws) : Ins Z h' a C b := by
  obtain ⟨cell, cT, h1, h2, h3⟩ := F
  obtain ⟨c', e1, e2, e3, -⟩ := K.2.2 a cell h1
  exact ⟨c', cT, e1, h2, by rw [e2, e3]; exact h3⟩
theorem own_pl0 {h : Heap} : ∀ x ∈ ([] : List Addr), ∀ c : Cell, h[x]? = some c → c.vm.isStatics = false := fun _ q => nomatch q
theorem own_plS {h : Heap} {y : Addr} {L : List Addr} (q : ∀ c : Cell, h[y]? = some c → c.vm.isStatics = false) (r : ∀ x ∈ L, ∀ c : Cell, h[x]? = some c → c.vm.isStatics = false) : ∀ x ∈ y :: L, ∀ c : Cell, h[x]? = some c → c.vm.isStatics = false := fun x z => (List.mem_cons.mp z).elim (fun u => u ▸ q) (r x)
theorem own_pl_exa {Z : State} {h : Heap} {a : Addr} {C : String} (F : Exa Z h a C) : ∀ c : Cell, h[a]? = some c → c.vm.isStatics = false := fun c hc => by
  obtain ⟨cell, k, h1, -, -, h4, -⟩ := F; cases h1.symm.trans hc; exact h4
theorem own_pl_fld {Z : State} {h : Heap} {a : Addr} {C n d : String} {v : Value} (F : Fld Z h a C n d v) : ∀ c : Cell, h[a]? = some c → c.vm.isStatics = false := fun c hc => by
  obtain ⟨cell, cf, k, i, f, h1, -, -, -, h5, -⟩ := F; cases h1.symm.trans hc; exact h5
theorem own_pl_arv {Z : State} {h : Heap} {a : Addr} {k : ClassId} {ty : FieldType} {z : Int32} {vs : List Value} {d : Value} (F : Arv Z h a k ty z vs d) : ∀ c : Cell, h[a]? = some c → c.vm.isStatics = false := fun c hc => by
  obtain ⟨cl, A, -⟩ := F; cases A.1.symm.trans hc; exact A.plain
def own_pick (x : Int64) (m : Int32) : Int64 :=
  if (m &&& (3 : Int32)) = (0 : Int32) then x
  else if (m &&& (3 : Int32)) = (1 : Int32) then ((9223372036854775807 : Int64) - (x &&& (65535 : Int64)))
  else if (m &&& (3 : Int32)) = (2 : Int32) then ((-9223372036854775808 : Int64) + (x &&& (65535 : Int64)))
  else ((x &&& (255 : Int64)) - (128 : Int64))
def own_minus (v s : Int64) : Int64 :=
  if (lcmpW v (-9223372036854775808 : Int64)) = (0 : Int32) then (-9223372036854775808 : Int64)
  else if (lcmpW s (-9223372036854775808 : Int64)) = (0 : Int32) then (-9223372036854775808 : Int64)
  else if (lcmpW ((v ^^^ s) &&& (v ^^^ (v - s))) (0 : Int64)) < (0 : Int32) then (-9223372036854775808 : Int64)
  else (v - s)
def own_exp (v s : Int64) : Int64 :=
  if (lcmpW v (-9223372036854775808 : Int64)) = (0 : Int32) then (-9223372036854775808 : Int64)
  else if (lcmpW s (-9223372036854775808 : Int64)) = (0 : Int32) then (-9223372036854775808 : Int64)
  else if (lcmpW s (0 : Int64)) < (0 : Int32) ∧ (0 : Int32) < (lcmpW v ((9223372036854775807 : Int64) + s)) then (-9223372036854775808 : Int64)
  else if (0 : Int32) < (lcmpW s (0 : Int64)) ∧ (lcmpW v (s - (9223372036854775807 : Int64))) < (0 : Int32) then (-9223372036854775808 : Int64)
  else (v - s)
theorem own_neg (a : Int64) : a < 0 ↔ a.toBitVec.msb = true := by
  rw [Int64.lt_iff_toInt_lt]
  have h := BitVec.toInt_neg_iff (x := a.toBitVec)
  have h2 := BitVec.msb_eq_decide a.toBitVec
  have e : a.toInt = a.toBitVec.toInt := rfl
  rw [e, h2]
  simp only [decide_eq_true_eq]
  rw [show (0 : Int64).toInt = 0 from rfl, h]
  omega
theorem own_sgn (v s d : Int64) : ((v ^^^ s) &&& (v ^^^ d)) < 0 ↔ ((v < 0 ∧ ¬ s < 0 ∧ ¬ d < 0) ∨ (¬ v < 0 ∧ s < 0 ∧ d < 0)) := by
  simp only [own_neg, Int64.toBitVec_and, Int64.toBitVec_xor, BitVec.msb_and, BitVec.msb_xor]
  cases v.toBitVec.msb <;> cases s.toBitVec.msb <;> cases d.toBitVec.msb <;> simp
theorem own_eq (v s : Int64) : own_minus v s = own_exp v s := by
  unfold own_minus own_exp
  simp only [lw_eq, lw_lt, lw_gt]
  by_cases h1 : v = (-9223372036854775808 : Int64)
  · rw [if_pos h1, if_pos h1]
  by_cases h2 : s = (-9223372036854775808 : Int64)
  · rw [if_neg h1, if_neg h1, if_pos h2, if_pos h2]
  rw [if_neg h1, if_neg h1, if_neg h2, if_neg h2]
  have a1 : v.toInt ≠ -9223372036854775808 := fun q => h1 (Int64.toInt_inj.mp q)
  have a2 : s.toInt ≠ -9223372036854775808 := fun q => h2 (Int64.toInt_inj.mp q)
  have r1 := rng64 v
  have r2 := rng64 s
  have r3 := rng64 (v - s)
  have c3 := c_lsub v s
  have r4 := rng64 ((9223372036854775807 : Int64) + s)
  have c4 := c_ladd (9223372036854775807 : Int64) s
  have r5 := rng64 (s - (9223372036854775807 : Int64))
  have c5 := c_lsub s (9223372036854775807 : Int64)
  have k1 : (9223372036854775807 : Int64).toInt = 9223372036854775807 := rfl
  have k0 : (0 : Int64).toInt = 0 := rfl
  have km : (-9223372036854775808 : Int64).toInt = -9223372036854775808 := rfl
  rw [k1] at c4 c5
  simp only [own_sgn]
  by_cases g1 : (v < 0 ∧ ¬ s < 0 ∧ ¬ (v - s) < 0) ∨ (¬ v < 0 ∧ s < 0 ∧ (v - s) < 0)
  · rw [if_pos g1]
    by_cases g2 : s < 0 ∧ (9223372036854775807 : Int64) + s < v
    · rw [if_pos g2]
    · rw [if_neg g2]
      by_cases g3 : 0 < s ∧ v < s - (9223372036854775807 : Int64)
      · rw [if_pos g3]
      · exfalso
        simp only [Int64.lt_iff_toInt_lt, k0] at g1 g2 g3
        omega
  · rw [if_neg g1]
    by_cases g2 : s < 0 ∧ (9223372036854775807 : Int64) + s < v
    · exfalso
      simp only [Int64.lt_iff_toInt_lt, k0] at g1 g2
      omega
    · rw [if_neg g2]
      by_cases g3 : 0 < s ∧ v < s - (9223372036854775807 : Int64)
      · rw [if_pos g3]
        apply Int64.toInt_inj.mp
        rw [km]
        simp only [Int64.lt_iff_toInt_lt, k0] at g1 g2 g3
        omega
      · rw [if_neg g3]
theorem d1_0 : decode method_2_code 0 = .ok (.iload_n 2, 1) := by decide +kernel
theorem d1_1 : decode method_2_code 1 = .ok (.iconst 3, 1) := by decide +kernel
theorem d1_2 : decode method_2_code 2 = .ok (.iand, 1) := by decide +kernel
theorem d1_3 : decode method_2_code 3 = .ok (.istore_n 3, 1) := by decide +kernel
theorem d1_4 : decode method_2_code 4 = .ok (.iload_n 3, 1) := by decide +kernel
theorem d1_5 : decode method_2_code 5 = .ok (.ifCond .ne 5, 3) := by decide +kernel
theorem d1_8 : decode method_2_code 8 = .ok (.lload_n 0, 1) := by decide +kernel
theorem d1_9 : decode method_2_code 9 = .ok (.lreturn, 1) := by decide +kernel
theorem d1_10 : decode method_2_code 10 = .ok (.iload_n 3, 1) := by decide +kernel
theorem d1_11 : decode method_2_code 11 = .ok (.iconst 1, 1) := by decide +kernel
theorem d1_12 : decode method_2_code 12 = .ok (.if_icmp .ne 13, 3) := by decide +kernel
theorem d1_15 : decode method_2_code 15 = .ok (.ldc2_w 9, 3) := by decide +kernel
theorem d1_18 : decode method_2_code 18 = .ok (.lload_n 0, 1) := by decide +kernel
theorem d1_19 : decode method_2_code 19 = .ok (.ldc2_w 11, 3) := by decide +kernel
theorem d1_22 : decode method_2_code 22 = .ok (.land, 1) := by decide +kernel
theorem d1_23 : decode method_2_code 23 = .ok (.lsub, 1) := by decide +kernel
theorem d1_24 : decode method_2_code 24 = .ok (.lreturn, 1) := by decide +kernel
theorem d1_25 : decode method_2_code 25 = .ok (.iload_n 3, 1) := by decide +kernel
theorem d1_26 : decode method_2_code 26 = .ok (.iconst 2, 1) := by decide +kernel
theorem d1_27 : decode method_2_code 27 = .ok (.if_icmp .ne 13, 3) := by decide +kernel
theorem d1_30 : decode method_2_code 30 = .ok (.ldc2_w 13, 3) := by decide +kernel
theorem d1_33 : decode method_2_code 33 = .ok (.lload_n 0, 1) := by decide +kernel
theorem d1_34 : decode method_2_code 34 = .ok (.ldc2_w 11, 3) := by decide +kernel
theorem d1_37 : decode method_2_code 37 = .ok (.land, 1) := by decide +kernel
theorem d1_38 : decode method_2_code 38 = .ok (.ladd, 1) := by decide +kernel
theorem d1_39 : decode method_2_code 39 = .ok (.lreturn, 1) := by decide +kernel
theorem d1_40 : decode method_2_code 40 = .ok (.lload_n 0, 1) := by decide +kernel
theorem d1_41 : decode method_2_code 41 = .ok (.ldc2_w 15, 3) := by decide +kernel
theorem d1_44 : decode method_2_code 44 = .ok (.land, 1) := by decide +kernel
theorem d1_45 : decode method_2_code 45 = .ok (.ldc2_w 17, 3) := by decide +kernel
theorem d1_48 : decode method_2_code 48 = .ok (.lsub, 1) := by decide +kernel
theorem d1_49 : decode method_2_code 49 = .ok (.lreturn, 1) := by decide +kernel
theorem pn_com_example_prequential_prequential_exact_CheckedLongMinusPinLaw : plainName "com/example/prequential/prequential/exact/CheckedLongMinusPinLaw" = true := by first | (simp [plainName, overriddenIn]; done) | decide +kernel
theorem ef_1 (m : MethodId) (q1 : Int64) (p2 : Int32) : entryFrame m #[(.long q1), (.int p2)] 4 = mkF m 0 #[.val (.long q1), .second, .val (.int p2), .unset] [] := by first | (simp [entryFrame, mkF, argsToLocals, Value.category]; done) | rfl
def Q1 (Z : State) (q1 : Int64) (p2 : Int32) (h0 : Heap) (n0 : Nat) (v : Option Value) (h : Heap) (L : List Loc) : Prop := v = some (.long (own_pick q1 p2)) ∧ Fr n0 L ∧ h = h0
set_option maxRecDepth 65536 in
set_option maxHeartbeats 40000000 in
theorem rm1 (l : Launch) (Z : State) (a0 : Array Value) (hw : ∀ d ∈ tables_1, d.before a0 Z = true) (ws : List Jvm.Cond) (q1 : Int64) (p2 : Int32) (h0 : Heap) (n0 : Nat) (Z0 : n0 ≤ h0.size) :
    MetFree l (⟨"com/example/prequential/prequential/exact/CheckedLongMinusPinLaw", "pick", "(JI)J"⟩ : MethodName) (head1 (Jvm.Cond.code (⟨"com/example/prequential/prequential/exact/CheckedLongMinusPinLaw", "pick", "(JI)J"⟩ : MethodName) method_2_code 4 (some .long) :: ws) ({ frames := 0, cells := 0, slots := 0, locals := 0 } : Room)) (fun a U => a = #[(.long q1), (.int p2)] ∧ Z.Warmed39 U.vm ∧ U.heap = h0) (fun _ _ _ _ _ => True) (fun _ U o U' => ∃ v L, o = .returned v ∧ Q1 Z q1 p2 h0 n0 v U'.heap L ∧ FrameEnd U o U' L ({ frames := 0, cells := 0, slots := 0, locals := 0 } : Room).cells ({ frames := 0, cells := 0, slots := 0, locals := 0 } : Room).slots) := by
  refine MetFree.of_bodySF (plainFor_of_name pn_com_example_prequential_prequential_exact_CheckedLongMinusPinLaw) hisR ?_
  intro p e s m args below meth c s₁ Bd hml0 hP hK
  obtain ⟨rfl, hZ, hh⟩ := hP
  have hx := Bd.exec
  have hby := Bd.bytes
  have hml : c.maxLocals = 4 := hml0
  have hown : s.vm.findClass "com/example/prequential/prequential/exact/CheckedLongMinusPinLaw" = some m.cls := findClass_of_methodNamed Bd.named
  have hnm := (name_of_methodNamed Bd.named Bd.method).1
  have X0 : Stand p l e ({ frames := 0, cells := 0, slots := 0, locals := 0 } : Room) s m #[(.long q1), (.int p2)] below meth c s₁ [] 0 0 := Stand.of_body Bd
  have e0 : s₁.heap = h0 := by rw [← hh, Bd.state]; rfl
  have N0 := Fr.nil n0
  have pre0 : ∀ t, Steps p.tables e below (s₁.setTop (mkF m 0 #[.val (.long q1), .second, .val (.int p2), .unset] [])) t → Steps p.tables e below (s₁.setTop (entryFrame m #[(.long q1), (.int p2)] 4)) t := fun t k => castTop (ef_1 m q1 p2) k
  have pre101 : ∀ t, Steps p.tables e below (s₁.setTop (mkF m 5 #[.val (.long q1), .second, .val (.int p2), .val (.int (p2 &&& (3 : Int32)))] [(.int (p2 &&& (3 : Int32)))])) t → Steps p.tables e below (s₁.setTop (entryFrame m #[(.long q1), (.int p2)] 4)) t := fun t kt => by
    refine pre0 t ?_
    show Steps p.tables e below (s₁.setTop (mkF m 0 #[.val (.long q1), .second, .val (.int p2), .unset] [])) _
    refine XS.iloadN X0.here hx rfl (hb hby d1_0) rfl ?_
    show Steps p.tables e below (s₁.setTop (mkF m 1 #[.val (.long q1), .second, .val (.int p2), .unset] [(.int p2)])) _
    refine XS.iconst X0.here hx rfl (hb hby d1_1) ?_
    show Steps p.tables e below (s₁.setTop (mkF m 2 #[.val (.long q1), .second, .val (.int p2), .unset] [(.int (3 : Int32)), (.int p2)])) _
    refine XS.iand X0.here hx rfl (hb hby d1_2) rfl ?_
    show Steps p.tables e below (s₁.setTop (mkF m 3 #[.val (.long q1), .second, .val (.int p2), .unset] [(.int (p2 &&& (3 : Int32)))])) _
    refine XS.istoreN X0.here hx rfl (hb hby d1_3) rfl (l' := #[.val (.long q1), .second, .val (.int p2), .val (.int (p2 &&& (3 : Int32)))]) rfl ?_
    show Steps p.tables e below (s₁.setTop (mkF m 4 #[.val (.long q1), .second, .val (.int p2), .val (.int (p2 &&& (3 : Int32)))] [])) _
    refine XS.iloadN X0.here hx rfl (hb hby d1_4) rfl ?_
    show Steps p.tables e below (s₁.setTop (mkF m 5 #[.val (.long q1), .second, .val (.int p2), .val (.int (p2 &&& (3 : Int32)))] [(.int (p2 &&& (3 : Int32)))])) _
    exact kt
  by_cases hc5_102 : (p2 &&& (3 : Int32)) = (0 : Int32)
  · skip
    obtain ⟨fs, hr, hrun, hended, hW, hsame⟩ := X0.leave (v := some (.long q1)) (fun h => by rw [Bd.returns] at h; cases h)
    refine ⟨_, _, pre101 _ ?_, hrun, hended, _, _, rfl, ?_, ⟨_, rfl⟩, hW, hsame.mono (by decide) (by decide)⟩
    · skip
      show Steps p.tables e below (s₁.setTop (mkF m 5 #[.val (.long q1), .second, .val (.int p2), .val (.int (p2 &&& (3 : Int32)))] [(.int (p2 &&& (3 : Int32)))])) _
      refine XS.ifNo X0.here hx rfl (hb hby d1_5) rfl ((if0 _ _).trans (teq (hc5_102 : (p2 &&& (3 : Int32)) = (0 : Int32))).2) ?_
      show Steps p.tables e below (s₁.setTop (mkF m 8 #[.val (.long q1), .second, .val (.int p2), .val (.int (p2 &&& (3 : Int32)))] [])) _
      refine XS.lloadN X0.here hx rfl (hb hby d1_8) rfl ?_
      show Steps p.tables e below (s₁.setTop (mkF m 9 #[.val (.long q1), .second, .val (.int p2), .val (.int (p2 &&& (3 : Int32)))] [(.long q1)])) _
      exact own_retJ X0 hx Bd.returns (hb hby d1_9) hr
    · show Q1 Z q1 p2 h0 n0 _ s₁.heap _
      rw [e0]
      exact ⟨(by simp only [own_pick, eq_true hc5_102, if_true, if_false, and_self, true_and, and_true, false_and, and_false]), N0, rfl⟩
  · skip
    have pre103 : ∀ t, Steps p.tables e below (s₁.setTop (mkF m 12 #[.val (.long q1), .second, .val (.int p2), .val (.int (p2 &&& (3 : Int32)))] [(.int (1 : Int32)), (.int (p2 &&& (3 : Int32)))])) t → Steps p.tables e below (s₁.setTop (entryFrame m #[(.long q1), (.int p2)] 4)) t := fun t kt => by
      refine pre101 t ?_
      show Steps p.tables e below (s₁.setTop (mkF m 5 #[.val (.long q1), .second, .val (.int p2), .val (.int (p2 &&& (3 : Int32)))] [(.int (p2 &&& (3 : Int32)))])) _
      refine XS.ifYes X0.here hx rfl (pc0 := 5) (pc' := 10) rfl (hb hby d1_5) rfl ((if0 _ _).trans (feq (hc5_102 : ¬ ((p2 &&& (3 : Int32)) = (0 : Int32)))).2) (by decide) (by decide) ?_
      show Steps p.tables e below (s₁.setTop (mkF m 10 #[.val (.long q1), .second, .val (.int p2), .val (.int (p2 &&& (3 : Int32)))] [])) _
      refine XS.iloadN X0.here hx rfl (hb hby d1_10) rfl ?_
      show Steps p.tables e below (s₁.setTop (mkF m 11 #[.val (.long q1), .second, .val (.int p2), .val (.int (p2 &&& (3 : Int32)))] [(.int (p2 &&& (3 : Int32)))])) _
      refine XS.iconst X0.here hx rfl (hb hby d1_11) ?_
      show Steps p.tables e below (s₁.setTop (mkF m 12 #[.val (.long q1), .second, .val (.int p2), .val (.int (p2 &&& (3 : Int32)))] [(.int (1 : Int32)), (.int (p2 &&& (3 : Int32)))])) _
      exact kt
    by_cases hc12_104 : (p2 &&& (3 : Int32)) = (1 : Int32)
    · skip
      obtain ⟨fs, hr, hrun, hended, hW, hsame⟩ := X0.leave (v := some (.long ((9223372036854775807 : Int64) - (q1 &&& (65535 : Int64))))) (fun h => by rw [Bd.returns] at h; cases h)
      refine ⟨_, _, pre103 _ ?_, hrun, hended, _, _, rfl, ?_, ⟨_, rfl⟩, hW, hsame.mono (by decide) (by decide)⟩
      · skip
        show Steps p.tables e below (s₁.setTop (mkF m 12 #[.val (.long q1), .second, .val (.int p2), .val (.int (p2 &&& (3 : Int32)))] [(.int (1 : Int32)), (.int (p2 &&& (3 : Int32)))])) _
        refine XS.icmpNo X0.here hx rfl (hb hby d1_12) rfl (teq (hc12_104 : (p2 &&& (3 : Int32)) = (1 : Int32))).2 ?_
        show Steps p.tables e below (s₁.setTop (mkF m 15 #[.val (.long q1), .second, .val (.int p2), .val (.int (p2 &&& (3 : Int32)))] [])) _
        refine X0.ldc2Long hx hown (mvT hZ (hw _ (List.mem_of_getElem? (i := 13) rfl))) (g := (mkF m 15 #[.val (.long q1), .second, .val (.int p2), .val (.int (p2 &&& (3 : Int32)))] [])) rfl (hb hby d1_15) _ ?_
        show Steps p.tables e below (s₁.setTop (mkF m 18 #[.val (.long q1), .second, .val (.int p2), .val (.int (p2 &&& (3 : Int32)))] [(.long (9223372036854775807 : Int64))])) _
        refine XS.lloadN X0.here hx rfl (hb hby d1_18) rfl ?_
        show Steps p.tables e below (s₁.setTop (mkF m 19 #[.val (.long q1), .second, .val (.int p2), .val (.int (p2 &&& (3 : Int32)))] [(.long q1), (.long (9223372036854775807 : Int64))])) _
        refine X0.ldc2Long hx hown (mvT hZ (hw _ (List.mem_of_getElem? (i := 16) rfl))) (g := (mkF m 19 #[.val (.long q1), .second, .val (.int p2), .val (.int (p2 &&& (3 : Int32)))] [(.long q1), (.long (9223372036854775807 : Int64))])) rfl (hb hby d1_19) _ ?_
        show Steps p.tables e below (s₁.setTop (mkF m 22 #[.val (.long q1), .second, .val (.int p2), .val (.int (p2 &&& (3 : Int32)))] [(.long (65535 : Int64)), (.long q1), (.long (9223372036854775807 : Int64))])) _
        refine XS.land X0.here hx rfl (hb hby d1_22) rfl ?_
        show Steps p.tables e below (s₁.setTop (mkF m 23 #[.val (.long q1), .second, .val (.int p2), .val (.int (p2 &&& (3 : Int32)))] [(.long (q1 &&& (65535 : Int64))), (.long (9223372036854775807 : Int64))])) _
        refine XS.lsub X0.here hx rfl (hb hby d1_23) rfl ?_
        show Steps p.tables e below (s₁.setTop (mkF m 24 #[.val (.long q1), .second, .val (.int p2), .val (.int (p2 &&& (3 : Int32)))] [(.long ((9223372036854775807 : Int64) - (q1 &&& (65535 : Int64))))])) _
        exact own_retJ X0 hx Bd.returns (hb hby d1_24) hr
      · show Q1 Z q1 p2 h0 n0 _ s₁.heap _
        rw [e0]
        exact ⟨(by simp only [own_pick, eq_false hc5_102, eq_true hc12_104, if_true, if_false, and_self, true_and, and_true, false_and, and_false]), N0, rfl⟩
    · skip
      have pre105 : ∀ t, Steps p.tables e below (s₁.setTop (mkF m 27 #[.val (.long q1), .second, .val (.int p2), .val (.int (p2 &&& (3 : Int32)))] [(.int (2 : Int32)), (.int (p2 &&& (3 : Int32)))])) t → Steps p.tables e below (s₁.setTop (entryFrame m #[(.long q1), (.int p2)] 4)) t := fun t kt => by
        refine pre103 t ?_
        show Steps p.tables e below (s₁.setTop (mkF m 12 #[.val (.long q1), .second, .val (.int p2), .val (.int (p2 &&& (3 : Int32)))] [(.int (1 : Int32)), (.int (p2 &&& (3 : Int32)))])) _
        refine XS.icmpYes X0.here hx rfl (pc0 := 12) (pc' := 25) rfl (hb hby d1_12) rfl (feq (hc12_104 : ¬ ((p2 &&& (3 : Int32)) = (1 : Int32)))).2 (by decide) (by decide) ?_
        show Steps p.tables e below (s₁.setTop (mkF m 25 #[.val (.long q1), .second, .val (.int p2), .val (.int (p2 &&& (3 : Int32)))] [])) _
        refine XS.iloadN X0.here hx rfl (hb hby d1_25) rfl ?_
        show Steps p.tables e below (s₁.setTop (mkF m 26 #[.val (.long q1), .second, .val (.int p2), .val (.int (p2 &&& (3 : Int32)))] [(.int (p2 &&& (3 : Int32)))])) _
        refine XS.iconst X0.here hx rfl (hb hby d1_26) ?_
        show Steps p.tables e below (s₁.setTop (mkF m 27 #[.val (.long q1), .second, .val (.int p2), .val (.int (p2 &&& (3 : Int32)))] [(.int (2 : Int32)), (.int (p2 &&& (3 : Int32)))])) _
        exact kt
      by_cases hc27_106 : (p2 &&& (3 : Int32)) = (2 : Int32)
      · skip
        obtain ⟨fs, hr, hrun, hended, hW, hsame⟩ := X0.leave (v := some (.long ((-9223372036854775808 : Int64) + (q1 &&& (65535 : Int64))))) (fun h => by rw [Bd.returns] at h; cases h)
        refine ⟨_, _, pre105 _ ?_, hrun, hended, _, _, rfl, ?_, ⟨_, rfl⟩, hW, hsame.mono (by decide) (by decide)⟩
        · skip
          show Steps p.tables e below (s₁.setTop (mkF m 27 #[.val (.long q1), .second, .val (.int p2), .val (.int (p2 &&& (3 : Int32)))] [(.int (2 : Int32)), (.int (p2 &&& (3 : Int32)))])) _
          refine XS.icmpNo X0.here hx rfl (hb hby d1_27) rfl (teq (hc27_106 : (p2 &&& (3 : Int32)) = (2 : Int32))).2 ?_
          show Steps p.tables e below (s₁.setTop (mkF m 30 #[.val (.long q1), .second, .val (.int p2), .val (.int (p2 &&& (3 : Int32)))] [])) _
          refine X0.ldc2Long hx hown (mvT hZ (hw _ (List.mem_of_getElem? (i := 12) rfl))) (g := (mkF m 30 #[.val (.long q1), .second, .val (.int p2), .val (.int (p2 &&& (3 : Int32)))] [])) rfl (hb hby d1_30) _ ?_
          show Steps p.tables e below (s₁.setTop (mkF m 33 #[.val (.long q1), .second, .val (.int p2), .val (.int (p2 &&& (3 : Int32)))] [(.long (-9223372036854775808 : Int64))])) _
          refine XS.lloadN X0.here hx rfl (hb hby d1_33) rfl ?_
          show Steps p.tables e below (s₁.setTop (mkF m 34 #[.val (.long q1), .second, .val (.int p2), .val (.int (p2 &&& (3 : Int32)))] [(.long q1), (.long (-9223372036854775808 : Int64))])) _
          refine X0.ldc2Long hx hown (mvT hZ (hw _ (List.mem_of_getElem? (i := 16) rfl))) (g := (mkF m 34 #[.val (.long q1), .second, .val (.int p2), .val (.int (p2 &&& (3 : Int32)))] [(.long q1), (.long (-9223372036854775808 : Int64))])) rfl (hb hby d1_34) _ ?_
          show Steps p.tables e below (s₁.setTop (mkF m 37 #[.val (.long q1), .second, .val (.int p2), .val (.int (p2 &&& (3 : Int32)))] [(.long (65535 : Int64)), (.long q1), (.long (-9223372036854775808 : Int64))])) _
          refine XS.land X0.here hx rfl (hb hby d1_37) rfl ?_
          show Steps p.tables e below (s₁.setTop (mkF m 38 #[.val (.long q1), .second, .val (.int p2), .val (.int (p2 &&& (3 : Int32)))] [(.long (q1 &&& (65535 : Int64))), (.long (-9223372036854775808 : Int64))])) _
          refine XS.ladd X0.here hx rfl (hb hby d1_38) rfl ?_
          show Steps p.tables e below (s₁.setTop (mkF m 39 #[.val (.long q1), .second, .val (.int p2), .val (.int (p2 &&& (3 : Int32)))] [(.long ((-9223372036854775808 : Int64) + (q1 &&& (65535 : Int64))))])) _
          exact own_retJ X0 hx Bd.returns (hb hby d1_39) hr
        · show Q1 Z q1 p2 h0 n0 _ s₁.heap _
          rw [e0]
          exact ⟨(by simp only [own_pick, eq_false hc5_102, eq_false hc12_104, eq_true hc27_106, if_true, if_false, and_self, true_and, and_true, false_and, and_false]), N0, rfl⟩
      · skip
        obtain ⟨fs, hr, hrun, hended, hW, hsame⟩ := X0.leave (v := some (.long ((q1 &&& (255 : Int64)) - (128 : Int64)))) (fun h => by rw [Bd.returns] at h; cases h)
        refine ⟨_, _, pre105 _ ?_, hrun, hended, _, _, rfl, ?_, ⟨_, rfl⟩, hW, hsame.mono (by decide) (by decide)⟩
        · skip
          show Steps p.tables e below (s₁.setTop (mkF m 27 #[.val (.long q1), .second, .val (.int p2), .val (.int (p2 &&& (3 : Int32)))] [(.int (2 : Int32)), (.int (p2 &&& (3 : Int32)))])) _
          refine XS.icmpYes X0.here hx rfl (pc0 := 27) (pc' := 40) rfl (hb hby d1_27) rfl (feq (hc27_106 : ¬ ((p2 &&& (3 : Int32)) = (2 : Int32)))).2 (by decide) (by decide) ?_
          show Steps p.tables e below (s₁.setTop (mkF m 40 #[.val (.long q1), .second, .val (.int p2), .val (.int (p2 &&& (3 : Int32)))] [])) _
          refine XS.lloadN X0.here hx rfl (hb hby d1_40) rfl ?_
          show Steps p.tables e below (s₁.setTop (mkF m 41 #[.val (.long q1), .second, .val (.int p2), .val (.int (p2 &&& (3 : Int32)))] [(.long q1)])) _
          refine X0.ldc2Long hx hown (mvT hZ (hw _ (List.mem_of_getElem? (i := 14) rfl))) (g := (mkF m 41 #[.val (.long q1), .second, .val (.int p2), .val (.int (p2 &&& (3 : Int32)))] [(.long q1)])) rfl (hb hby d1_41) _ ?_
          show Steps p.tables e below (s₁.setTop (mkF m 44 #[.val (.long q1), .second, .val (.int p2), .val (.int (p2 &&& (3 : Int32)))] [(.long (255 : Int64)), (.long q1)])) _
          refine XS.land X0.here hx rfl (hb hby d1_44) rfl ?_
          show Steps p.tables e below (s₁.setTop (mkF m 45 #[.val (.long q1), .second, .val (.int p2), .val (.int (p2 &&& (3 : Int32)))] [(.long (q1 &&& (255 : Int64)))])) _
          refine X0.ldc2Long hx hown (mvT hZ (hw _ (List.mem_of_getElem? (i := 15) rfl))) (g := (mkF m 45 #[.val (.long q1), .second, .val (.int p2), .val (.int (p2 &&& (3 : Int32)))] [(.long (q1 &&& (255 : Int64)))])) rfl (hb hby d1_45) _ ?_
          show Steps p.tables e below (s₁.setTop (mkF m 48 #[.val (.long q1), .second, .val (.int p2), .val (.int (p2 &&& (3 : Int32)))] [(.long (128 : Int64)), (.long (q1 &&& (255 : Int64)))])) _
          refine XS.lsub X0.here hx rfl (hb hby d1_48) rfl ?_
          show Steps p.tables e below (s₁.setTop (mkF m 49 #[.val (.long q1), .second, .val (.int p2), .val (.int (p2 &&& (3 : Int32)))] [(.long ((q1 &&& (255 : Int64)) - (128 : Int64)))])) _
          exact own_retJ X0 hx Bd.returns (hb hby d1_49) hr
        · show Q1 Z q1 p2 h0 n0 _ s₁.heap _
          rw [e0]
          exact ⟨(by simp only [own_pick, eq_false hc5_102, eq_false hc12_104, eq_false hc27_106, if_true, if_false, and_self, true_and, and_true, false_and, and_false]), N0, rfl⟩
theorem d2_0 : decode prog_31_method_6_code 0 = .ok (.lload_n 0, 1) := by decide +kernel
theorem d2_1 : decode prog_31_method_6_code 1 = .ok (.ldc2_w 9, 3) := by decide +kernel
theorem d2_4 : decode prog_31_method_6_code 4 = .ok (.lcmp, 1) := by decide +kernel
theorem d2_5 : decode prog_31_method_6_code 5 = .ok (.ifCond .eq 11, 3) := by decide +kernel
theorem d2_16 : decode prog_31_method_6_code 16 = .ok (.ldc2_w 9, 3) := by decide +kernel
theorem d2_19 : decode prog_31_method_6_code 19 = .ok (.lreturn, 1) := by decide +kernel
theorem d2_8 : decode prog_31_method_6_code 8 = .ok (.lload_n 2, 1) := by decide +kernel
theorem d2_9 : decode prog_31_method_6_code 9 = .ok (.ldc2_w 9, 3) := by decide +kernel
theorem d2_12 : decode prog_31_method_6_code 12 = .ok (.lcmp, 1) := by decide +kernel
theorem d2_13 : decode prog_31_method_6_code 13 = .ok (.ifCond .ne 7, 3) := by decide +kernel
theorem d2_20 : decode prog_31_method_6_code 20 = .ok (.lload_n 0, 1) := by decide +kernel
theorem d2_21 : decode prog_31_method_6_code 21 = .ok (.lload_n 2, 1) := by decide +kernel
theorem d2_22 : decode prog_31_method_6_code 22 = .ok (.lsub, 1) := by decide +kernel
theorem d2_23 : decode prog_31_method_6_code 23 = .ok (.lstore 4, 2) := by decide +kernel
theorem d2_25 : decode prog_31_method_6_code 25 = .ok (.lload_n 0, 1) := by decide +kernel
theorem d2_26 : decode prog_31_method_6_code 26 = .ok (.lload_n 2, 1) := by decide +kernel
theorem d2_27 : decode prog_31_method_6_code 27 = .ok (.lxor, 1) := by decide +kernel
theorem d2_28 : decode prog_31_method_6_code 28 = .ok (.lload_n 0, 1) := by decide +kernel
theorem d2_29 : decode prog_31_method_6_code 29 = .ok (.lload 4, 2) := by decide +kernel
theorem d2_31 : decode prog_31_method_6_code 31 = .ok (.lxor, 1) := by decide +kernel
theorem d2_32 : decode prog_31_method_6_code 32 = .ok (.land, 1) := by decide +kernel
theorem d2_33 : decode prog_31_method_6_code 33 = .ok (.lconst 0, 1) := by decide +kernel
theorem d2_34 : decode prog_31_method_6_code 34 = .ok (.lcmp, 1) := by decide +kernel
theorem d2_35 : decode prog_31_method_6_code 35 = .ok (.ifCond .ge 7, 3) := by decide +kernel
theorem d2_38 : decode prog_31_method_6_code 38 = .ok (.ldc2_w 9, 3) := by decide +kernel
theorem d2_41 : decode prog_31_method_6_code 41 = .ok (.lreturn, 1) := by decide +kernel
theorem d2_42 : decode prog_31_method_6_code 42 = .ok (.lload 4, 2) := by decide +kernel
theorem d2_44 : decode prog_31_method_6_code 44 = .ok (.lreturn, 1) := by decide +kernel
theorem pn_com_example_prequential_prequential_exact_CheckedLong : plainName "com/example/prequential/prequential/exact/CheckedLong" = true := by first | (simp [plainName, overriddenIn]; done) | decide +kernel
theorem ef_2 (m : MethodId) (q1 : Int64) (q2 : Int64) : entryFrame m #[(.long q1), (.long q2)] 6 = mkF m 0 #[.val (.long q1), .second, .val (.long q2), .second, .unset, .unset] [] := by first | (simp [entryFrame, mkF, argsToLocals, Value.category]; done) | rfl
def Q2 (Z : State) (q1 : Int64) (q2 : Int64) (h0 : Heap) (n0 : Nat) (v : Option Value) (h : Heap) (L : List Loc) : Prop := v = some (.long (own_minus q1 q2)) ∧ Fr n0 L ∧ h = h0
set_option maxRecDepth 65536 in
set_option maxHeartbeats 40000000 in
theorem rm2 (l : Launch) (Z : State) (a0 : Array Value) (hw : ∀ d ∈ tables_1, d.before a0 Z = true) (ws : List Jvm.Cond) (q1 : Int64) (q2 : Int64) (h0 : Heap) (n0 : Nat) (Z0 : n0 ≤ h0.size) :
    MetFree l (⟨"com/example/prequential/prequential/exact/CheckedLong", "minus", "(JJ)J"⟩ : MethodName) (head1 (Jvm.Cond.code (⟨"com/example/prequential/prequential/exact/CheckedLong", "minus", "(JJ)J"⟩ : MethodName) prog_31_method_6_code 6 (some .long) :: ws) ({ frames := 0, cells := 0, slots := 0, locals := 0 } : Room)) (fun a U => a = #[(.long q1), (.long q2)] ∧ Z.Warmed39 U.vm ∧ U.heap = h0) (fun _ _ _ _ _ => True) (fun _ U o U' => ∃ v L, o = .returned v ∧ Q2 Z q1 q2 h0 n0 v U'.heap L ∧ FrameEnd U o U' L ({ frames := 0, cells := 0, slots := 0, locals := 0 } : Room).cells ({ frames := 0, cells := 0, slots := 0, locals := 0 } : Room).slots) := by
  refine MetFree.of_bodySF (plainFor_of_name pn_com_example_prequential_prequential_exact_CheckedLong) hisR ?_
  intro p e s m args below meth c s₁ Bd hml0 hP hK
  obtain ⟨rfl, hZ, hh⟩ := hP
  have hx := Bd.exec
  have hby := Bd.bytes
  have hml : c.maxLocals = 6 := hml0
  have hown : s.vm.findClass "com/example/prequential/prequential/exact/CheckedLong" = some m.cls := findClass_of_methodNamed Bd.named
  have hnm := (name_of_methodNamed Bd.named Bd.method).1
  have X0 : Stand p l e ({ frames := 0, cells := 0, slots := 0, locals := 0 } : Room) s m #[(.long q1), (.long q2)] below meth c s₁ [] 0 0 := Stand.of_body Bd
  have e0 : s₁.heap = h0 := by rw [← hh, Bd.state]; rfl
  have N0 := Fr.nil n0
  have pre0 : ∀ t, Steps p.tables e below (s₁.setTop (mkF m 0 #[.val (.long q1), .second, .val (.long q2), .second, .unset, .unset] [])) t → Steps p.tables e below (s₁.setTop (entryFrame m #[(.long q1), (.long q2)] 6)) t := fun t k => castTop (ef_2 m q1 q2) k
  have pre101 : ∀ t, Steps p.tables e below (s₁.setTop (mkF m 5 #[.val (.long q1), .second, .val (.long q2), .second, .unset, .unset] [(.int (lcmpW q1 (-9223372036854775808 : Int64)))])) t → Steps p.tables e below (s₁.setTop (entryFrame m #[(.long q1), (.long q2)] 6)) t := fun t kt => by
    refine pre0 t ?_
    show Steps p.tables e below (s₁.setTop (mkF m 0 #[.val (.long q1), .second, .val (.long q2), .second, .unset, .unset] [])) _
    refine XS.lloadN X0.here hx rfl (hb hby d2_0) rfl ?_
    show Steps p.tables e below (s₁.setTop (mkF m 1 #[.val (.long q1), .second, .val (.long q2), .second, .unset, .unset] [(.long q1)])) _
    refine X0.ldc2Long hx hown (mvT hZ (hw _ (List.mem_of_getElem? (i := 8) rfl))) (g := (mkF m 1 #[.val (.long q1), .second, .val (.long q2), .second, .unset, .unset] [(.long q1)])) rfl (hb hby d2_1) _ ?_
    show Steps p.tables e below (s₁.setTop (mkF m 4 #[.val (.long q1), .second, .val (.long q2), .second, .unset, .unset] [(.long (-9223372036854775808 : Int64)), (.long q1)])) _
    refine XS.lcmp X0.here hx rfl (hb hby d2_4) rfl ?_
    show Steps p.tables e below (s₁.setTop (mkF m 5 #[.val (.long q1), .second, .val (.long q2), .second, .unset, .unset] [(.int (lcmpW q1 (-9223372036854775808 : Int64)))])) _
    exact kt
  by_cases hc5_102 : (lcmpW q1 (-9223372036854775808 : Int64)) = (0 : Int32)
  · skip
    obtain ⟨fs, hr, hrun, hended, hW, hsame⟩ := X0.leave (v := some (.long (-9223372036854775808 : Int64))) (fun h => by rw [Bd.returns] at h; cases h)
    refine ⟨_, _, pre101 _ ?_, hrun, hended, _, _, rfl, ?_, ⟨_, rfl⟩, hW, hsame.mono (by decide) (by decide)⟩
    · skip
      show Steps p.tables e below (s₁.setTop (mkF m 5 #[.val (.long q1), .second, .val (.long q2), .second, .unset, .unset] [(.int (lcmpW q1 (-9223372036854775808 : Int64)))])) _
      refine XS.ifYes X0.here hx rfl (pc0 := 5) (pc' := 16) rfl (hb hby d2_5) rfl ((if0 _ _).trans (teq (hc5_102 : (lcmpW q1 (-9223372036854775808 : Int64)) = (0 : Int32))).1) (by decide) (by decide) ?_
      show Steps p.tables e below (s₁.setTop (mkF m 16 #[.val (.long q1), .second, .val (.long q2), .second, .unset, .unset] [])) _
      refine X0.ldc2Long hx hown (mvT hZ (hw _ (List.mem_of_getElem? (i := 8) rfl))) (g := (mkF m 16 #[.val (.long q1), .second, .val (.long q2), .second, .unset, .unset] [])) rfl (hb hby d2_16) _ ?_
      show Steps p.tables e below (s₁.setTop (mkF m 19 #[.val (.long q1), .second, .val (.long q2), .second, .unset, .unset] [(.long (-9223372036854775808 : Int64))])) _
      exact own_retJ X0 hx Bd.returns (hb hby d2_19) hr
    · show Q2 Z q1 q2 h0 n0 _ s₁.heap _
      rw [e0]
      exact ⟨(by simp only [own_minus, eq_true hc5_102, if_true, if_false, and_self, true_and, and_true, false_and, and_false]), N0, rfl⟩
  · skip
    have pre103 : ∀ t, Steps p.tables e below (s₁.setTop (mkF m 13 #[.val (.long q1), .second, .val (.long q2), .second, .unset, .unset] [(.int (lcmpW q2 (-9223372036854775808 : Int64)))])) t → Steps p.tables e below (s₁.setTop (entryFrame m #[(.long q1), (.long q2)] 6)) t := fun t kt => by
      refine pre101 t ?_
      show Steps p.tables e below (s₁.setTop (mkF m 5 #[.val (.long q1), .second, .val (.long q2), .second, .unset, .unset] [(.int (lcmpW q1 (-9223372036854775808 : Int64)))])) _
      refine XS.ifNo X0.here hx rfl (hb hby d2_5) rfl ((if0 _ _).trans (feq (hc5_102 : ¬ ((lcmpW q1 (-9223372036854775808 : Int64)) = (0 : Int32)))).1) ?_
      show Steps p.tables e below (s₁.setTop (mkF m 8 #[.val (.long q1), .second, .val (.long q2), .second, .unset, .unset] [])) _
      refine XS.lloadN X0.here hx rfl (hb hby d2_8) rfl ?_
      show Steps p.tables e below (s₁.setTop (mkF m 9 #[.val (.long q1), .second, .val (.long q2), .second, .unset, .unset] [(.long q2)])) _
      refine X0.ldc2Long hx hown (mvT hZ (hw _ (List.mem_of_getElem? (i := 8) rfl))) (g := (mkF m 9 #[.val (.long q1), .second, .val (.long q2), .second, .unset, .unset] [(.long q2)])) rfl (hb hby d2_9) _ ?_
      show Steps p.tables e below (s₁.setTop (mkF m 12 #[.val (.long q1), .second, .val (.long q2), .second, .unset, .unset] [(.long (-9223372036854775808 : Int64)), (.long q2)])) _
      refine XS.lcmp X0.here hx rfl (hb hby d2_12) rfl ?_
      show Steps p.tables e below (s₁.setTop (mkF m 13 #[.val (.long q1), .second, .val (.long q2), .second, .unset, .unset] [(.int (lcmpW q2 (-9223372036854775808 : Int64)))])) _
      exact kt
    by_cases hc13_104 : (lcmpW q2 (-9223372036854775808 : Int64)) = (0 : Int32)
    · skip
      obtain ⟨fs, hr, hrun, hended, hW, hsame⟩ := X0.leave (v := some (.long (-9223372036854775808 : Int64))) (fun h => by rw [Bd.returns] at h; cases h)
      refine ⟨_, _, pre103 _ ?_, hrun, hended, _, _, rfl, ?_, ⟨_, rfl⟩, hW, hsame.mono (by decide) (by decide)⟩
      · skip
        show Steps p.tables e below (s₁.setTop (mkF m 13 #[.val (.long q1), .second, .val (.long q2), .second, .unset, .unset] [(.int (lcmpW q2 (-9223372036854775808 : Int64)))])) _
        refine XS.ifNo X0.here hx rfl (hb hby d2_13) rfl ((if0 _ _).trans (teq (hc13_104 : (lcmpW q2 (-9223372036854775808 : Int64)) = (0 : Int32))).2) ?_
        show Steps p.tables e below (s₁.setTop (mkF m 16 #[.val (.long q1), .second, .val (.long q2), .second, .unset, .unset] [])) _
        refine X0.ldc2Long hx hown (mvT hZ (hw _ (List.mem_of_getElem? (i := 8) rfl))) (g := (mkF m 16 #[.val (.long q1), .second, .val (.long q2), .second, .unset, .unset] [])) rfl (hb hby d2_16) _ ?_
        show Steps p.tables e below (s₁.setTop (mkF m 19 #[.val (.long q1), .second, .val (.long q2), .second, .unset, .unset] [(.long (-9223372036854775808 : Int64))])) _
        exact own_retJ X0 hx Bd.returns (hb hby d2_19) hr
      · show Q2 Z q1 q2 h0 n0 _ s₁.heap _
        rw [e0]
        exact ⟨(by simp only [own_minus, eq_false hc5_102, eq_true hc13_104, if_true, if_false, and_self, true_and, and_true, false_and, and_false]), N0, rfl⟩
    · skip
      have pre105 : ∀ t, Steps p.tables e below (s₁.setTop (mkF m 35 #[.val (.long q1), .second, .val (.long q2), .second, .val (.long (q1 - q2)), .second] [(.int (lcmpW ((q1 ^^^ q2) &&& (q1 ^^^ (q1 - q2))) (0 : Int64)))])) t → Steps p.tables e below (s₁.setTop (entryFrame m #[(.long q1), (.long q2)] 6)) t := fun t kt => by
        refine pre103 t ?_
        show Steps p.tables e below (s₁.setTop (mkF m 13 #[.val (.long q1), .second, .val (.long q2), .second, .unset, .unset] [(.int (lcmpW q2 (-9223372036854775808 : Int64)))])) _
        refine XS.ifYes X0.here hx rfl (pc0 := 13) (pc' := 20) rfl (hb hby d2_13) rfl ((if0 _ _).trans (feq (hc13_104 : ¬ ((lcmpW q2 (-9223372036854775808 : Int64)) = (0 : Int32)))).2) (by decide) (by decide) ?_
        show Steps p.tables e below (s₁.setTop (mkF m 20 #[.val (.long q1), .second, .val (.long q2), .second, .unset, .unset] [])) _
        refine XS.lloadN X0.here hx rfl (hb hby d2_20) rfl ?_
        show Steps p.tables e below (s₁.setTop (mkF m 21 #[.val (.long q1), .second, .val (.long q2), .second, .unset, .unset] [(.long q1)])) _
        refine XS.lloadN X0.here hx rfl (hb hby d2_21) rfl ?_
        show Steps p.tables e below (s₁.setTop (mkF m 22 #[.val (.long q1), .second, .val (.long q2), .second, .unset, .unset] [(.long q2), (.long q1)])) _
        refine XS.lsub X0.here hx rfl (hb hby d2_22) rfl ?_
        show Steps p.tables e below (s₁.setTop (mkF m 23 #[.val (.long q1), .second, .val (.long q2), .second, .unset, .unset] [(.long (q1 - q2))])) _
        refine XS.lstore X0.here hx rfl (hb hby d2_23) rfl (l' := #[.val (.long q1), .second, .val (.long q2), .second, .val (.long (q1 - q2)), .second]) rfl ?_
        show Steps p.tables e below (s₁.setTop (mkF m 25 #[.val (.long q1), .second, .val (.long q2), .second, .val (.long (q1 - q2)), .second] [])) _
        refine XS.lloadN X0.here hx rfl (hb hby d2_25) rfl ?_
        show Steps p.tables e below (s₁.setTop (mkF m 26 #[.val (.long q1), .second, .val (.long q2), .second, .val (.long (q1 - q2)), .second] [(.long q1)])) _
        refine XS.lloadN X0.here hx rfl (hb hby d2_26) rfl ?_
        show Steps p.tables e below (s₁.setTop (mkF m 27 #[.val (.long q1), .second, .val (.long q2), .second, .val (.long (q1 - q2)), .second] [(.long q2), (.long q1)])) _
        refine XS.lxor X0.here hx rfl (hb hby d2_27) rfl ?_
        show Steps p.tables e below (s₁.setTop (mkF m 28 #[.val (.long q1), .second, .val (.long q2), .second, .val (.long (q1 - q2)), .second] [(.long (q1 ^^^ q2))])) _
        refine XS.lloadN X0.here hx rfl (hb hby d2_28) rfl ?_
        show Steps p.tables e below (s₁.setTop (mkF m 29 #[.val (.long q1), .second, .val (.long q2), .second, .val (.long (q1 - q2)), .second] [(.long q1), (.long (q1 ^^^ q2))])) _
        refine XS.lload X0.here hx rfl (hb hby d2_29) rfl ?_
        show Steps p.tables e below (s₁.setTop (mkF m 31 #[.val (.long q1), .second, .val (.long q2), .second, .val (.long (q1 - q2)), .second] [(.long (q1 - q2)), (.long q1), (.long (q1 ^^^ q2))])) _
        refine XS.lxor X0.here hx rfl (hb hby d2_31) rfl ?_
        show Steps p.tables e below (s₁.setTop (mkF m 32 #[.val (.long q1), .second, .val (.long q2), .second, .val (.long (q1 - q2)), .second] [(.long (q1 ^^^ (q1 - q2))), (.long (q1 ^^^ q2))])) _
        refine XS.land X0.here hx rfl (hb hby d2_32) rfl ?_
        show Steps p.tables e below (s₁.setTop (mkF m 33 #[.val (.long q1), .second, .val (.long q2), .second, .val (.long (q1 - q2)), .second] [(.long ((q1 ^^^ q2) &&& (q1 ^^^ (q1 - q2))))])) _
        refine XS.lconst X0.here hx rfl (hb hby d2_33) ?_
        show Steps p.tables e below (s₁.setTop (mkF m 34 #[.val (.long q1), .second, .val (.long q2), .second, .val (.long (q1 - q2)), .second] [(.long (0 : Int64)), (.long ((q1 ^^^ q2) &&& (q1 ^^^ (q1 - q2))))])) _
        refine XS.lcmp X0.here hx rfl (hb hby d2_34) rfl ?_
        show Steps p.tables e below (s₁.setTop (mkF m 35 #[.val (.long q1), .second, .val (.long q2), .second, .val (.long (q1 - q2)), .second] [(.int (lcmpW ((q1 ^^^ q2) &&& (q1 ^^^ (q1 - q2))) (0 : Int64)))])) _
        exact kt
      by_cases hc35_106 : (lcmpW ((q1 ^^^ q2) &&& (q1 ^^^ (q1 - q2))) (0 : Int64)) < (0 : Int32)
      · skip
        obtain ⟨fs, hr, hrun, hended, hW, hsame⟩ := X0.leave (v := some (.long (-9223372036854775808 : Int64))) (fun h => by rw [Bd.returns] at h; cases h)
        refine ⟨_, _, pre105 _ ?_, hrun, hended, _, _, rfl, ?_, ⟨_, rfl⟩, hW, hsame.mono (by decide) (by decide)⟩
        · skip
          show Steps p.tables e below (s₁.setTop (mkF m 35 #[.val (.long q1), .second, .val (.long q2), .second, .val (.long (q1 - q2)), .second] [(.int (lcmpW ((q1 ^^^ q2) &&& (q1 ^^^ (q1 - q2))) (0 : Int64)))])) _
          refine XS.ifNo X0.here hx rfl (hb hby d2_35) rfl ((if0 _ _).trans (tlt (hc35_106 : (lcmpW ((q1 ^^^ q2) &&& (q1 ^^^ (q1 - q2))) (0 : Int64)) < (0 : Int32))).2.1) ?_
          show Steps p.tables e below (s₁.setTop (mkF m 38 #[.val (.long q1), .second, .val (.long q2), .second, .val (.long (q1 - q2)), .second] [])) _
          refine X0.ldc2Long hx hown (mvT hZ (hw _ (List.mem_of_getElem? (i := 8) rfl))) (g := (mkF m 38 #[.val (.long q1), .second, .val (.long q2), .second, .val (.long (q1 - q2)), .second] [])) rfl (hb hby d2_38) _ ?_
          show Steps p.tables e below (s₁.setTop (mkF m 41 #[.val (.long q1), .second, .val (.long q2), .second, .val (.long (q1 - q2)), .second] [(.long (-9223372036854775808 : Int64))])) _
          exact own_retJ X0 hx Bd.returns (hb hby d2_41) hr
        · show Q2 Z q1 q2 h0 n0 _ s₁.heap _
          rw [e0]
          exact ⟨(by simp only [own_minus, eq_false hc5_102, eq_false hc13_104, eq_true hc35_106, if_true, if_false, and_self, true_and, and_true, false_and, and_false]), N0, rfl⟩
      · skip
        obtain ⟨fs, hr, hrun, hended, hW, hsame⟩ := X0.leave (v := some (.long (q1 - q2))) (fun h => by rw [Bd.returns] at h; cases h)
        refine ⟨_, _, pre105 _ ?_, hrun, hended, _, _, rfl, ?_, ⟨_, rfl⟩, hW, hsame.mono (by decide) (by decide)⟩
        · skip
          show Steps p.tables e below (s₁.setTop (mkF m 35 #[.val (.long q1), .second, .val (.long q2), .second, .val (.long (q1 - q2)), .second] [(.int (lcmpW ((q1 ^^^ q2) &&& (q1 ^^^ (q1 - q2))) (0 : Int64)))])) _
          refine XS.ifYes X0.here hx rfl (pc0 := 35) (pc' := 42) rfl (hb hby d2_35) rfl ((if0 _ _).trans (flt (hc35_106 : ¬ ((lcmpW ((q1 ^^^ q2) &&& (q1 ^^^ (q1 - q2))) (0 : Int64)) < (0 : Int32)))).2.1) (by decide) (by decide) ?_
          show Steps p.tables e below (s₁.setTop (mkF m 42 #[.val (.long q1), .second, .val (.long q2), .second, .val (.long (q1 - q2)), .second] [])) _
          refine XS.lload X0.here hx rfl (hb hby d2_42) rfl ?_
          show Steps p.tables e below (s₁.setTop (mkF m 44 #[.val (.long q1), .second, .val (.long q2), .second, .val (.long (q1 - q2)), .second] [(.long (q1 - q2))])) _
          exact own_retJ X0 hx Bd.returns (hb hby d2_44) hr
        · show Q2 Z q1 q2 h0 n0 _ s₁.heap _
          rw [e0]
          exact ⟨(by simp only [own_minus, eq_false hc5_102, eq_false hc13_104, eq_false hc35_106, if_true, if_false, and_self, true_and, and_true, false_and, and_false]), N0, rfl⟩
theorem d3_0 : decode method_3_code 0 = .ok (.lload_n 0, 1) := by decide +kernel
theorem d3_1 : decode method_3_code 1 = .ok (.ldc2_w 13, 3) := by decide +kernel
theorem d3_4 : decode method_3_code 4 = .ok (.lcmp, 1) := by decide +kernel
theorem d3_5 : decode method_3_code 5 = .ok (.ifCond .eq 11, 3) := by decide +kernel
theorem d3_16 : decode method_3_code 16 = .ok (.ldc2_w 13, 3) := by decide +kernel
theorem d3_19 : decode method_3_code 19 = .ok (.lreturn, 1) := by decide +kernel
theorem d3_8 : decode method_3_code 8 = .ok (.lload_n 2, 1) := by decide +kernel
theorem d3_9 : decode method_3_code 9 = .ok (.ldc2_w 13, 3) := by decide +kernel
theorem d3_12 : decode method_3_code 12 = .ok (.lcmp, 1) := by decide +kernel
theorem d3_13 : decode method_3_code 13 = .ok (.ifCond .ne 7, 3) := by decide +kernel
theorem d3_20 : decode method_3_code 20 = .ok (.lload_n 2, 1) := by decide +kernel
theorem d3_21 : decode method_3_code 21 = .ok (.lconst 0, 1) := by decide +kernel
theorem d3_22 : decode method_3_code 22 = .ok (.lcmp, 1) := by decide +kernel
theorem d3_23 : decode method_3_code 23 = .ok (.ifCond .ge 17, 3) := by decide +kernel
theorem d3_26 : decode method_3_code 26 = .ok (.lload_n 0, 1) := by decide +kernel
theorem d3_27 : decode method_3_code 27 = .ok (.ldc2_w 9, 3) := by decide +kernel
theorem d3_30 : decode method_3_code 30 = .ok (.lload_n 2, 1) := by decide +kernel
theorem d3_31 : decode method_3_code 31 = .ok (.ladd, 1) := by decide +kernel
theorem d3_32 : decode method_3_code 32 = .ok (.lcmp, 1) := by decide +kernel
theorem d3_33 : decode method_3_code 33 = .ok (.ifCond .le 7, 3) := by decide +kernel
theorem d3_36 : decode method_3_code 36 = .ok (.ldc2_w 13, 3) := by decide +kernel
theorem d3_39 : decode method_3_code 39 = .ok (.lreturn, 1) := by decide +kernel
theorem d3_40 : decode method_3_code 40 = .ok (.lload_n 2, 1) := by decide +kernel
theorem d3_41 : decode method_3_code 41 = .ok (.lconst 0, 1) := by decide +kernel
theorem d3_42 : decode method_3_code 42 = .ok (.lcmp, 1) := by decide +kernel
theorem d3_43 : decode method_3_code 43 = .ok (.ifCond .le 17, 3) := by decide +kernel
theorem d3_46 : decode method_3_code 46 = .ok (.lload_n 0, 1) := by decide +kernel
theorem d3_47 : decode method_3_code 47 = .ok (.lload_n 2, 1) := by decide +kernel
theorem d3_48 : decode method_3_code 48 = .ok (.ldc2_w 9, 3) := by decide +kernel
theorem d3_51 : decode method_3_code 51 = .ok (.lsub, 1) := by decide +kernel
theorem d3_52 : decode method_3_code 52 = .ok (.lcmp, 1) := by decide +kernel
theorem d3_53 : decode method_3_code 53 = .ok (.ifCond .ge 7, 3) := by decide +kernel
theorem d3_56 : decode method_3_code 56 = .ok (.ldc2_w 13, 3) := by decide +kernel
theorem d3_59 : decode method_3_code 59 = .ok (.lreturn, 1) := by decide +kernel
theorem d3_60 : decode method_3_code 60 = .ok (.lload_n 0, 1) := by decide +kernel
theorem d3_61 : decode method_3_code 61 = .ok (.lload_n 2, 1) := by decide +kernel
theorem d3_62 : decode method_3_code 62 = .ok (.lsub, 1) := by decide +kernel
theorem d3_63 : decode method_3_code 63 = .ok (.lreturn, 1) := by decide +kernel
theorem ef_3 (m : MethodId) (q1 : Int64) (q2 : Int64) : entryFrame m #[(.long q1), (.long q2)] 4 = mkF m 0 #[.val (.long q1), .second, .val (.long q2), .second] [] := by first | (simp [entryFrame, mkF, argsToLocals, Value.category]; done) | rfl
def Q3 (Z : State) (q1 : Int64) (q2 : Int64) (h0 : Heap) (n0 : Nat) (v : Option Value) (h : Heap) (L : List Loc) : Prop := v = some (.long (own_exp q1 q2)) ∧ Fr n0 L ∧ h = h0
set_option maxRecDepth 65536 in
set_option maxHeartbeats 40000000 in
theorem rm3 (l : Launch) (Z : State) (a0 : Array Value) (hw : ∀ d ∈ tables_1, d.before a0 Z = true) (ws : List Jvm.Cond) (q1 : Int64) (q2 : Int64) (h0 : Heap) (n0 : Nat) (Z0 : n0 ≤ h0.size) :
    MetFree l (⟨"com/example/prequential/prequential/exact/CheckedLongMinusPinLaw", "expected", "(JJ)J"⟩ : MethodName) (head1 (Jvm.Cond.code (⟨"com/example/prequential/prequential/exact/CheckedLongMinusPinLaw", "expected", "(JJ)J"⟩ : MethodName) method_3_code 4 (some .long) :: ws) ({ frames := 0, cells := 0, slots := 0, locals := 0 } : Room)) (fun a U => a = #[(.long q1), (.long q2)] ∧ Z.Warmed39 U.vm ∧ U.heap = h0) (fun _ _ _ _ _ => True) (fun _ U o U' => ∃ v L, o = .returned v ∧ Q3 Z q1 q2 h0 n0 v U'.heap L ∧ FrameEnd U o U' L ({ frames := 0, cells := 0, slots := 0, locals := 0 } : Room).cells ({ frames := 0, cells := 0, slots := 0, locals := 0 } : Room).slots) := by
  refine MetFree.of_bodySF (plainFor_of_name pn_com_example_prequential_prequential_exact_CheckedLongMinusPinLaw) hisR ?_
  intro p e s m args below meth c s₁ Bd hml0 hP hK
  obtain ⟨rfl, hZ, hh⟩ := hP
  have hx := Bd.exec
  have hby := Bd.bytes
  have hml : c.maxLocals = 4 := hml0
  have hown : s.vm.findClass "com/example/prequential/prequential/exact/CheckedLongMinusPinLaw" = some m.cls := findClass_of_methodNamed Bd.named
  have hnm := (name_of_methodNamed Bd.named Bd.method).1
  have X0 : Stand p l e ({ frames := 0, cells := 0, slots := 0, locals := 0 } : Room) s m #[(.long q1), (.long q2)] below meth c s₁ [] 0 0 := Stand.of_body Bd
  have e0 : s₁.heap = h0 := by rw [← hh, Bd.state]; rfl
  have N0 := Fr.nil n0
  have pre0 : ∀ t, Steps p.tables e below (s₁.setTop (mkF m 0 #[.val (.long q1), .second, .val (.long q2), .second] [])) t → Steps p.tables e below (s₁.setTop (entryFrame m #[(.long q1), (.long q2)] 4)) t := fun t k => castTop (ef_3 m q1 q2) k
  have pre101 : ∀ t, Steps p.tables e below (s₁.setTop (mkF m 5 #[.val (.long q1), .second, .val (.long q2), .second] [(.int (lcmpW q1 (-9223372036854775808 : Int64)))])) t → Steps p.tables e below (s₁.setTop (entryFrame m #[(.long q1), (.long q2)] 4)) t := fun t kt => by
    refine pre0 t ?_
    show Steps p.tables e below (s₁.setTop (mkF m 0 #[.val (.long q1), .second, .val (.long q2), .second] [])) _
    refine XS.lloadN X0.here hx rfl (hb hby d3_0) rfl ?_
    show Steps p.tables e below (s₁.setTop (mkF m 1 #[.val (.long q1), .second, .val (.long q2), .second] [(.long q1)])) _
    refine X0.ldc2Long hx hown (mvT hZ (hw _ (List.mem_of_getElem? (i := 12) rfl))) (g := (mkF m 1 #[.val (.long q1), .second, .val (.long q2), .second] [(.long q1)])) rfl (hb hby d3_1) _ ?_
    show Steps p.tables e below (s₁.setTop (mkF m 4 #[.val (.long q1), .second, .val (.long q2), .second] [(.long (-9223372036854775808 : Int64)), (.long q1)])) _
    refine XS.lcmp X0.here hx rfl (hb hby d3_4) rfl ?_
    show Steps p.tables e below (s₁.setTop (mkF m 5 #[.val (.long q1), .second, .val (.long q2), .second] [(.int (lcmpW q1 (-9223372036854775808 : Int64)))])) _
    exact kt
  by_cases hc5_102 : (lcmpW q1 (-9223372036854775808 : Int64)) = (0 : Int32)
  · skip
    obtain ⟨fs, hr, hrun, hended, hW, hsame⟩ := X0.leave (v := some (.long (-9223372036854775808 : Int64))) (fun h => by rw [Bd.returns] at h; cases h)
    refine ⟨_, _, pre101 _ ?_, hrun, hended, _, _, rfl, ?_, ⟨_, rfl⟩, hW, hsame.mono (by decide) (by decide)⟩
    · skip
      show Steps p.tables e below (s₁.setTop (mkF m 5 #[.val (.long q1), .second, .val (.long q2), .second] [(.int (lcmpW q1 (-9223372036854775808 : Int64)))])) _
      refine XS.ifYes X0.here hx rfl (pc0 := 5) (pc' := 16) rfl (hb hby d3_5) rfl ((if0 _ _).trans (teq (hc5_102 : (lcmpW q1 (-9223372036854775808 : Int64)) = (0 : Int32))).1) (by decide) (by decide) ?_
      show Steps p.tables e below (s₁.setTop (mkF m 16 #[.val (.long q1), .second, .val (.long q2), .second] [])) _
      refine X0.ldc2Long hx hown (mvT hZ (hw _ (List.mem_of_getElem? (i := 12) rfl))) (g := (mkF m 16 #[.val (.long q1), .second, .val (.long q2), .second] [])) rfl (hb hby d3_16) _ ?_
      show Steps p.tables e below (s₁.setTop (mkF m 19 #[.val (.long q1), .second, .val (.long q2), .second] [(.long (-9223372036854775808 : Int64))])) _
      exact own_retJ X0 hx Bd.returns (hb hby d3_19) hr
    · show Q3 Z q1 q2 h0 n0 _ s₁.heap _
      rw [e0]
      exact ⟨(by simp only [own_exp, eq_true hc5_102, if_true, if_false, and_self, true_and, and_true, false_and, and_false]), N0, rfl⟩
  · skip
    have pre103 : ∀ t, Steps p.tables e below (s₁.setTop (mkF m 13 #[.val (.long q1), .second, .val (.long q2), .second] [(.int (lcmpW q2 (-9223372036854775808 : Int64)))])) t → Steps p.tables e below (s₁.setTop (entryFrame m #[(.long q1), (.long q2)] 4)) t := fun t kt => by
      refine pre101 t ?_
      show Steps p.tables e below (s₁.setTop (mkF m 5 #[.val (.long q1), .second, .val (.long q2), .second] [(.int (lcmpW q1 (-9223372036854775808 : Int64)))])) _
      refine XS.ifNo X0.here hx rfl (hb hby d3_5) rfl ((if0 _ _).trans (feq (hc5_102 : ¬ ((lcmpW q1 (-9223372036854775808 : Int64)) = (0 : Int32)))).1) ?_
      show Steps p.tables e below (s₁.setTop (mkF m 8 #[.val (.long q1), .second, .val (.long q2), .second] [])) _
      refine XS.lloadN X0.here hx rfl (hb hby d3_8) rfl ?_
      show Steps p.tables e below (s₁.setTop (mkF m 9 #[.val (.long q1), .second, .val (.long q2), .second] [(.long q2)])) _
      refine X0.ldc2Long hx hown (mvT hZ (hw _ (List.mem_of_getElem? (i := 12) rfl))) (g := (mkF m 9 #[.val (.long q1), .second, .val (.long q2), .second] [(.long q2)])) rfl (hb hby d3_9) _ ?_
      show Steps p.tables e below (s₁.setTop (mkF m 12 #[.val (.long q1), .second, .val (.long q2), .second] [(.long (-9223372036854775808 : Int64)), (.long q2)])) _
      refine XS.lcmp X0.here hx rfl (hb hby d3_12) rfl ?_
      show Steps p.tables e below (s₁.setTop (mkF m 13 #[.val (.long q1), .second, .val (.long q2), .second] [(.int (lcmpW q2 (-9223372036854775808 : Int64)))])) _
      exact kt
    by_cases hc13_104 : (lcmpW q2 (-9223372036854775808 : Int64)) = (0 : Int32)
    · skip
      obtain ⟨fs, hr, hrun, hended, hW, hsame⟩ := X0.leave (v := some (.long (-9223372036854775808 : Int64))) (fun h => by rw [Bd.returns] at h; cases h)
      refine ⟨_, _, pre103 _ ?_, hrun, hended, _, _, rfl, ?_, ⟨_, rfl⟩, hW, hsame.mono (by decide) (by decide)⟩
      · skip
        show Steps p.tables e below (s₁.setTop (mkF m 13 #[.val (.long q1), .second, .val (.long q2), .second] [(.int (lcmpW q2 (-9223372036854775808 : Int64)))])) _
        refine XS.ifNo X0.here hx rfl (hb hby d3_13) rfl ((if0 _ _).trans (teq (hc13_104 : (lcmpW q2 (-9223372036854775808 : Int64)) = (0 : Int32))).2) ?_
        show Steps p.tables e below (s₁.setTop (mkF m 16 #[.val (.long q1), .second, .val (.long q2), .second] [])) _
        refine X0.ldc2Long hx hown (mvT hZ (hw _ (List.mem_of_getElem? (i := 12) rfl))) (g := (mkF m 16 #[.val (.long q1), .second, .val (.long q2), .second] [])) rfl (hb hby d3_16) _ ?_
        show Steps p.tables e below (s₁.setTop (mkF m 19 #[.val (.long q1), .second, .val (.long q2), .second] [(.long (-9223372036854775808 : Int64))])) _
        exact own_retJ X0 hx Bd.returns (hb hby d3_19) hr
      · show Q3 Z q1 q2 h0 n0 _ s₁.heap _
        rw [e0]
        exact ⟨(by simp only [own_exp, eq_false hc5_102, eq_true hc13_104, if_true, if_false, and_self, true_and, and_true, false_and, and_false]), N0, rfl⟩
    · skip
      have pre105 : ∀ t, Steps p.tables e below (s₁.setTop (mkF m 23 #[.val (.long q1), .second, .val (.long q2), .second] [(.int (lcmpW q2 (0 : Int64)))])) t → Steps p.tables e below (s₁.setTop (entryFrame m #[(.long q1), (.long q2)] 4)) t := fun t kt => by
        refine pre103 t ?_
        show Steps p.tables e below (s₁.setTop (mkF m 13 #[.val (.long q1), .second, .val (.long q2), .second] [(.int (lcmpW q2 (-9223372036854775808 : Int64)))])) _
        refine XS.ifYes X0.here hx rfl (pc0 := 13) (pc' := 20) rfl (hb hby d3_13) rfl ((if0 _ _).trans (feq (hc13_104 : ¬ ((lcmpW q2 (-9223372036854775808 : Int64)) = (0 : Int32)))).2) (by decide) (by decide) ?_
        show Steps p.tables e below (s₁.setTop (mkF m 20 #[.val (.long q1), .second, .val (.long q2), .second] [])) _
        refine XS.lloadN X0.here hx rfl (hb hby d3_20) rfl ?_
        show Steps p.tables e below (s₁.setTop (mkF m 21 #[.val (.long q1), .second, .val (.long q2), .second] [(.long q2)])) _
        refine XS.lconst X0.here hx rfl (hb hby d3_21) ?_
        show Steps p.tables e below (s₁.setTop (mkF m 22 #[.val (.long q1), .second, .val (.long q2), .second] [(.long (0 : Int64)), (.long q2)])) _
        refine XS.lcmp X0.here hx rfl (hb hby d3_22) rfl ?_
        show Steps p.tables e below (s₁.setTop (mkF m 23 #[.val (.long q1), .second, .val (.long q2), .second] [(.int (lcmpW q2 (0 : Int64)))])) _
        exact kt
      by_cases hc23_106 : (lcmpW q2 (0 : Int64)) < (0 : Int32)
      · skip
        have pre107 : ∀ t, Steps p.tables e below (s₁.setTop (mkF m 33 #[.val (.long q1), .second, .val (.long q2), .second] [(.int (lcmpW q1 ((9223372036854775807 : Int64) + q2)))])) t → Steps p.tables e below (s₁.setTop (entryFrame m #[(.long q1), (.long q2)] 4)) t := fun t kt => by
          refine pre105 t ?_
          show Steps p.tables e below (s₁.setTop (mkF m 23 #[.val (.long q1), .second, .val (.long q2), .second] [(.int (lcmpW q2 (0 : Int64)))])) _
          refine XS.ifNo X0.here hx rfl (hb hby d3_23) rfl ((if0 _ _).trans (tlt (hc23_106 : (lcmpW q2 (0 : Int64)) < (0 : Int32))).2.1) ?_
          show Steps p.tables e below (s₁.setTop (mkF m 26 #[.val (.long q1), .second, .val (.long q2), .second] [])) _
          refine XS.lloadN X0.here hx rfl (hb hby d3_26) rfl ?_
          show Steps p.tables e below (s₁.setTop (mkF m 27 #[.val (.long q1), .second, .val (.long q2), .second] [(.long q1)])) _
          refine X0.ldc2Long hx hown (mvT hZ (hw _ (List.mem_of_getElem? (i := 13) rfl))) (g := (mkF m 27 #[.val (.long q1), .second, .val (.long q2), .second] [(.long q1)])) rfl (hb hby d3_27) _ ?_
          show Steps p.tables e below (s₁.setTop (mkF m 30 #[.val (.long q1), .second, .val (.long q2), .second] [(.long (9223372036854775807 : Int64)), (.long q1)])) _
          refine XS.lloadN X0.here hx rfl (hb hby d3_30) rfl ?_
          show Steps p.tables e below (s₁.setTop (mkF m 31 #[.val (.long q1), .second, .val (.long q2), .second] [(.long q2), (.long (9223372036854775807 : Int64)), (.long q1)])) _
          refine XS.ladd X0.here hx rfl (hb hby d3_31) rfl ?_
          show Steps p.tables e below (s₁.setTop (mkF m 32 #[.val (.long q1), .second, .val (.long q2), .second] [(.long ((9223372036854775807 : Int64) + q2)), (.long q1)])) _
          refine XS.lcmp X0.here hx rfl (hb hby d3_32) rfl ?_
          show Steps p.tables e below (s₁.setTop (mkF m 33 #[.val (.long q1), .second, .val (.long q2), .second] [(.int (lcmpW q1 ((9223372036854775807 : Int64) + q2)))])) _
          exact kt
        by_cases hc33_108 : (0 : Int32) < (lcmpW q1 ((9223372036854775807 : Int64) + q2))
        · skip
          obtain ⟨fs, hr, hrun, hended, hW, hsame⟩ := X0.leave (v := some (.long (-9223372036854775808 : Int64))) (fun h => by rw [Bd.returns] at h; cases h)
          refine ⟨_, _, pre107 _ ?_, hrun, hended, _, _, rfl, ?_, ⟨_, rfl⟩, hW, hsame.mono (by decide) (by decide)⟩
          · skip
            show Steps p.tables e below (s₁.setTop (mkF m 33 #[.val (.long q1), .second, .val (.long q2), .second] [(.int (lcmpW q1 ((9223372036854775807 : Int64) + q2)))])) _
            refine XS.ifNo X0.here hx rfl (hb hby d3_33) rfl ((if0 _ _).trans (tlt (hc33_108 : (0 : Int32) < (lcmpW q1 ((9223372036854775807 : Int64) + q2)))).2.2.2) ?_
            show Steps p.tables e below (s₁.setTop (mkF m 36 #[.val (.long q1), .second, .val (.long q2), .second] [])) _
            refine X0.ldc2Long hx hown (mvT hZ (hw _ (List.mem_of_getElem? (i := 12) rfl))) (g := (mkF m 36 #[.val (.long q1), .second, .val (.long q2), .second] [])) rfl (hb hby d3_36) _ ?_
            show Steps p.tables e below (s₁.setTop (mkF m 39 #[.val (.long q1), .second, .val (.long q2), .second] [(.long (-9223372036854775808 : Int64))])) _
            exact own_retJ X0 hx Bd.returns (hb hby d3_39) hr
          · show Q3 Z q1 q2 h0 n0 _ s₁.heap _
            rw [e0]
            exact ⟨(by simp only [own_exp, eq_false hc5_102, eq_false hc13_104, eq_true hc23_106, eq_true hc33_108, if_true, if_false, and_self, true_and, and_true, false_and, and_false]), N0, rfl⟩
        · skip
          have pre109 : ∀ t, Steps p.tables e below (s₁.setTop (mkF m 43 #[.val (.long q1), .second, .val (.long q2), .second] [(.int (lcmpW q2 (0 : Int64)))])) t → Steps p.tables e below (s₁.setTop (entryFrame m #[(.long q1), (.long q2)] 4)) t := fun t kt => by
            refine pre107 t ?_
            show Steps p.tables e below (s₁.setTop (mkF m 33 #[.val (.long q1), .second, .val (.long q2), .second] [(.int (lcmpW q1 ((9223372036854775807 : Int64) + q2)))])) _
            refine XS.ifYes X0.here hx rfl (pc0 := 33) (pc' := 40) rfl (hb hby d3_33) rfl ((if0 _ _).trans (flt (hc33_108 : ¬ ((0 : Int32) < (lcmpW q1 ((9223372036854775807 : Int64) + q2))))).2.2.2) (by decide) (by decide) ?_
            show Steps p.tables e below (s₁.setTop (mkF m 40 #[.val (.long q1), .second, .val (.long q2), .second] [])) _
            refine XS.lloadN X0.here hx rfl (hb hby d3_40) rfl ?_
            show Steps p.tables e below (s₁.setTop (mkF m 41 #[.val (.long q1), .second, .val (.long q2), .second] [(.long q2)])) _
            refine XS.lconst X0.here hx rfl (hb hby d3_41) ?_
            show Steps p.tables e below (s₁.setTop (mkF m 42 #[.val (.long q1), .second, .val (.long q2), .second] [(.long (0 : Int64)), (.long q2)])) _
            refine XS.lcmp X0.here hx rfl (hb hby d3_42) rfl ?_
            show Steps p.tables e below (s₁.setTop (mkF m 43 #[.val (.long q1), .second, .val (.long q2), .second] [(.int (lcmpW q2 (0 : Int64)))])) _
            exact kt
          by_cases hc43_110 : (0 : Int32) < (lcmpW q2 (0 : Int64))
          · skip
            have pre111 : ∀ t, Steps p.tables e below (s₁.setTop (mkF m 53 #[.val (.long q1), .second, .val (.long q2), .second] [(.int (lcmpW q1 (q2 - (9223372036854775807 : Int64))))])) t → Steps p.tables e below (s₁.setTop (entryFrame m #[(.long q1), (.long q2)] 4)) t := fun t kt => by
              refine pre109 t ?_
              show Steps p.tables e below (s₁.setTop (mkF m 43 #[.val (.long q1), .second, .val (.long q2), .second] [(.int (lcmpW q2 (0 : Int64)))])) _
              refine XS.ifNo X0.here hx rfl (hb hby d3_43) rfl ((if0 _ _).trans (tlt (hc43_110 : (0 : Int32) < (lcmpW q2 (0 : Int64)))).2.2.2) ?_
              show Steps p.tables e below (s₁.setTop (mkF m 46 #[.val (.long q1), .second, .val (.long q2), .second] [])) _
              refine XS.lloadN X0.here hx rfl (hb hby d3_46) rfl ?_
              show Steps p.tables e below (s₁.setTop (mkF m 47 #[.val (.long q1), .second, .val (.long q2), .second] [(.long q1)])) _
              refine XS.lloadN X0.here hx rfl (hb hby d3_47) rfl ?_
              show Steps p.tables e below (s₁.setTop (mkF m 48 #[.val (.long q1), .second, .val (.long q2), .second] [(.long q2), (.long q1)])) _
              refine X0.ldc2Long hx hown (mvT hZ (hw _ (List.mem_of_getElem? (i := 13) rfl))) (g := (mkF m 48 #[.val (.long q1), .second, .val (.long q2), .second] [(.long q2), (.long q1)])) rfl (hb hby d3_48) _ ?_
              show Steps p.tables e below (s₁.setTop (mkF m 51 #[.val (.long q1), .second, .val (.long q2), .second] [(.long (9223372036854775807 : Int64)), (.long q2), (.long q1)])) _
              refine XS.lsub X0.here hx rfl (hb hby d3_51) rfl ?_
              show Steps p.tables e below (s₁.setTop (mkF m 52 #[.val (.long q1), .second, .val (.long q2), .second] [(.long (q2 - (9223372036854775807 : Int64))), (.long q1)])) _
              refine XS.lcmp X0.here hx rfl (hb hby d3_52) rfl ?_
              show Steps p.tables e below (s₁.setTop (mkF m 53 #[.val (.long q1), .second, .val (.long q2), .second] [(.int (lcmpW q1 (q2 - (9223372036854775807 : Int64))))])) _
              exact kt
            by_cases hc53_112 : (lcmpW q1 (q2 - (9223372036854775807 : Int64))) < (0 : Int32)
            · skip
              obtain ⟨fs, hr, hrun, hended, hW, hsame⟩ := X0.leave (v := some (.long (-9223372036854775808 : Int64))) (fun h => by rw [Bd.returns] at h; cases h)
              refine ⟨_, _, pre111 _ ?_, hrun, hended, _, _, rfl, ?_, ⟨_, rfl⟩, hW, hsame.mono (by decide) (by decide)⟩
              · skip
                show Steps p.tables e below (s₁.setTop (mkF m 53 #[.val (.long q1), .second, .val (.long q2), .second] [(.int (lcmpW q1 (q2 - (9223372036854775807 : Int64))))])) _
                refine XS.ifNo X0.here hx rfl (hb hby d3_53) rfl ((if0 _ _).trans (tlt (hc53_112 : (lcmpW q1 (q2 - (9223372036854775807 : Int64))) < (0 : Int32))).2.1) ?_
                show Steps p.tables e below (s₁.setTop (mkF m 56 #[.val (.long q1), .second, .val (.long q2), .second] [])) _
                refine X0.ldc2Long hx hown (mvT hZ (hw _ (List.mem_of_getElem? (i := 12) rfl))) (g := (mkF m 56 #[.val (.long q1), .second, .val (.long q2), .second] [])) rfl (hb hby d3_56) _ ?_
                show Steps p.tables e below (s₁.setTop (mkF m 59 #[.val (.long q1), .second, .val (.long q2), .second] [(.long (-9223372036854775808 : Int64))])) _
                exact own_retJ X0 hx Bd.returns (hb hby d3_59) hr
              · show Q3 Z q1 q2 h0 n0 _ s₁.heap _
                rw [e0]
                exact ⟨(by simp only [own_exp, eq_false hc5_102, eq_false hc13_104, eq_true hc23_106, eq_false hc33_108, eq_true hc43_110, eq_true hc53_112, if_true, if_false, and_self, true_and, and_true, false_and, and_false]), N0, rfl⟩
            · skip
              obtain ⟨fs, hr, hrun, hended, hW, hsame⟩ := X0.leave (v := some (.long (q1 - q2))) (fun h => by rw [Bd.returns] at h; cases h)
              refine ⟨_, _, pre111 _ ?_, hrun, hended, _, _, rfl, ?_, ⟨_, rfl⟩, hW, hsame.mono (by decide) (by decide)⟩
              · skip
                show Steps p.tables e below (s₁.setTop (mkF m 53 #[.val (.long q1), .second, .val (.long q2), .second] [(.int (lcmpW q1 (q2 - (9223372036854775807 : Int64))))])) _
                refine XS.ifYes X0.here hx rfl (pc0 := 53) (pc' := 60) rfl (hb hby d3_53) rfl ((if0 _ _).trans (flt (hc53_112 : ¬ ((lcmpW q1 (q2 - (9223372036854775807 : Int64))) < (0 : Int32)))).2.1) (by decide) (by decide) ?_
                show Steps p.tables e below (s₁.setTop (mkF m 60 #[.val (.long q1), .second, .val (.long q2), .second] [])) _
                refine XS.lloadN X0.here hx rfl (hb hby d3_60) rfl ?_
                show Steps p.tables e below (s₁.setTop (mkF m 61 #[.val (.long q1), .second, .val (.long q2), .second] [(.long q1)])) _
                refine XS.lloadN X0.here hx rfl (hb hby d3_61) rfl ?_
                show Steps p.tables e below (s₁.setTop (mkF m 62 #[.val (.long q1), .second, .val (.long q2), .second] [(.long q2), (.long q1)])) _
                refine XS.lsub X0.here hx rfl (hb hby d3_62) rfl ?_
                show Steps p.tables e below (s₁.setTop (mkF m 63 #[.val (.long q1), .second, .val (.long q2), .second] [(.long (q1 - q2))])) _
                exact own_retJ X0 hx Bd.returns (hb hby d3_63) hr
              · show Q3 Z q1 q2 h0 n0 _ s₁.heap _
                rw [e0]
                exact ⟨(by simp only [own_exp, eq_false hc5_102, eq_false hc13_104, eq_true hc23_106, eq_false hc33_108, eq_true hc43_110, eq_false hc53_112, if_true, if_false, and_self, true_and, and_true, false_and, and_false]), N0, rfl⟩
          · skip
            obtain ⟨fs, hr, hrun, hended, hW, hsame⟩ := X0.leave (v := some (.long (q1 - q2))) (fun h => by rw [Bd.returns] at h; cases h)
            refine ⟨_, _, pre109 _ ?_, hrun, hended, _, _, rfl, ?_, ⟨_, rfl⟩, hW, hsame.mono (by decide) (by decide)⟩
            · skip
              show Steps p.tables e below (s₁.setTop (mkF m 43 #[.val (.long q1), .second, .val (.long q2), .second] [(.int (lcmpW q2 (0 : Int64)))])) _
              refine XS.ifYes X0.here hx rfl (pc0 := 43) (pc' := 60) rfl (hb hby d3_43) rfl ((if0 _ _).trans (flt (hc43_110 : ¬ ((0 : Int32) < (lcmpW q2 (0 : Int64))))).2.2.2) (by decide) (by decide) ?_
              show Steps p.tables e below (s₁.setTop (mkF m 60 #[.val (.long q1), .second, .val (.long q2), .second] [])) _
              refine XS.lloadN X0.here hx rfl (hb hby d3_60) rfl ?_
              show Steps p.tables e below (s₁.setTop (mkF m 61 #[.val (.long q1), .second, .val (.long q2), .second] [(.long q1)])) _
              refine XS.lloadN X0.here hx rfl (hb hby d3_61) rfl ?_
              show Steps p.tables e below (s₁.setTop (mkF m 62 #[.val (.long q1), .second, .val (.long q2), .second] [(.long q2), (.long q1)])) _
              refine XS.lsub X0.here hx rfl (hb hby d3_62) rfl ?_
              show Steps p.tables e below (s₁.setTop (mkF m 63 #[.val (.long q1), .second, .val (.long q2), .second] [(.long (q1 - q2))])) _
              exact own_retJ X0 hx Bd.returns (hb hby d3_63) hr
            · show Q3 Z q1 q2 h0 n0 _ s₁.heap _
              rw [e0]
              exact ⟨(by simp only [own_exp, eq_false hc5_102, eq_false hc13_104, eq_true hc23_106, eq_false hc33_108, eq_false hc43_110, if_true, if_false, and_self, true_and, and_true, false_and, and_false]), N0, rfl⟩
      · skip
        have pre113 : ∀ t, Steps p.tables e below (s₁.setTop (mkF m 43 #[.val (.long q1), .second, .val (.long q2), .second] [(.int (lcmpW q2 (0 : Int64)))])) t → Steps p.tables e below (s₁.setTop (entryFrame m #[(.long q1), (.long q2)] 4)) t := fun t kt => by
          refine pre105 t ?_
          show Steps p.tables e below (s₁.setTop (mkF m 23 #[.val (.long q1), .second, .val (.long q2), .second] [(.int (lcmpW q2 (0 : Int64)))])) _
          refine XS.ifYes X0.here hx rfl (pc0 := 23) (pc' := 40) rfl (hb hby d3_23) rfl ((if0 _ _).trans (flt (hc23_106 : ¬ ((lcmpW q2 (0 : Int64)) < (0 : Int32)))).2.1) (by decide) (by decide) ?_
          show Steps p.tables e below (s₁.setTop (mkF m 40 #[.val (.long q1), .second, .val (.long q2), .second] [])) _
          refine XS.lloadN X0.here hx rfl (hb hby d3_40) rfl ?_
          show Steps p.tables e below (s₁.setTop (mkF m 41 #[.val (.long q1), .second, .val (.long q2), .second] [(.long q2)])) _
          refine XS.lconst X0.here hx rfl (hb hby d3_41) ?_
          show Steps p.tables e below (s₁.setTop (mkF m 42 #[.val (.long q1), .second, .val (.long q2), .second] [(.long (0 : Int64)), (.long q2)])) _
          refine XS.lcmp X0.here hx rfl (hb hby d3_42) rfl ?_
          show Steps p.tables e below (s₁.setTop (mkF m 43 #[.val (.long q1), .second, .val (.long q2), .second] [(.int (lcmpW q2 (0 : Int64)))])) _
          exact kt
        by_cases hc43_114 : (0 : Int32) < (lcmpW q2 (0 : Int64))
        · skip
          have pre115 : ∀ t, Steps p.tables e below (s₁.setTop (mkF m 53 #[.val (.long q1), .second, .val (.long q2), .second] [(.int (lcmpW q1 (q2 - (9223372036854775807 : Int64))))])) t → Steps p.tables e below (s₁.setTop (entryFrame m #[(.long q1), (.long q2)] 4)) t := fun t kt => by
            refine pre113 t ?_
            show Steps p.tables e below (s₁.setTop (mkF m 43 #[.val (.long q1), .second, .val (.long q2), .second] [(.int (lcmpW q2 (0 : Int64)))])) _
            refine XS.ifNo X0.here hx rfl (hb hby d3_43) rfl ((if0 _ _).trans (tlt (hc43_114 : (0 : Int32) < (lcmpW q2 (0 : Int64)))).2.2.2) ?_
            show Steps p.tables e below (s₁.setTop (mkF m 46 #[.val (.long q1), .second, .val (.long q2), .second] [])) _
            refine XS.lloadN X0.here hx rfl (hb hby d3_46) rfl ?_
            show Steps p.tables e below (s₁.setTop (mkF m 47 #[.val (.long q1), .second, .val (.long q2), .second] [(.long q1)])) _
            refine XS.lloadN X0.here hx rfl (hb hby d3_47) rfl ?_
            show Steps p.tables e below (s₁.setTop (mkF m 48 #[.val (.long q1), .second, .val (.long q2), .second] [(.long q2), (.long q1)])) _
            refine X0.ldc2Long hx hown (mvT hZ (hw _ (List.mem_of_getElem? (i := 13) rfl))) (g := (mkF m 48 #[.val (.long q1), .second, .val (.long q2), .second] [(.long q2), (.long q1)])) rfl (hb hby d3_48) _ ?_
            show Steps p.tables e below (s₁.setTop (mkF m 51 #[.val (.long q1), .second, .val (.long q2), .second] [(.long (9223372036854775807 : Int64)), (.long q2), (.long q1)])) _
            refine XS.lsub X0.here hx rfl (hb hby d3_51) rfl ?_
            show Steps p.tables e below (s₁.setTop (mkF m 52 #[.val (.long q1), .second, .val (.long q2), .second] [(.long (q2 - (9223372036854775807 : Int64))), (.long q1)])) _
            refine XS.lcmp X0.here hx rfl (hb hby d3_52) rfl ?_
            show Steps p.tables e below (s₁.setTop (mkF m 53 #[.val (.long q1), .second, .val (.long q2), .second] [(.int (lcmpW q1 (q2 - (9223372036854775807 : Int64))))])) _
            exact kt
          by_cases hc53_116 : (lcmpW q1 (q2 - (9223372036854775807 : Int64))) < (0 : Int32)
          · skip
            obtain ⟨fs, hr, hrun, hended, hW, hsame⟩ := X0.leave (v := some (.long (-9223372036854775808 : Int64))) (fun h => by rw [Bd.returns] at h; cases h)
            refine ⟨_, _, pre115 _ ?_, hrun, hended, _, _, rfl, ?_, ⟨_, rfl⟩, hW, hsame.mono (by decide) (by decide)⟩
            · skip
              show Steps p.tables e below (s₁.setTop (mkF m 53 #[.val (.long q1), .second, .val (.long q2), .second] [(.int (lcmpW q1 (q2 - (9223372036854775807 : Int64))))])) _
              refine XS.ifNo X0.here hx rfl (hb hby d3_53) rfl ((if0 _ _).trans (tlt (hc53_116 : (lcmpW q1 (q2 - (9223372036854775807 : Int64))) < (0 : Int32))).2.1) ?_
              show Steps p.tables e below (s₁.setTop (mkF m 56 #[.val (.long q1), .second, .val (.long q2), .second] [])) _
              refine X0.ldc2Long hx hown (mvT hZ (hw _ (List.mem_of_getElem? (i := 12) rfl))) (g := (mkF m 56 #[.val (.long q1), .second, .val (.long q2), .second] [])) rfl (hb hby d3_56) _ ?_
              show Steps p.tables e below (s₁.setTop (mkF m 59 #[.val (.long q1), .second, .val (.long q2), .second] [(.long (-9223372036854775808 : Int64))])) _
              exact own_retJ X0 hx Bd.returns (hb hby d3_59) hr
            · show Q3 Z q1 q2 h0 n0 _ s₁.heap _
              rw [e0]
              exact ⟨(by simp only [own_exp, eq_false hc5_102, eq_false hc13_104, eq_false hc23_106, eq_true hc43_114, eq_true hc53_116, if_true, if_false, and_self, true_and, and_true, false_and, and_false]), N0, rfl⟩
          · skip
            obtain ⟨fs, hr, hrun, hended, hW, hsame⟩ := X0.leave (v := some (.long (q1 - q2))) (fun h => by rw [Bd.returns] at h; cases h)
            refine ⟨_, _, pre115 _ ?_, hrun, hended, _, _, rfl, ?_, ⟨_, rfl⟩, hW, hsame.mono (by decide) (by decide)⟩
            · skip
              show Steps p.tables e below (s₁.setTop (mkF m 53 #[.val (.long q1), .second, .val (.long q2), .second] [(.int (lcmpW q1 (q2 - (9223372036854775807 : Int64))))])) _
              refine XS.ifYes X0.here hx rfl (pc0 := 53) (pc' := 60) rfl (hb hby d3_53) rfl ((if0 _ _).trans (flt (hc53_116 : ¬ ((lcmpW q1 (q2 - (9223372036854775807 : Int64))) < (0 : Int32)))).2.1) (by decide) (by decide) ?_
              show Steps p.tables e below (s₁.setTop (mkF m 60 #[.val (.long q1), .second, .val (.long q2), .second] [])) _
              refine XS.lloadN X0.here hx rfl (hb hby d3_60) rfl ?_
              show Steps p.tables e below (s₁.setTop (mkF m 61 #[.val (.long q1), .second, .val (.long q2), .second] [(.long q1)])) _
              refine XS.lloadN X0.here hx rfl (hb hby d3_61) rfl ?_
              show Steps p.tables e below (s₁.setTop (mkF m 62 #[.val (.long q1), .second, .val (.long q2), .second] [(.long q2), (.long q1)])) _
              refine XS.lsub X0.here hx rfl (hb hby d3_62) rfl ?_
              show Steps p.tables e below (s₁.setTop (mkF m 63 #[.val (.long q1), .second, .val (.long q2), .second] [(.long (q1 - q2))])) _
              exact own_retJ X0 hx Bd.returns (hb hby d3_63) hr
            · show Q3 Z q1 q2 h0 n0 _ s₁.heap _
              rw [e0]
              exact ⟨(by simp only [own_exp, eq_false hc5_102, eq_false hc13_104, eq_false hc23_106, eq_true hc43_114, eq_false hc53_116, if_true, if_false, and_self, true_and, and_true, false_and, and_false]), N0, rfl⟩
        · skip
          obtain ⟨fs, hr, hrun, hended, hW, hsame⟩ := X0.leave (v := some (.long (q1 - q2))) (fun h => by rw [Bd.returns] at h; cases h)
          refine ⟨_, _, pre113 _ ?_, hrun, hended, _, _, rfl, ?_, ⟨_, rfl⟩, hW, hsame.mono (by decide) (by decide)⟩
          · skip
            show Steps p.tables e below (s₁.setTop (mkF m 43 #[.val (.long q1), .second, .val (.long q2), .second] [(.int (lcmpW q2 (0 : Int64)))])) _
            refine XS.ifYes X0.here hx rfl (pc0 := 43) (pc' := 60) rfl (hb hby d3_43) rfl ((if0 _ _).trans (flt (hc43_114 : ¬ ((0 : Int32) < (lcmpW q2 (0 : Int64))))).2.2.2) (by decide) (by decide) ?_
            show Steps p.tables e below (s₁.setTop (mkF m 60 #[.val (.long q1), .second, .val (.long q2), .second] [])) _
            refine XS.lloadN X0.here hx rfl (hb hby d3_60) rfl ?_
            show Steps p.tables e below (s₁.setTop (mkF m 61 #[.val (.long q1), .second, .val (.long q2), .second] [(.long q1)])) _
            refine XS.lloadN X0.here hx rfl (hb hby d3_61) rfl ?_
            show Steps p.tables e below (s₁.setTop (mkF m 62 #[.val (.long q1), .second, .val (.long q2), .second] [(.long q2), (.long q1)])) _
            refine XS.lsub X0.here hx rfl (hb hby d3_62) rfl ?_
            show Steps p.tables e below (s₁.setTop (mkF m 63 #[.val (.long q1), .second, .val (.long q2), .second] [(.long (q1 - q2))])) _
            exact own_retJ X0 hx Bd.returns (hb hby d3_63) hr
          · show Q3 Z q1 q2 h0 n0 _ s₁.heap _
            rw [e0]
            exact ⟨(by simp only [own_exp, eq_false hc5_102, eq_false hc13_104, eq_false hc23_106, eq_false hc43_114, if_true, if_false, and_self, true_and, and_true, false_and, and_false]), N0, rfl⟩
theorem pd_0 : parseMethodDescriptor "(JI)J" = some ⟨[.long, .int], some .long⟩ := by decide +kernel
theorem pd_1 : parseMethodDescriptor "(JJ)J" = some ⟨[.long, .long], some .long⟩ := by decide +kernel
theorem ef_0 (m : MethodId) (q1 : Int64) (q2 : Int64) (p3 : Int32) : entryFrame m #[(.long q1), (.long q2), (.int p3)] maxLocals = mkF m 0 #[.val (.long q1), .second, .val (.long q2), .second, .val (.int p3), .unset, .unset, .unset, .unset, .unset, .unset] [] := by first | (simp [entryFrame, mkF, argsToLocals, Value.category, maxLocals]; done) | rfl
def Q0 (Z : State) (q1 : Int64) (q2 : Int64) (p3 : Int32) (h0 : Heap) (n0 : Nat) (v : Option Value) (h : Heap) (L : List Loc) : Prop := v = some (.int (1 : Int32)) ∧ Fr n0 L
set_option maxRecDepth 65536 in
set_option maxHeartbeats 40000000 in
theorem rm0 (l : Launch) (Z : State) (a0 : Array Value) (hw : ∀ d ∈ tables_1, d.before a0 Z = true) (ws : List Jvm.Cond) (q1 : Int64) (q2 : Int64) (p3 : Int32) (h0 : Heap) (n0 : Nat) (Z0 : n0 ≤ h0.size) :
    MetFree l x (head1 (Jvm.Cond.code x code maxLocals ret :: ws) room_1) (fun a U => a = #[(.long q1), (.long q2), (.int p3)] ∧ Z.Warmed39 U.vm ∧ U.heap = h0) (fun _ _ _ _ _ => True) (fun _ U o U' => ∃ v L, o = .returned v ∧ Q0 Z q1 q2 p3 h0 n0 v U'.heap L ∧ FrameEnd U o U' L room_1.cells room_1.slots) := by
  refine MetFree.of_bodySF (plainFor_of_name pn_com_example_prequential_prequential_exact_CheckedLongMinusPinLaw) hisR ?_
  intro p e s m args below meth c s₁ Bd hml0 hP hK
  obtain ⟨rfl, hZ, hh⟩ := hP
  have hx := Bd.exec
  have hby := Bd.bytes
  have hml : c.maxLocals = 11 := hml0
  have hown : s.vm.findClass "com/example/prequential/prequential/exact/CheckedLongMinusPinLaw" = some m.cls := findClass_of_methodNamed Bd.named
  have hnm := (name_of_methodNamed Bd.named Bd.method).1
  have X0 : Stand p l e room_1 s m #[(.long q1), (.long q2), (.int p3)] below meth c s₁ [] 0 0 := Stand.of_body Bd
  have e0 : s₁.heap = h0 := by rw [← hh, Bd.state]; rfl
  have N0 := Fr.nil n0
  have pre0 : ∀ t, Steps p.tables e below (s₁.setTop (mkF m 0 #[.val (.long q1), .second, .val (.long q2), .second, .val (.int p3), .unset, .unset, .unset, .unset, .unset, .unset] [])) t → Steps p.tables e below (s₁.setTop (entryFrame m #[(.long q1), (.long q2), (.int p3)] maxLocals)) t := fun t k => castTop (ef_0 m q1 q2 p3) k
  obtain ⟨_, _, ⟨T101, L101, k101, n101⟩, -, X101, ⟨Lc101, hQ101, l101, y101, z101⟩, st101⟩ := Jvm.LawKit.callS X0 hx (y := (⟨"com/example/prequential/prequential/exact/CheckedLongMinusPinLaw", "pick", "(JI)J"⟩ : MethodName)) hown (mvT hZ (hw _ (List.mem_of_getElem? (i := 0) rfl))) (mvT hZ (hw _ (List.mem_of_getElem? (i := 1) rfl))) (mvT hZ (hw _ (List.mem_of_getElem? (i := 2) rfl))) (mvT hZ (hw _ (List.mem_of_getElem? (i := 3) rfl))) (by decide) (backOf (W := 0) (rm1 l Z a0 hw [] q1 p3 h0 n0 Z0) hZ (hw _ (List.mem_of_getElem? (i := 3) rfl)) (hw _ (List.mem_of_getElem? (i := 2) rfl)) (by decide) (by decide)) (g := (mkF m 3 #[.val (.long q1), .second, .val (.long q2), .second, .val (.int p3), .unset, .unset, .unset, .unset, .unset, .unset] [(.int p3), (.long q1)])) rfl (by rw [hml]; rfl) (argsL := [(.long q1), (.int p3)]) (rest := []) (lenOf pd_0 rfl) rfl (by show 2 * 0 + _ ≤ _; exact Nat.le_of_eq rfl) (hb hby at_3) (fun _ _ => ⟨rfl, e0, (by decide : 0 + 0 ≤ _), (by decide : 0 + 0 ≤ _)⟩)
  dsimp only [Pt.U, Pt.locs, Pt.cells, Pt.slots] at X101 l101 y101 z101 st101 hQ101
  subst l101 y101 z101
  obtain ⟨rfl, Nq101, Heq101⟩ := hQ101
  have N101 := Fr.app N0 Nq101
  obtain ⟨_, _, ⟨T102, L102, k102, n102⟩, -, X102, ⟨Lc102, hQ102, l102, y102, z102⟩, st102⟩ := Jvm.LawKit.callS X101 hx (y := (⟨"com/example/prequential/prequential/exact/CheckedLongMinusPinLaw", "pick", "(JI)J"⟩ : MethodName)) hown (mvT hZ (hw _ (List.mem_of_getElem? (i := 0) rfl))) (mvT hZ (hw _ (List.mem_of_getElem? (i := 1) rfl))) (mvT hZ (hw _ (List.mem_of_getElem? (i := 2) rfl))) (mvT hZ (hw _ (List.mem_of_getElem? (i := 3) rfl))) (by decide) (backOf (W := 0) (rm1 l Z a0 hw [] q2 (p3 >>> ((2 : Int32) &&& 31)) h0 n0 Z0) hZ (hw _ (List.mem_of_getElem? (i := 3) rfl)) (hw _ (List.mem_of_getElem? (i := 2) rfl)) (by decide) (by decide)) (g := (mkF m 13 #[.val (.long q1), .second, .val (.long q2), .second, .val (.int p3), .val (.long (own_pick q1 p3)), .second, .unset, .unset, .unset, .unset] [(.int (p3 >>> ((2 : Int32) &&& 31))), (.long q2)])) rfl (by rw [hml]; rfl) (argsL := [(.long q2), (.int (p3 >>> ((2 : Int32) &&& 31)))]) (rest := []) (lenOf pd_0 rfl) rfl (by show 2 * 0 + _ ≤ _; exact Nat.le_of_eq rfl) (hb hby at_13) (fun _ _ => ⟨rfl, Heq101, (by decide : 0 + 0 ≤ _), (by decide : 0 + 0 ≤ _)⟩)
  dsimp only [Pt.U, Pt.locs, Pt.cells, Pt.slots] at X102 l102 y102 z102 st102 hQ102
  subst l102 y102 z102
  obtain ⟨rfl, Nq102, Heq102⟩ := hQ102
  have N102 := Fr.app N101 Nq102
  obtain ⟨_, _, ⟨T103, L103, k103, n103⟩, -, X103, ⟨Lc103, hQ103, l103, y103, z103⟩, st103⟩ := Jvm.LawKit.callS X102 hx (y := (⟨"com/example/prequential/prequential/exact/CheckedLong", "minus", "(JJ)J"⟩ : MethodName)) hown (mvT hZ (hw _ (List.mem_of_getElem? (i := 4) rfl))) (mvT hZ (hw _ (List.mem_of_getElem? (i := 5) rfl))) (mvT hZ (hw _ (List.mem_of_getElem? (i := 6) rfl))) (mvT hZ (hw _ (List.mem_of_getElem? (i := 7) rfl))) (by decide) (backOf (W := 0) (rm2 l Z a0 hw [] (own_pick q1 p3) (own_pick q2 (p3 >>> ((2 : Int32) &&& 31))) h0 n0 Z0) hZ (hw _ (List.mem_of_getElem? (i := 7) rfl)) (hw _ (List.mem_of_getElem? (i := 6) rfl)) (by decide) (by decide)) (g := (mkF m 22 #[.val (.long q1), .second, .val (.long q2), .second, .val (.int p3), .val (.long (own_pick q1 p3)), .second, .val (.long (own_pick q2 (p3 >>> ((2 : Int32) &&& 31)))), .second, .unset, .unset] [(.long (own_pick q2 (p3 >>> ((2 : Int32) &&& 31)))), (.long (own_pick q1 p3))])) rfl (by rw [hml]; rfl) (argsL := [(.long (own_pick q1 p3)), (.long (own_pick q2 (p3 >>> ((2 : Int32) &&& 31))))]) (rest := []) (lenOf pd_1 rfl) rfl (by show 2 * 0 + _ ≤ _; exact Nat.le_of_eq rfl) (hb hby at_22) (fun _ _ => ⟨rfl, Heq102, (by decide : 0 + 0 ≤ _), (by decide : 0 + 0 ≤ _)⟩)
  dsimp only [Pt.U, Pt.locs, Pt.cells, Pt.slots] at X103 l103 y103 z103 st103 hQ103
  subst l103 y103 z103
  obtain ⟨rfl, Nq103, Heq103⟩ := hQ103
  have N103 := Fr.app N102 Nq103
  obtain ⟨_, _, ⟨T104, L104, k104, n104⟩, -, X104, ⟨Lc104, hQ104, l104, y104, z104⟩, st104⟩ := Jvm.LawKit.callS X103 hx (y := (⟨"com/example/prequential/prequential/exact/CheckedLongMinusPinLaw", "expected", "(JJ)J"⟩ : MethodName)) hown (mvT hZ (hw _ (List.mem_of_getElem? (i := 9) rfl))) (mvT hZ (hw _ (List.mem_of_getElem? (i := 10) rfl))) (mvT hZ (hw _ (List.mem_of_getElem? (i := 2) rfl))) (mvT hZ (hw _ (List.mem_of_getElem? (i := 11) rfl))) (by decide) (backOf (W := 2) (rm3 l Z a0 hw [] (own_pick q1 p3) (own_pick q2 (p3 >>> ((2 : Int32) &&& 31))) h0 n0 Z0) hZ (hw _ (List.mem_of_getElem? (i := 11) rfl)) (hw _ (List.mem_of_getElem? (i := 2) rfl)) (by decide) (by decide)) (g := (mkF m 33 #[.val (.long q1), .second, .val (.long q2), .second, .val (.int p3), .val (.long (own_pick q1 p3)), .second, .val (.long (own_pick q2 (p3 >>> ((2 : Int32) &&& 31)))), .second, .val (.long (own_minus (own_pick q1 p3) (own_pick q2 (p3 >>> ((2 : Int32) &&& 31))))), .second] [(.long (own_pick q2 (p3 >>> ((2 : Int32) &&& 31)))), (.long (own_pick q1 p3)), (.long (own_minus (own_pick q1 p3) (own_pick q2 (p3 >>> ((2 : Int32) &&& 31)))))])) rfl (by rw [hml]; rfl) (argsL := [(.long (own_pick q1 p3)), (.long (own_pick q2 (p3 >>> ((2 : Int32) &&& 31))))]) (rest := [(.long (own_minus (own_pick q1 p3) (own_pick q2 (p3 >>> ((2 : Int32) &&& 31)))))]) (lenOf pd_1 rfl) rfl (by show 2 * 0 + _ ≤ _; exact Nat.le_of_eq rfl) (hb hby at_33) (fun _ _ => ⟨rfl, Heq103, (by decide : 0 + 0 ≤ _), (by decide : 0 + 0 ≤ _)⟩)
  dsimp only [Pt.U, Pt.locs, Pt.cells, Pt.slots] at X104 l104 y104 z104 st104 hQ104
  subst l104 y104 z104
  obtain ⟨rfl, Nq104, Heq104⟩ := hQ104
  have N104 := Fr.app N103 Nq104
  obtain ⟨fs, hr, hrun, hended, hW, hsame⟩ := X104.leave (v := some (.int (1 : Int32))) (fun h => by rw [Bd.returns] at h; cases h)
  refine ⟨_, _, pre0 _ ?_, hrun, hended, _, _, rfl, ?_, ⟨_, rfl⟩, hW, hsame.mono (by decide) (by decide)⟩
  · skip
    show Steps p.tables e below (s₁.setTop (mkF m 0 #[.val (.long q1), .second, .val (.long q2), .second, .val (.int p3), .unset, .unset, .unset, .unset, .unset, .unset] [])) _
    refine XS.lloadN X0.here hx rfl (hb hby at_0) rfl ?_
    show Steps p.tables e below (s₁.setTop (mkF m 1 #[.val (.long q1), .second, .val (.long q2), .second, .val (.int p3), .unset, .unset, .unset, .unset, .unset, .unset] [(.long q1)])) _
    refine XS.iload X0.here hx rfl (hb hby at_1) rfl ?_
    show Steps p.tables e below (s₁.setTop (mkF m 3 #[.val (.long q1), .second, .val (.long q2), .second, .val (.int p3), .unset, .unset, .unset, .unset, .unset, .unset] [(.int p3), (.long q1)])) _
    refine st101 _ ?_
    show Steps p.tables e below (T101.setTop (mkF m 6 #[.val (.long q1), .second, .val (.long q2), .second, .val (.int p3), .unset, .unset, .unset, .unset, .unset, .unset] [(.long (own_pick q1 p3))])) _
    refine XS.lstore X101.here hx rfl (hb hby at_6) rfl (l' := #[.val (.long q1), .second, .val (.long q2), .second, .val (.int p3), .val (.long (own_pick q1 p3)), .second, .unset, .unset, .unset, .unset]) rfl ?_
    show Steps p.tables e below (T101.setTop (mkF m 8 #[.val (.long q1), .second, .val (.long q2), .second, .val (.int p3), .val (.long (own_pick q1 p3)), .second, .unset, .unset, .unset, .unset] [])) _
    refine XS.lloadN X101.here hx rfl (hb hby at_8) rfl ?_
    show Steps p.tables e below (T101.setTop (mkF m 9 #[.val (.long q1), .second, .val (.long q2), .second, .val (.int p3), .val (.long (own_pick q1 p3)), .second, .unset, .unset, .unset, .unset] [(.long q2)])) _
    refine XS.iload X101.here hx rfl (hb hby at_9) rfl ?_
    show Steps p.tables e below (T101.setTop (mkF m 11 #[.val (.long q1), .second, .val (.long q2), .second, .val (.int p3), .val (.long (own_pick q1 p3)), .second, .unset, .unset, .unset, .unset] [(.int p3), (.long q2)])) _
    refine XS.iconst X101.here hx rfl (hb hby at_11) ?_
    show Steps p.tables e below (T101.setTop (mkF m 12 #[.val (.long q1), .second, .val (.long q2), .second, .val (.int p3), .val (.long (own_pick q1 p3)), .second, .unset, .unset, .unset, .unset] [(.int (2 : Int32)), (.int p3), (.long q2)])) _
    refine XS.ishr X101.here hx rfl (hb hby at_12) rfl ?_
    show Steps p.tables e below (T101.setTop (mkF m 13 #[.val (.long q1), .second, .val (.long q2), .second, .val (.int p3), .val (.long (own_pick q1 p3)), .second, .unset, .unset, .unset, .unset] [(.int (p3 >>> ((2 : Int32) &&& 31))), (.long q2)])) _
    refine st102 _ ?_
    show Steps p.tables e below (T102.setTop (mkF m 16 #[.val (.long q1), .second, .val (.long q2), .second, .val (.int p3), .val (.long (own_pick q1 p3)), .second, .unset, .unset, .unset, .unset] [(.long (own_pick q2 (p3 >>> ((2 : Int32) &&& 31))))])) _
    refine XS.lstore X102.here hx rfl (hb hby at_16) rfl (l' := #[.val (.long q1), .second, .val (.long q2), .second, .val (.int p3), .val (.long (own_pick q1 p3)), .second, .val (.long (own_pick q2 (p3 >>> ((2 : Int32) &&& 31)))), .second, .unset, .unset]) rfl ?_
    show Steps p.tables e below (T102.setTop (mkF m 18 #[.val (.long q1), .second, .val (.long q2), .second, .val (.int p3), .val (.long (own_pick q1 p3)), .second, .val (.long (own_pick q2 (p3 >>> ((2 : Int32) &&& 31)))), .second, .unset, .unset] [])) _
    refine XS.lload X102.here hx rfl (hb hby at_18) rfl ?_
    show Steps p.tables e below (T102.setTop (mkF m 20 #[.val (.long q1), .second, .val (.long q2), .second, .val (.int p3), .val (.long (own_pick q1 p3)), .second, .val (.long (own_pick q2 (p3 >>> ((2 : Int32) &&& 31)))), .second, .unset, .unset] [(.long (own_pick q1 p3))])) _
    refine XS.lload X102.here hx rfl (hb hby at_20) rfl ?_
    show Steps p.tables e below (T102.setTop (mkF m 22 #[.val (.long q1), .second, .val (.long q2), .second, .val (.int p3), .val (.long (own_pick q1 p3)), .second, .val (.long (own_pick q2 (p3 >>> ((2 : Int32) &&& 31)))), .second, .unset, .unset] [(.long (own_pick q2 (p3 >>> ((2 : Int32) &&& 31)))), (.long (own_pick q1 p3))])) _
    refine st103 _ ?_
    show Steps p.tables e below (T103.setTop (mkF m 25 #[.val (.long q1), .second, .val (.long q2), .second, .val (.int p3), .val (.long (own_pick q1 p3)), .second, .val (.long (own_pick q2 (p3 >>> ((2 : Int32) &&& 31)))), .second, .unset, .unset] [(.long (own_minus (own_pick q1 p3) (own_pick q2 (p3 >>> ((2 : Int32) &&& 31)))))])) _
    refine XS.lstore X103.here hx rfl (hb hby at_25) rfl (l' := #[.val (.long q1), .second, .val (.long q2), .second, .val (.int p3), .val (.long (own_pick q1 p3)), .second, .val (.long (own_pick q2 (p3 >>> ((2 : Int32) &&& 31)))), .second, .val (.long (own_minus (own_pick q1 p3) (own_pick q2 (p3 >>> ((2 : Int32) &&& 31))))), .second]) rfl ?_
    show Steps p.tables e below (T103.setTop (mkF m 27 #[.val (.long q1), .second, .val (.long q2), .second, .val (.int p3), .val (.long (own_pick q1 p3)), .second, .val (.long (own_pick q2 (p3 >>> ((2 : Int32) &&& 31)))), .second, .val (.long (own_minus (own_pick q1 p3) (own_pick q2 (p3 >>> ((2 : Int32) &&& 31))))), .second] [])) _
    refine XS.lload X103.here hx rfl (hb hby at_27) rfl ?_
    show Steps p.tables e below (T103.setTop (mkF m 29 #[.val (.long q1), .second, .val (.long q2), .second, .val (.int p3), .val (.long (own_pick q1 p3)), .second, .val (.long (own_pick q2 (p3 >>> ((2 : Int32) &&& 31)))), .second, .val (.long (own_minus (own_pick q1 p3) (own_pick q2 (p3 >>> ((2 : Int32) &&& 31))))), .second] [(.long (own_minus (own_pick q1 p3) (own_pick q2 (p3 >>> ((2 : Int32) &&& 31)))))])) _
    refine XS.lload X103.here hx rfl (hb hby at_29) rfl ?_
    show Steps p.tables e below (T103.setTop (mkF m 31 #[.val (.long q1), .second, .val (.long q2), .second, .val (.int p3), .val (.long (own_pick q1 p3)), .second, .val (.long (own_pick q2 (p3 >>> ((2 : Int32) &&& 31)))), .second, .val (.long (own_minus (own_pick q1 p3) (own_pick q2 (p3 >>> ((2 : Int32) &&& 31))))), .second] [(.long (own_pick q1 p3)), (.long (own_minus (own_pick q1 p3) (own_pick q2 (p3 >>> ((2 : Int32) &&& 31)))))])) _
    refine XS.lload X103.here hx rfl (hb hby at_31) rfl ?_
    show Steps p.tables e below (T103.setTop (mkF m 33 #[.val (.long q1), .second, .val (.long q2), .second, .val (.int p3), .val (.long (own_pick q1 p3)), .second, .val (.long (own_pick q2 (p3 >>> ((2 : Int32) &&& 31)))), .second, .val (.long (own_minus (own_pick q1 p3) (own_pick q2 (p3 >>> ((2 : Int32) &&& 31))))), .second] [(.long (own_pick q2 (p3 >>> ((2 : Int32) &&& 31)))), (.long (own_pick q1 p3)), (.long (own_minus (own_pick q1 p3) (own_pick q2 (p3 >>> ((2 : Int32) &&& 31)))))])) _
    refine st104 _ ?_
    show Steps p.tables e below (T104.setTop (mkF m 36 #[.val (.long q1), .second, .val (.long q2), .second, .val (.int p3), .val (.long (own_pick q1 p3)), .second, .val (.long (own_pick q2 (p3 >>> ((2 : Int32) &&& 31)))), .second, .val (.long (own_minus (own_pick q1 p3) (own_pick q2 (p3 >>> ((2 : Int32) &&& 31))))), .second] [(.long (own_exp (own_pick q1 p3) (own_pick q2 (p3 >>> ((2 : Int32) &&& 31))))), (.long (own_minus (own_pick q1 p3) (own_pick q2 (p3 >>> ((2 : Int32) &&& 31)))))])) _
    refine XS.lcmp X104.here hx rfl (hb hby at_36) rfl ?_
    show Steps p.tables e below (T104.setTop (mkF m 37 #[.val (.long q1), .second, .val (.long q2), .second, .val (.int p3), .val (.long (own_pick q1 p3)), .second, .val (.long (own_pick q2 (p3 >>> ((2 : Int32) &&& 31)))), .second, .val (.long (own_minus (own_pick q1 p3) (own_pick q2 (p3 >>> ((2 : Int32) &&& 31))))), .second] [(.int (lcmpW (own_minus (own_pick q1 p3) (own_pick q2 (p3 >>> ((2 : Int32) &&& 31)))) (own_exp (own_pick q1 p3) (own_pick q2 (p3 >>> ((2 : Int32) &&& 31))))))])) _
    refine XS.ifNo X104.here hx rfl (hb hby at_37) rfl ((if0 _ _).trans (teq ((lw_eq _ _).mpr (own_eq _ _) : (lcmpW (own_minus (own_pick q1 p3) (own_pick q2 (p3 >>> ((2 : Int32) &&& 31)))) (own_exp (own_pick q1 p3) (own_pick q2 (p3 >>> ((2 : Int32) &&& 31))))) = (0 : Int32))).2) ?_
    show Steps p.tables e below (T104.setTop (mkF m 40 #[.val (.long q1), .second, .val (.long q2), .second, .val (.int p3), .val (.long (own_pick q1 p3)), .second, .val (.long (own_pick q2 (p3 >>> ((2 : Int32) &&& 31)))), .second, .val (.long (own_minus (own_pick q1 p3) (own_pick q2 (p3 >>> ((2 : Int32) &&& 31))))), .second] [])) _
    refine XS.iconst X104.here hx rfl (hb hby at_40) ?_
    show Steps p.tables e below (T104.setTop (mkF m 41 #[.val (.long q1), .second, .val (.long q2), .second, .val (.int p3), .val (.long (own_pick q1 p3)), .second, .val (.long (own_pick q2 (p3 >>> ((2 : Int32) &&& 31)))), .second, .val (.long (own_minus (own_pick q1 p3) (own_pick q2 (p3 >>> ((2 : Int32) &&& 31))))), .second] [(.int (1 : Int32))])) _
    refine XS.goto X104.here hx rfl (pc0 := 41) (pc' := 45) rfl (hb hby at_41) (by decide) (by decide) ?_
    show Steps p.tables e below (T104.setTop (mkF m 45 #[.val (.long q1), .second, .val (.long q2), .second, .val (.int p3), .val (.long (own_pick q1 p3)), .second, .val (.long (own_pick q2 (p3 >>> ((2 : Int32) &&& 31)))), .second, .val (.long (own_minus (own_pick q1 p3) (own_pick q2 (p3 >>> ((2 : Int32) &&& 31))))), .second] [(.int (1 : Int32))])) _
    exact retN X104 hx (t := .boolean) Bd.returns (by simp) (hb hby at_45) hr
  · show Q0 Z q1 q2 p3 h0 n0 _ T104.heap _
    rw [Heq104]
    exact ⟨rfl, N104⟩
set_option maxRecDepth 65536 in
set_option maxHeartbeats 40000000 in
theorem comes_1 {Post : Tables → Env → Array Value → State → Outcome → State → Prop} (hpost : ∀ tb e args s v u, (limb_1_1.after args s (.returned v) u = true ∧ limb_1_2.after args s (.returned v) u = true ∧ True) → FrameEnd s (.returned v) u (Jvm.fieldLocs frame_1_writes args s ++ Jvm.arrayLocs frame_1_arrays args s ++ Jvm.staticLocs frame_1_statics s) 0 0 → Post tb e args s (.returned v) u) :
    ArmFor flags0 classFile x code maxLocals ret World_1 tables_1 room_1 Calls_1 rest_1 Pre_1 Post := by
  intro l hfl _ _ p e ha hc hk s m args below hf hA hF happ hP
  obtain ⟨hcalls, hrest, hpre⟩ := hP
  obtain ⟨-, -, -, hnamed, -, -, -, hat⟩ := (Spec.applies_iff hf).mp happ
  obtain ⟨hg, hn⟩ := and_e (Cond.before_iff.mp (show (Jvm.Cond.and given_1 narrow_1).before args s = true from hpre))
  obtain ⟨gc, ga0⟩ := and_e hg
  obtain ⟨gv0, ga1⟩ := and_e ga0
  obtain ⟨gv1, ga2⟩ := and_e ga1
  obtain ⟨w0, w1, w2, rfl⟩ : ∃ w0 w1 w2 : Value, args = #[w0, w1, w2] := by
    have hs : args.size = 3 := by simpa [Cond.value, given_1] using gc
    obtain ⟨L⟩ := args
    match L, hs with
    | [w0, w1, w2], _ => exact ⟨w0, w1, w2, rfl⟩
  have hw := fun d (hd : d ∈ tables_1) => atoms_spec (ws := Jvm.Cond.code x code maxLocals ret :: tables_1) hat d (List.mem_cons_of_mem _ hd)
  have hfit : Fit s := fun {y c} hc i hi => by
    obtain ⟨ha, rfl⟩ := Array.getElem?_eq_some_iff.mp hc
    have q := List.all_eq_true.mp ((Array.all_eq_true_iff_forall_mem.mp hF) _ (Array.getElem_mem ha)) i (List.mem_range.mpr hi)
    simpa [Array.getElem?_eq_getElem hi] using q
  obtain ⟨i0, ei0⟩ := isL_v gv0
  obtain rfl : w0 = (.long i0) := Option.some.inj ei0
  obtain ⟨i1, ei1⟩ := isL_v gv1
  obtain rfl : w1 = (.long i1) := Option.some.inj ei1
  obtain ⟨i2, ei2⟩ := is_v ga2
  obtain rfl : w2 = (.int i2) := Option.some.inj ei2
  obtain ⟨n, o, h1, h2, h3, _, L, rfl, ⟨rfl, N⟩, hq⟩ := rm0 l s _ hw tables_1 i0 i1 i2 s.heap s.heap.size (Nat.le_refl _)  p e ha hc hk s m _ below hf ((Spec.applies_iff_loose hf).mp happ).1 ⟨rfl, State.Warmed39.refl s, rfl⟩ trivial
  refine ⟨n, _, h1, h2, h3, hpost _ _ _ _ _ _ ⟨Cond.after_iff.mpr rfl, Cond.after_iff.mpr (eq_i res_at (Term.int_eval (1)) rfl), trivial⟩ ⟨hq.1, hq.2.1, (hq.2.2.sift fun y hy => Or.inr (N y hy)).mono (by decide) (by decide)⟩⟩
theorem main_1_1 : Claimed_1_1 := comes_1 fun _ _ _ _ _ _ h hF => ⟨h.1, hF⟩
theorem main_1_2 : Claimed_1_2 := comes_1 fun _ _ _ _ _ _ h hF => ⟨h.2.1, hF⟩
end Jvm.Pilot.@@N@@
namespace Jvm.Pilot.@@N@@
open Jvm Jvm.ClassFile Sem Op Lib Jvm.Free Jvm.Stand Jvm.Pilot.@@N@@.Jvm.D
/-! MADE BY PROGRAM (witnessworld.py) out of the Statement's table words and the real class files: 9 classes; the members and pool entries that the words name. The judged class is class 1, her method 3. -/
namespace start1
open Jvm.ClassFile
def u (s : String) : CpInfo := .utf8 (stringToUtf16 s)
/-- a pool by its gaps: so many unusable entries, then the entry; so many at the end -/
def gap : Nat → List CpInfo → List CpInfo
  | 0, r => r
  | n + 1, r => .unusable :: gap n r
def poolList (es : List (Nat × CpInfo)) (last : Nat) : List CpInfo := es.foldr (fun e r => gap e.1 (e.2 :: r)) (gap last [])
def pool (es : List (Nat × CpInfo)) (last : Nat) : Array CpInfo := ⟨poolList es last⟩
def fileOf (pool : Array CpInfo) (this : Nat) (attrs : Array Attribute := #[]) (ms : Array MethodInfo := #[]) (fl : Nat := 33) (sup : Nat := 0) (ifs : Array Nat := #[]) (fds : Array FieldInfo := #[]) : ClassFile where
  minorVersion := 0
  majorVersion := 65
  constantPool := pool
  accessFlags := fl
  thisClass := this
  superClass := sup
  interfaces := ifs
  fields := fds
  methods := ms
  attributes := attrs
def plain (name : String) (sup : Option ClassId) : Class where
  name := name
  kind := .ordinary
  loader := none
  accessFlags := 33
  super := sup
  interfaces := #[]
  cf := none
  fields := #[]
  methods := #[]
  instanceTypes := #[]
  staticTypes := #[]
  resolved := #[]
  callSites := []
  init := .initialized
  statics := none
  mirror := none

def pool0 : Array CpInfo := pool [(5, u "<init>"), (0, u "()V"), (1, .class_ 10), (1, u "java/lang/Object")] 113

def k0m0 : Method := { name := "<init>", desc := "()V", sig := { parameters := [], returnType := none }, accessFlags := 1, code := none }
/-- java/lang/Object -/
def k0 : Class := { plain "java/lang/Object" none with
  accessFlags := 33
  interfaces := #[]
  cf := some (fileOf pool0 8 #[] #[{ accessFlags := 1, nameIndex := 5, descriptorIndex := 6, attributes := #[] }] 33 0 #[] #[])
  fields := #[]
  methods := #[k0m0]
  instanceTypes := #[]
  staticTypes := #[]
  resolved := Array.replicate 124 none
  statics := none }

def pool1 : Array CpInfo := pool [(2, .class_ 4), (1, u "java/lang/Object"), (0, u "<init>"), (0, u "()V"), (2, .long 9223372036854775807), (1, .long 65535), (1, .long 9223372036854775808), (1, .long 255), (1, .long 128), (1, .methodref 20 21), (0, .class_ 22), (0, .nameAndType 23 24), (0, u "com/example/prequential/prequential/exact/CheckedLongMinusPinLaw"), (0, u "pick"), (0, u "(JI)J"), (0, .methodref 26 27), (0, .class_ 28), (0, .nameAndType 29 30), (0, u "com/example/prequential/prequential/exact/CheckedLong"), (0, u "minus"), (0, u "(JJ)J"), (0, .methodref 20 32), (0, .nameAndType 33 30), (0, u "expected"), (3, u "law"), (0, u "(JJI)Z")] 2

def k1m0 : Method := { name := "<init>", desc := "()V", sig := { parameters := [], returnType := none }, accessFlags := 1, code := none }
def k1c1 : Code := { maxStack := 6, maxLocals := 4, code := method_2_code, exceptionTable := #[], attributes := #[] }
def k1m1 : Method := { name := "pick", desc := "(JI)J", sig := { parameters := [.long, .int], returnType := some .long }, accessFlags := 10, code := some k1c1 }
def k1c2 : Code := { maxStack := 6, maxLocals := 4, code := method_3_code, exceptionTable := #[], attributes := #[] }
def k1m2 : Method := { name := "expected", desc := "(JJ)J", sig := { parameters := [.long, .long], returnType := some .long }, accessFlags := 10, code := some k1c2 }
def k1c3 : Code := { maxStack := 6, maxLocals := 11, code := code, exceptionTable := #[], attributes := #[] }
def k1m3 : Method := { name := "law", desc := "(JJI)Z", sig := { parameters := [.long, .long, .int], returnType := some .boolean }, accessFlags := 9, code := some k1c3 }
/-- com/example/prequential/prequential/exact/CheckedLongMinusPinLaw -/
def k1 : Class := { plain "com/example/prequential/prequential/exact/CheckedLongMinusPinLaw" (some 0) with
  accessFlags := 49
  interfaces := #[]
  cf := some (fileOf pool1 20 #[] #[{ accessFlags := 1, nameIndex := 5, descriptorIndex := 6, attributes := #[] }, { accessFlags := 10, nameIndex := 23, descriptorIndex := 24, attributes := #[] }, { accessFlags := 10, nameIndex := 33, descriptorIndex := 30, attributes := #[] }, { accessFlags := 9, nameIndex := 37, descriptorIndex := 38, attributes := #[] }] 49 2 #[] #[])
  fields := #[]
  methods := #[k1m0, k1m1, k1m2, k1m3]
  instanceTypes := #[]
  staticTypes := #[]
  resolved := Array.replicate 41 none
  statics := none }

def pool2 : Array CpInfo := pool [(4, .class_ 6), (1, u "java/lang/Object"), (0, u "<init>"), (0, u "()V"), (0, .long 9223372036854775808), (1, .class_ 12), (0, u "com/example/prequential/prequential/exact/CheckedLong"), (6, u "POWERS_OF_TEN"), (0, u "[J"), (2, u "SCALABLE"), (3, u "(JJ)J"), (18, u "OUT_OF_RANGE"), (0, u "J"), (6, u "minus")] 4

def k2m0 : Method := { name := "<init>", desc := "()V", sig := { parameters := [], returnType := none }, accessFlags := 2, code := none }
def k2c1 : Code := { maxStack := 6, maxLocals := 6, code := prog_31_method_6_code, exceptionTable := #[], attributes := #[] }
def k2m1 : Method := { name := "minus", desc := "(JJ)J", sig := { parameters := [.long, .long], returnType := some .long }, accessFlags := 9, code := some k2c1 }
/-- com/example/prequential/prequential/exact/CheckedLong -/
def k2 : Class := { plain "com/example/prequential/prequential/exact/CheckedLong" (some 0) with
  accessFlags := 49
  interfaces := #[]
  cf := some (fileOf pool2 11 #[] #[{ accessFlags := 2, nameIndex := 7, descriptorIndex := 8, attributes := #[] }, { accessFlags := 9, nameIndex := 54, descriptorIndex := 27, attributes := #[] }] 49 4 #[] #[{ accessFlags := 25, nameIndex := 46, descriptorIndex := 47, attributes := #[] }, { accessFlags := 26, nameIndex := 19, descriptorIndex := 20, attributes := #[] }, { accessFlags := 26, nameIndex := 23, descriptorIndex := 20, attributes := #[] }])
  fields := #[{ name := "OUT_OF_RANGE", type := .long, accessFlags := 25, slot := 0, constantValue := 0 }, { name := "POWERS_OF_TEN", type := (.array .long), accessFlags := 26, slot := 1, constantValue := 0 }, { name := "SCALABLE", type := (.array .long), accessFlags := 26, slot := 2, constantValue := 0 }]
  methods := #[k2m0, k2m1]
  instanceTypes := #[]
  staticTypes := #[.long, (.array .long), (.array .long)]
  resolved := Array.replicate 59 none
  statics := none }

def pool3 : Array CpInfo := pool [(1, u "java/lang/Cloneable"), (0, .class_ 1), (0, u "java/lang/Object"), (0, .class_ 3)] 3

/-- java/lang/Cloneable -/
def k3 : Class := { plain "java/lang/Cloneable" (some 0) with
  accessFlags := 1537
  interfaces := #[]
  cf := some (fileOf pool3 2 #[] #[] 1537 4 #[] #[])
  fields := #[]
  methods := #[]
  instanceTypes := #[]
  staticTypes := #[]
  resolved := Array.replicate 8 none
  statics := none }

def pool4 : Array CpInfo := pool [(1, u "java/io/Serializable"), (0, .class_ 1), (0, u "java/lang/Object"), (0, .class_ 3)] 3

/-- java/io/Serializable -/
def k4 : Class := { plain "java/io/Serializable" (some 0) with
  accessFlags := 1537
  interfaces := #[]
  cf := some (fileOf pool4 2 #[] #[] 1537 4 #[] #[])
  fields := #[]
  methods := #[]
  instanceTypes := #[]
  staticTypes := #[]
  resolved := Array.replicate 8 none
  statics := none }

/-- the primitive byte -/
def k5 : Class := { plain "byte" none with kind := .primitive 'B', accessFlags := 0x411 }
/-- [B -/
def k6 : Class := { plain "[B" (some 0) with kind := .array 5 .byte, interfaces := #[3, 4], accessFlags := 1041 }

/-- the primitive int -/
def k7 : Class := { plain "int" none with kind := .primitive 'I', accessFlags := 0x411 }
/-- [I -/
def k8 : Class := { plain "[I" (some 0) with kind := .array 7 .int, interfaces := #[3, 4], accessFlags := 1041 }

def heap : Heap := #[]
def classes : Array Class := #[k0, k1, k2, k3, k4, k5, k6, k7, k8]
def interned : List (Array UInt16 × Addr) := []
def slotsUsed : Nat := 0
def theMethod : MethodId := ⟨1, 3⟩
def args0 : Array Value := #[.long 5, .long 6, .int 7]
def aboutOver (below : List Frame) : State where
  vm := { classes := classes, interned := interned.toArray }
  heap := heap
  slotsUsed := slotsUsed
  threads := #[{ frames := .invoking theMethod args0 :: below }]
def below0 : List Frame := [.native { method := ⟨0, 0⟩, args := #[] }]
def about1 : State := aboutOver below0
def p0 : Program := .bare "" "" ""
def e0 : Env := launch0.env 0 0 0
theorem w_frames : about1.frames = Frame.invoking theMethod args0 :: below0 := rfl
set_option maxRecDepth 65536 in
theorem w_args : argsFit about1.vm theMethod args0 = true := by decide +kernel
set_option maxRecDepth 65536 in
theorem w_heap : heapFits about1 = true := by decide +kernel
set_option maxRecDepth 65536 in
theorem w_runnable : about1.curStatus? = some .runnable := by decide +kernel
set_option maxRecDepth 65536 in
theorem w_alone : about1.alone = true := by decide +kernel
set_option maxRecDepth 65536 in
theorem w_named : about1.methodNamed? x = some theMethod := by decide +kernel
set_option maxRecDepth 65536 in
theorem w_hears : about1.hears theMethod below0 = true := by decide +kernel
set_option maxRecDepth 65536 in
theorem w_ripe : about1.ripe theMethod args0 below0 = true := by decide +kernel
theorem w_running : about1.status = .running := rfl
set_option maxRecDepth 65536 in
theorem w_room : about1.hasRoom e0.platform room_1 = true :=
  launch0.hasRoom_least _ room_1 (by decide +kernel) (by decide +kernel) (by decide +kernel) (by decide +kernel) (by decide +kernel) (by decide +kernel)
theorem allAtoms_all (ts : List Jvm.Cond) (a : Array Jvm.Value) (st : Jvm.State) : (allAtoms ts).before a st = ts.all (fun c => c.before a st) := by
  induction ts with
  | nil => rfl
  | cons c t ih =>
    show (Jvm.Cond.and c (allAtoms t)).before a st = _
    rw [Jvm.Cond.before_and, ih, List.all_cons]
def words1 : List Jvm.Cond := Jvm.Cond.code x code maxLocals ret :: tables_1
/-- a 'code' word, met by the world's own term for the bytes: nothing is compared byte by byte -/
theorem code_word {y : MethodName} {bytes : ByteArray} {mx : Nat} {rt : Option FieldType} {a : Array Value} {s : State} {m : MethodId} {meth : Method} {c : Code} (h1 : s.methodNamed? y = some m) (h2 : s.vm.method? m = some meth) (h3 : meth.code = some c) (h4 : c.code = bytes)
    (h5 : (c.maxLocals == mx && c.exceptionTable.isEmpty && decide (c.maxStack ≤ mostOperands) && decide (meth.sig.returnType = rt) && !meth.locks && decide (parseMethodDescriptor y.desc = some meth.sig)) = true) : (Jvm.Cond.code y bytes mx rt).before a s = true := by
  simp only [Bool.and_eq_true, beq_iff_eq, Bool.not_eq_true', decide_eq_true_eq] at h5
  obtain ⟨⟨⟨⟨⟨g1, g2⟩, g3⟩, g4⟩, g5⟩, g6⟩ := h5
  simp [Cond.before, Cond.holds, Cond.value, h1, h2, h3, h4, g1, g2, g3, g4, g5, g6]
def isCode : Jvm.Cond → Bool
  | .code _ _ _ _ => true
  | _ => false
theorem all_split {L : List Jvm.Cond} {P : Jvm.Cond → Bool} (h1 : L.all (fun c => isCode c || P c) = true) (h2 : ∀ c ∈ L.filter isCode, P c = true) : L.all P = true := by
  refine List.all_eq_true.mpr fun c hc => ?_
  have h := List.all_eq_true.mp h1 c hc
  rcases Bool.eq_false_or_eq_true (isCode c) with hi | hi
  · exact h2 c (List.mem_filter.mpr ⟨hc, hi⟩)
  · simpa [hi] using h
set_option maxRecDepth 65536 in
theorem w_c0 : (Jvm.Cond.code x code maxLocals ret).before args0 about1 = true := code_word (m := ⟨1, 3⟩) (meth := k1m3) (c := k1c3) (by decide +kernel) rfl rfl rfl (by decide +kernel)
set_option maxRecDepth 65536 in
theorem w_c1 : (Jvm.Cond.code ({ cls := "com/example/prequential/prequential/exact/CheckedLongMinusPinLaw", name := "pick", desc := "(JI)J" } : Jvm.MethodName) method_2_code (4 : Nat) (Option.some Jvm.ClassFile.FieldType.long)).before args0 about1 = true := code_word (m := ⟨1, 1⟩) (meth := k1m1) (c := k1c1) (by decide +kernel) rfl rfl rfl (by decide +kernel)
set_option maxRecDepth 65536 in
theorem w_c2 : (Jvm.Cond.code ({ cls := "com/example/prequential/prequential/exact/CheckedLong", name := "minus", desc := "(JJ)J" } : Jvm.MethodName) prog_31_method_6_code (6 : Nat) (Option.some Jvm.ClassFile.FieldType.long)).before args0 about1 = true := code_word (m := ⟨2, 1⟩) (meth := k2m1) (c := k2c1) (by decide +kernel) rfl rfl rfl (by decide +kernel)
set_option maxRecDepth 65536 in
theorem w_c3 : (Jvm.Cond.code ({ cls := "com/example/prequential/prequential/exact/CheckedLongMinusPinLaw", name := "expected", desc := "(JJ)J" } : Jvm.MethodName) method_3_code (4 : Nat) (Option.some Jvm.ClassFile.FieldType.long)).before args0 about1 = true := code_word (m := ⟨1, 2⟩) (meth := k1m2) (c := k1c2) (by decide +kernel) rfl rfl rfl (by decide +kernel)
def codes1 : List Jvm.Cond := [Jvm.Cond.code x code maxLocals ret, Jvm.Cond.code ({ cls := "com/example/prequential/prequential/exact/CheckedLongMinusPinLaw", name := "pick", desc := "(JI)J" } : Jvm.MethodName) method_2_code (4 : Nat) (Option.some Jvm.ClassFile.FieldType.long), Jvm.Cond.code ({ cls := "com/example/prequential/prequential/exact/CheckedLong", name := "minus", desc := "(JJ)J" } : Jvm.MethodName) prog_31_method_6_code (6 : Nat) (Option.some Jvm.ClassFile.FieldType.long), Jvm.Cond.code ({ cls := "com/example/prequential/prequential/exact/CheckedLongMinusPinLaw", name := "expected", desc := "(JJ)J" } : Jvm.MethodName) method_3_code (4 : Nat) (Option.some Jvm.ClassFile.FieldType.long)]
set_option maxRecDepth 65536 in
theorem codes_eq : words1.filter isCode = codes1 := rfl
theorem w_codes : ∀ c ∈ words1.filter isCode, c.before args0 about1 = true := by
  rw [codes_eq]
  intro c hc
  simp only [codes1, List.mem_cons, List.not_mem_nil, or_false] at hc
  rcases hc with rfl | rfl | rfl | rfl
  · exact w_c0
  · exact w_c1
  · exact w_c2
  · exact w_c3
set_option maxRecDepth 65536 in
theorem w_t1 : words1.all (fun c => isCode c || c.before args0 about1) = true := by decide +kernel
theorem w_tables : (allAtoms (Jvm.Cond.code x code maxLocals ret :: tables_1)).before args0 about1 = true := by
  rw [allAtoms_all]
  show words1.all (fun c => c.before args0 about1) = true
  refine all_split ?_ w_codes
  rw [w_t1]
set_option maxRecDepth 65536 in
theorem w_case : (Jvm.Cond.and given_1 narrow_1).before args0 about1 = true := by decide +kernel
theorem w_applies : (headSpec (Jvm.Cond.code x code maxLocals ret :: tables_1) room_1).applies x e0.platform about1 = true :=
  (Spec.applies_iff w_frames).mpr ⟨w_running, w_runnable, w_alone, w_named, w_hears, w_ripe, w_room, w_tables⟩
theorem atStart : AtStart classFile x code maxLocals ret World_1 tables_1 room_1 Calls_1 rest_1 Pre_1 launch0 p0 e0 about1 theMethod args0 below0 :=
  ⟨lists_1, trivial, launch0.admits_env _ _ _, launch0.least_env, fairChoices_fair.cas, fairChoices_fair.clock, w_frames, w_args, w_heap, w_applies, trivial, trivial, w_case⟩
end start1
theorem witness_1 : WitnessClaimed_1 := ⟨start1.p0, start1.e0, start1.about1, start1.theMethod, start1.args0, start1.below0, start1.atStart⟩
end Jvm.Pilot.@@N@@
