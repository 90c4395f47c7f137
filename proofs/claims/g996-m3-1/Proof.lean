import JvmDerived
import JvmDerived.Pilot.@@N@@Statement
import JvmDerived.Pilot.@@N@@Code
set_option linter.unusedVariables false
set_option linter.unusedSimpArgs false
namespace Jvm.RoadKit
open Sem ClassFile Op Lib Jvm.Stand Jvm.Free Jvm.LawKit
section New
variable {p : Program} {l : Launch} {e : Env} {R : Room} {s : State} {m : MethodId} {args : Array Value} {below : List Frame} {meth : Method} {c : Code} {T : State} {locs : List Loc} {cells slots : Nat}
theorem retI (X : Stand p l e R s m args below meth c T locs cells slots) (hx : p.tables.exec = Jvm.exec) {pc : Nat} {Ls : Array Slot} {z : Int32} {rest : List Value} (hret : meth.sig.returnType = some .int) (hd : decode c.code pc = .ok (.ireturn, 1)) {fs : List Frame}
    (hl : ∀ (f : JFrame) (acts : List Action), f.method = m → f.locked = none → f.entered = [] → (doReturn e (T.setTop f) acts (some (.int z))).1 = T.setFrames fs) : Steps p.tables e below (T.setTop (mkF m pc Ls (.int z :: rest))) (T.setFrames fs) := by
  have hm' : T.vm.method? m = some meth := X.method'
  have hn : narrow .int (.int z) = .int z := rfl
  show Steps p.tables e below (T.setTop { method := m, pc := pc, locals := Ls, stack := _ :: rest, locked := none }) _
  jvm_step X.here [X.here.top, hx, hd, hm', hret, hn]
  first | (intro acts; rw [hl _ acts rfl rfl rfl]) | rw [hl _ _ rfl rfl rfl]
  exact Steps.refl _
end New
end Jvm.RoadKit
namespace Jvm.Pilot.@@N@@
open Jvm Jvm.ClassFile Sem Op Lib Jvm.Free Jvm.Stand Jvm.LawKit Jvm.RoadKit Bundle Jvm.Pilot.@@N@@.Jvm.D
/-- what a walk that stands at A still owes -/
def own_G (p : Program) (e : Env) (below : List Frame) (s : State) (Q : Option Value → Heap → List Loc → Prop) (rc rs : Nat) (A : State) : Prop :=
  ∃ s₂ o, Steps p.tables e below A s₂ ∧ s₂.status = .running ∧ Ended s₂ below o ∧ ∃ v L, o = .returned v ∧ Q v s₂.heap L ∧ FrameEnd s o s₂ L rc rs
theorem own_go {p : Program} {e : Env} {below : List Frame} {s : State} {Q : Option Value → Heap → List Loc → Prop} {rc rs : Nat} {A B : State} (st : ∀ t, Steps p.tables e below B t → Steps p.tables e below A t) (k : own_G p e below s Q rc rs B) : own_G p e below s Q rc rs A := by
  obtain ⟨s₂, o, h, r⟩ := k
  exact ⟨s₂, o, st _ h, r⟩
theorem own_leave {p : Program} {l : Launch} {e : Env} {R : Room} {s : State} {m : MethodId} {args : Array Value} {below : List Frame} {meth : Method} {c : Code} {T : State} {locs : List Loc} {cells slots : Nat} {Q : Option Value → Heap → List Loc → Prop} {rc rs : Nat} {g : JFrame} (X : Stand p l e R s m args below meth c T locs cells slots) (v : Option Value) (hv : meth.sig.returnType = none → v = none) (hlk : meth.locks = false)
    (st : ∀ fs, (∀ (f : JFrame) (acts : List Action), f.method = m → f.locked = none → f.entered = [] → (doReturn e (T.setTop f) acts v).1 = T.setFrames fs) → Steps p.tables e below (T.setTop g) (T.setFrames fs)) (hQ : Q v T.heap locs) (hc : cells ≤ rc) (hs : slots ≤ rs) : own_G p e below s Q rc rs (T.setTop g) := by
  obtain ⟨fs, hr, hrun, hended, hW, hsame⟩ := X.leave (v := v) hv hlk
  exact ⟨_, _, st fs hr, hrun, hended, _, _, rfl, hQ, ⟨_, rfl⟩, hW, hsame.mono hc hs⟩
def own_max (a b : Int32) : Int32 := if a < b then b else a
def own_min (a b : Int32) : Int32 := if b < a then b else a
def own_sign (x : Int32) : Int32 := own_max (-1) (own_min 1 x)
/-- Long.compare -/
def own_lc (x y : Int64) : Int32 := if x < y then -1 else if x = y then 0 else 1
theorem own_lc_lt {x y : Int64} (h : x < y) : own_lc x y = -1 := if_pos h
theorem own_lc_eq {x y : Int64} (h : ¬ x < y) (h2 : x = y) : own_lc x y = 0 := (if_neg h).trans (if_pos h2)
theorem own_lc_gt {x y : Int64} (h : ¬ x < y) (h2 : ¬ x = y) : own_lc x y = 1 := (if_neg h).trans (if_neg h2)
/-- compareTo -/
def own_cmp (a1 b1 c1 a2 b2 c2 : Int64) : Int32 := if a1 = a2 then (if b1 = b2 then own_lc c1 c2 else own_lc b1 b2) else own_lc a1 a2
theorem own_cmp_a {a1 b1 c1 a2 b2 c2 : Int64} (h : ¬ a1 = a2) : own_cmp a1 b1 c1 a2 b2 c2 = own_lc a1 a2 := if_neg h
theorem own_cmp_b {a1 b1 c1 a2 b2 c2 : Int64} (h : a1 = a2) (h2 : ¬ b1 = b2) : own_cmp a1 b1 c1 a2 b2 c2 = own_lc b1 b2 := (if_pos h).trans (if_neg h2)
theorem own_cmp_c {a1 b1 c1 a2 b2 c2 : Int64} (h : a1 = a2) (h2 : b1 = b2) : own_cmp a1 b1 c1 a2 b2 c2 = own_lc c1 c2 := (if_pos h).trans (if_pos h2)
theorem own_irr (a : Int64) : ¬ a < a := by rw [Int64.lt_iff_toInt_lt]; omega
theorem own_asym {a b : Int64} (h : a < b) : ¬ b < a := by rw [Int64.lt_iff_toInt_lt] at *; omega
theorem own_ne_lt {a b : Int64} (h : a < b) : ¬ a = b := fun q => own_irr b (q ▸ h)
theorem own_eq2 {a b : Int64} (h : ¬ a < b) (h2 : ¬ b < a) : a = b := Int64.toInt_inj.mp (by rw [Int64.lt_iff_toInt_lt] at *; omega)
theorem own_lc_gt' {a b : Int64} (h : b < a) : own_lc a b = 1 := own_lc_gt (own_asym h) (fun q => own_ne_lt h q.symm)
theorem own_sm : own_sign (-1) = -1 := by decide
theorem own_s0 : own_sign 0 = 0 := by decide
theorem own_s1 : own_sign 1 = 1 := by decide
/-- the law's own expectation, one way and the other -/
theorem own_both_lt_a {a1 b1 c1 a2 b2 c2 : Int64} (h : a1 < a2) : own_sign (own_cmp a1 b1 c1 a2 b2 c2) = -1 ∧ own_sign (own_cmp a2 b2 c2 a1 b1 c1) = - -1 := by
  rw [own_cmp_a (own_ne_lt h), own_cmp_a (fun q => own_ne_lt h q.symm), own_lc_lt h, own_lc_gt' h]; decide
theorem own_both_gt_a {a1 b1 c1 a2 b2 c2 : Int64} (h : a2 < a1) : own_sign (own_cmp a1 b1 c1 a2 b2 c2) = 1 ∧ own_sign (own_cmp a2 b2 c2 a1 b1 c1) = -1 := by
  rw [own_cmp_a (fun q => own_ne_lt h q.symm), own_cmp_a (own_ne_lt h), own_lc_lt h, own_lc_gt' h]; decide
theorem own_both_lt_b {a1 b1 c1 a2 b2 c2 : Int64} (e : a1 = a2) (h : b1 < b2) : own_sign (own_cmp a1 b1 c1 a2 b2 c2) = -1 ∧ own_sign (own_cmp a2 b2 c2 a1 b1 c1) = - -1 := by
  rw [own_cmp_b e (own_ne_lt h), own_cmp_b e.symm (fun q => own_ne_lt h q.symm), own_lc_lt h, own_lc_gt' h]; decide
theorem own_both_gt_b {a1 b1 c1 a2 b2 c2 : Int64} (e : a1 = a2) (h : b2 < b1) : own_sign (own_cmp a1 b1 c1 a2 b2 c2) = 1 ∧ own_sign (own_cmp a2 b2 c2 a1 b1 c1) = -1 := by
  rw [own_cmp_b e (fun q => own_ne_lt h q.symm), own_cmp_b e.symm (own_ne_lt h), own_lc_lt h, own_lc_gt' h]; decide
theorem own_both_lt_c {a1 b1 c1 a2 b2 c2 : Int64} (e : a1 = a2) (f : b1 = b2) (h : c1 < c2) : own_sign (own_cmp a1 b1 c1 a2 b2 c2) = -1 ∧ own_sign (own_cmp a2 b2 c2 a1 b1 c1) = - -1 := by
  rw [own_cmp_c e f, own_cmp_c e.symm f.symm, own_lc_lt h, own_lc_gt' h]; decide
theorem own_both_gt_c {a1 b1 c1 a2 b2 c2 : Int64} (e : a1 = a2) (f : b1 = b2) (h : c2 < c1) : own_sign (own_cmp a1 b1 c1 a2 b2 c2) = 1 ∧ own_sign (own_cmp a2 b2 c2 a1 b1 c1) = -1 := by
  rw [own_cmp_c e f, own_cmp_c e.symm f.symm, own_lc_lt h, own_lc_gt' h]; decide
theorem own_both_eq {a1 b1 c1 a2 b2 c2 : Int64} (e : a1 = a2) (f : b1 = b2) (g : c1 = c2) : own_sign (own_cmp a1 b1 c1 a2 b2 c2) = 0 ∧ own_sign (own_cmp a2 b2 c2 a1 b1 c1) = -0 := by
  rw [own_cmp_c e f, own_cmp_c e.symm f.symm, g, own_lc_eq (own_irr c2) rfl]; decide
theorem d1_0 : decode prog_62_method_1_code 0 = .ok (.aload_n 0, 1) := by decide +kernel
theorem d1_1 : decode prog_62_method_1_code 1 = .ok (.invokespecial 1, 3) := by decide +kernel
theorem d1_4 : decode prog_62_method_1_code 4 = .ok (.aload_n 0, 1) := by decide +kernel
theorem d1_5 : decode prog_62_method_1_code 5 = .ok (.lload_n 1, 1) := by decide +kernel
theorem d1_6 : decode prog_62_method_1_code 6 = .ok (.putfield 7, 3) := by decide +kernel
theorem d1_9 : decode prog_62_method_1_code 9 = .ok (.aload_n 0, 1) := by decide +kernel
theorem d1_10 : decode prog_62_method_1_code 10 = .ok (.lload_n 3, 1) := by decide +kernel
theorem d1_11 : decode prog_62_method_1_code 11 = .ok (.putfield 13, 3) := by decide +kernel
theorem d1_14 : decode prog_62_method_1_code 14 = .ok (.aload_n 0, 1) := by decide +kernel
theorem d1_15 : decode prog_62_method_1_code 15 = .ok (.lload 5, 2) := by decide +kernel
theorem d1_17 : decode prog_62_method_1_code 17 = .ok (.putfield 16, 3) := by decide +kernel
theorem d1_20 : decode prog_62_method_1_code 20 = .ok (.return_, 1) := by decide +kernel
theorem d2_0 : decode jdk_30_method_1_code 0 = .ok (.aload_n 0, 1) := by decide +kernel
theorem d2_1 : decode jdk_30_method_1_code 1 = .ok (.invokespecial 1, 3) := by decide +kernel
theorem d2_4 : decode jdk_30_method_1_code 4 = .ok (.return_, 1) := by decide +kernel
theorem d4_0 : decode prog_62_method_8_code 0 = .ok (.aload_n 0, 1) := by decide +kernel
theorem d4_1 : decode prog_62_method_8_code 1 = .ok (.getfield 7, 3) := by decide +kernel
theorem d4_4 : decode prog_62_method_8_code 4 = .ok (.aload_n 1, 1) := by decide +kernel
theorem d4_5 : decode prog_62_method_8_code 5 = .ok (.getfield 7, 3) := by decide +kernel
theorem d4_8 : decode prog_62_method_8_code 8 = .ok (.lcmp, 1) := by decide +kernel
theorem d4_9 : decode prog_62_method_8_code 9 = .ok (.ifCond .eq 15, 3) := by decide +kernel
theorem d4_12 : decode prog_62_method_8_code 12 = .ok (.aload_n 0, 1) := by decide +kernel
theorem d4_13 : decode prog_62_method_8_code 13 = .ok (.getfield 7, 3) := by decide +kernel
theorem d4_16 : decode prog_62_method_8_code 16 = .ok (.aload_n 1, 1) := by decide +kernel
theorem d4_17 : decode prog_62_method_8_code 17 = .ok (.getfield 7, 3) := by decide +kernel
theorem d4_20 : decode prog_62_method_8_code 20 = .ok (.invokestatic 26, 3) := by decide +kernel
theorem d4_23 : decode prog_62_method_8_code 23 = .ok (.ireturn, 1) := by decide +kernel
theorem d4_24 : decode prog_62_method_8_code 24 = .ok (.aload_n 0, 1) := by decide +kernel
theorem d4_25 : decode prog_62_method_8_code 25 = .ok (.getfield 13, 3) := by decide +kernel
theorem d4_28 : decode prog_62_method_8_code 28 = .ok (.aload_n 1, 1) := by decide +kernel
theorem d4_29 : decode prog_62_method_8_code 29 = .ok (.getfield 13, 3) := by decide +kernel
theorem d4_32 : decode prog_62_method_8_code 32 = .ok (.lcmp, 1) := by decide +kernel
theorem d4_33 : decode prog_62_method_8_code 33 = .ok (.ifCond .eq 15, 3) := by decide +kernel
theorem d4_36 : decode prog_62_method_8_code 36 = .ok (.aload_n 0, 1) := by decide +kernel
theorem d4_37 : decode prog_62_method_8_code 37 = .ok (.getfield 13, 3) := by decide +kernel
theorem d4_40 : decode prog_62_method_8_code 40 = .ok (.aload_n 1, 1) := by decide +kernel
theorem d4_41 : decode prog_62_method_8_code 41 = .ok (.getfield 13, 3) := by decide +kernel
theorem d4_44 : decode prog_62_method_8_code 44 = .ok (.invokestatic 26, 3) := by decide +kernel
theorem d4_47 : decode prog_62_method_8_code 47 = .ok (.ireturn, 1) := by decide +kernel
theorem d4_48 : decode prog_62_method_8_code 48 = .ok (.aload_n 0, 1) := by decide +kernel
theorem d4_49 : decode prog_62_method_8_code 49 = .ok (.getfield 16, 3) := by decide +kernel
theorem d4_52 : decode prog_62_method_8_code 52 = .ok (.aload_n 1, 1) := by decide +kernel
theorem d4_53 : decode prog_62_method_8_code 53 = .ok (.getfield 16, 3) := by decide +kernel
theorem d4_56 : decode prog_62_method_8_code 56 = .ok (.invokestatic 26, 3) := by decide +kernel
theorem d4_59 : decode prog_62_method_8_code 59 = .ok (.ireturn, 1) := by decide +kernel
theorem d5_0 : decode jdk_35_method_42_code 0 = .ok (.lload_n 0, 1) := by decide +kernel
theorem d5_1 : decode jdk_35_method_42_code 1 = .ok (.lload_n 2, 1) := by decide +kernel
theorem d5_2 : decode jdk_35_method_42_code 2 = .ok (.lcmp, 1) := by decide +kernel
theorem d5_3 : decode jdk_35_method_42_code 3 = .ok (.ifCond .ge 7, 3) := by decide +kernel
theorem d5_6 : decode jdk_35_method_42_code 6 = .ok (.iconst (-1), 1) := by decide +kernel
theorem d5_7 : decode jdk_35_method_42_code 7 = .ok (.goto 14, 3) := by decide +kernel
theorem d5_10 : decode jdk_35_method_42_code 10 = .ok (.lload_n 0, 1) := by decide +kernel
theorem d5_11 : decode jdk_35_method_42_code 11 = .ok (.lload_n 2, 1) := by decide +kernel
theorem d5_12 : decode jdk_35_method_42_code 12 = .ok (.lcmp, 1) := by decide +kernel
theorem d5_13 : decode jdk_35_method_42_code 13 = .ok (.ifCond .ne 7, 3) := by decide +kernel
theorem d5_16 : decode jdk_35_method_42_code 16 = .ok (.iconst 0, 1) := by decide +kernel
theorem d5_17 : decode jdk_35_method_42_code 17 = .ok (.goto 4, 3) := by decide +kernel
theorem d5_20 : decode jdk_35_method_42_code 20 = .ok (.iconst 1, 1) := by decide +kernel
theorem d5_21 : decode jdk_35_method_42_code 21 = .ok (.ireturn, 1) := by decide +kernel
theorem d6_0 : decode method_3_code 0 = .ok (.iconst (-1), 1) := by decide +kernel
theorem d6_1 : decode method_3_code 1 = .ok (.iconst 1, 1) := by decide +kernel
theorem d6_2 : decode method_3_code 2 = .ok (.iload_n 0, 1) := by decide +kernel
theorem d6_3 : decode method_3_code 3 = .ok (.invokestatic 24, 3) := by decide +kernel
theorem d6_6 : decode method_3_code 6 = .ok (.invokestatic 30, 3) := by decide +kernel
theorem d6_9 : decode method_3_code 9 = .ok (.ireturn, 1) := by decide +kernel
theorem d7_0 : decode jdk_29_method_69_code 0 = .ok (.iload_n 0, 1) := by decide +kernel
theorem d7_1 : decode jdk_29_method_69_code 1 = .ok (.iload_n 1, 1) := by decide +kernel
theorem d7_2 : decode jdk_29_method_69_code 2 = .ok (.if_icmp .gt 7, 3) := by decide +kernel
theorem d7_5 : decode jdk_29_method_69_code 5 = .ok (.iload_n 0, 1) := by decide +kernel
theorem d7_6 : decode jdk_29_method_69_code 6 = .ok (.goto 4, 3) := by decide +kernel
theorem d7_9 : decode jdk_29_method_69_code 9 = .ok (.iload_n 1, 1) := by decide +kernel
theorem d7_10 : decode jdk_29_method_69_code 10 = .ok (.ireturn, 1) := by decide +kernel
theorem d8_0 : decode jdk_29_method_65_code 0 = .ok (.iload_n 0, 1) := by decide +kernel
theorem d8_1 : decode jdk_29_method_65_code 1 = .ok (.iload_n 1, 1) := by decide +kernel
theorem d8_2 : decode jdk_29_method_65_code 2 = .ok (.if_icmp .lt 7, 3) := by decide +kernel
theorem d8_5 : decode jdk_29_method_65_code 5 = .ok (.iload_n 0, 1) := by decide +kernel
theorem d8_6 : decode jdk_29_method_65_code 6 = .ok (.goto 4, 3) := by decide +kernel
theorem d8_9 : decode jdk_29_method_65_code 9 = .ok (.iload_n 1, 1) := by decide +kernel
theorem d8_10 : decode jdk_29_method_65_code 10 = .ok (.ireturn, 1) := by decide +kernel
theorem pf2 : plainFor (⟨"java/lang/Record", "<init>", "()V"⟩ : MethodName) = true := by decide +kernel
theorem pd2 : parseMethodDescriptor "()V" = some ⟨[], none⟩ := by decide +kernel
theorem ef2 (m : MethodId) (x0 : Addr) : entryFrame m #[(.ref x0)] 1 = mkF m 0 #[.val (.ref x0)] [] := by first | (simp [entryFrame, mkF, argsToLocals, Value.category]; done) | rfl
def own_Q2 (h0 : Heap) (v : Option Value) (h : Heap) (L : List Loc) : Prop := v = none ∧ L = [] ∧ h = h0
set_option maxRecDepth 65536 in
set_option maxHeartbeats 40000000 in
theorem rm2 (l : Launch) (Z : State) (a0 : Array Value) (hw : ∀ d ∈ tables_1, d.before a0 Z = true) (ws : List Jvm.Cond) (a1 : Addr) (h0 : Heap) :
    MetFree l (⟨"java/lang/Record", "<init>", "()V"⟩ : MethodName) (head1 (Jvm.Cond.code (⟨"java/lang/Record", "<init>", "()V"⟩ : MethodName) jdk_30_method_1_code 1 none :: ws) ({ frames := 1, cells := 0, slots := 0, locals := 12 } : Room)) (fun a U => a = #[(.ref a1)] ∧ Z.Warmed39 U.vm ∧ U.heap = h0) (fun _ _ _ _ _ => True) (fun _ U o U' => ∃ v L, o = .returned v ∧ own_Q2 h0 v U'.heap L ∧ FrameEnd U o U' L ({ frames := 1, cells := 0, slots := 0, locals := 12 } : Room).cells ({ frames := 1, cells := 0, slots := 0, locals := 12 } : Room).slots) := by
  refine MetFree.of_bodySF pf2 hisR ?_
  intro p e s m args below meth c s₁ Bd hml0 hP hK
  obtain ⟨rfl, hZ, hh⟩ := hP
  have hx := Bd.exec
  have hby := Bd.bytes
  have hml : c.maxLocals = 1 := hml0
  have hown : s.vm.findClass "java/lang/Record" = some m.cls := findClass_of_methodNamed Bd.named
  have hnm := (name_of_methodNamed Bd.named Bd.method).1
  have X0 : Stand p l e ({ frames := 1, cells := 0, slots := 0, locals := 12 } : Room) s m #[(.ref a1)] below meth c s₁ [] 0 0 := Stand.of_body Bd
  have e0 : s₁.heap = h0 := by rw [← hh, Bd.state]; rfl
  refine (show own_G p e below s (own_Q2 h0) 0 0 (s₁.setTop (entryFrame m #[(.ref a1)] 1)) → _ from fun k => k) ?_
  refine own_go (fun t k => castTop (ef2 m a1) k) ?_
  show own_G p e below s (own_Q2 h0) 0 0 (s₁.setTop (mkF m 0 #[.val (.ref a1)] []))
  refine own_go (fun t k => XS.aloadN X0.here hx rfl (hb hby d2_0) rfl rfl k) ?_
  show own_G p e below s (own_Q2 h0) 0 0 (s₁.setTop (mkF m 1 #[.val (.ref a1)] [(.ref a1)]))
  obtain ⟨T101, X101, e101, st101⟩ := initO X0 hx hZ hown (hw _ (List.mem_of_getElem? (i := 12) rfl)) (hw _ (List.mem_of_getElem? (i := 13) rfl)) (hw _ (List.mem_of_getElem? (i := 14) rfl)) e0 (g := (mkF m 1 #[.val (.ref a1)] [(.ref a1)])) rfl (by rw [hml]; rfl) rfl (hb hby d2_1) (by decide) (W := 0) (by show 2 * 0 + _ ≤ _; exact Nat.le_of_eq rfl) (by decide)
  refine own_go st101 ?_
  show own_G p e below s (own_Q2 h0) 0 0 (T101.setTop (mkF m 4 #[.val (.ref a1)] []))
  exact own_leave X101 none (fun _ => rfl) Bd.notSynchronized (fun fs hr => X101.returnOut hx Bd.returns (hb hby d2_4) hr) ⟨rfl, rfl, e101⟩ (by decide) (by decide)
theorem pn1 : plainName "com/example/shiftloom/shiftloom/scoring/Score" = true := by first | (simp [plainName, overriddenIn]; done) | decide +kernel
theorem pd1 : parseMethodDescriptor "(JJJ)V" = some ⟨[.long, .long, .long], none⟩ := by decide +kernel
theorem ef1 (m : MethodId) (x0 : Addr) (x1 : Int64) (x2 : Int64) (x3 : Int64) : entryFrame m #[(.ref x0), (.long x1), (.long x2), (.long x3)] 7 = mkF m 0 #[.val (.ref x0), .val (.long x1), .second, .val (.long x2), .second, .val (.long x3), .second] [] := by first | (simp [entryFrame, mkF, argsToLocals, Value.category]; done) | rfl
def own_Q1 (Z : State) (a1 : Addr) (u1 u2 u3 : Int64) (h0 : Heap) (n0 : Nat) (v : Option Value) (h : Heap) (L : List Loc) : Prop := v = none ∧ Fr n0 L ∧ Keep h0 h [a1] ∧ Exa Z h a1 "com/example/shiftloom/shiftloom/scoring/Score" ∧ Fld Z h a1 "com/example/shiftloom/shiftloom/scoring/Score" "hard" "J" (.long u1) ∧ Fld Z h a1 "com/example/shiftloom/shiftloom/scoring/Score" "medium" "J" (.long u2) ∧ Fld Z h a1 "com/example/shiftloom/shiftloom/scoring/Score" "soft" "J" (.long u3)
set_option maxRecDepth 65536 in
set_option maxHeartbeats 40000000 in
theorem rm1 (l : Launch) (Z : State) (a0 : Array Value) (hw : ∀ d ∈ tables_1, d.before a0 Z = true) (ws : List Jvm.Cond) (a1 : Addr) (u1 u2 u3 : Int64) (h0 : Heap) (n0 : Nat) (Z0 : n0 ≤ h0.size) (F1 : Fld Z h0 a1 "com/example/shiftloom/shiftloom/scoring/Score" "hard" "J" (.long (0 : Int64))) (F2 : Fld Z h0 a1 "com/example/shiftloom/shiftloom/scoring/Score" "medium" "J" (.long (0 : Int64))) (F3 : Fld Z h0 a1 "com/example/shiftloom/shiftloom/scoring/Score" "soft" "J" (.long (0 : Int64))) (E0 : Exa Z h0 a1 "com/example/shiftloom/shiftloom/scoring/Score") (g0 : n0 ≤ a1) :
    MetFree l (⟨"com/example/shiftloom/shiftloom/scoring/Score", "<init>", "(JJJ)V"⟩ : MethodName) (head1 (Jvm.Cond.code (⟨"com/example/shiftloom/shiftloom/scoring/Score", "<init>", "(JJJ)V"⟩ : MethodName) prog_62_method_1_code 7 none :: ws) ({ frames := 2, cells := 0, slots := 0, locals := 24 } : Room)) (fun a U => a = #[(.ref a1), (.long u1), (.long u2), (.long u3)] ∧ Z.Warmed39 U.vm ∧ U.heap = h0) (fun _ _ _ _ _ => True) (fun _ U o U' => ∃ v L, o = .returned v ∧ own_Q1 Z a1 u1 u2 u3 h0 n0 v U'.heap L ∧ FrameEnd U o U' L ({ frames := 2, cells := 0, slots := 0, locals := 24 } : Room).cells ({ frames := 2, cells := 0, slots := 0, locals := 24 } : Room).slots) := by
  refine MetFree.of_bodySF (plainFor_of_name pn1) hisR ?_
  intro p e s m args below meth c s₁ Bd hml0 hP hK
  obtain ⟨rfl, hZ, hh⟩ := hP
  have hx := Bd.exec
  have hby := Bd.bytes
  have hml : c.maxLocals = 7 := hml0
  have hown : s.vm.findClass "com/example/shiftloom/shiftloom/scoring/Score" = some m.cls := findClass_of_methodNamed Bd.named
  have hnm := (name_of_methodNamed Bd.named Bd.method).1
  have X0 : Stand p l e ({ frames := 2, cells := 0, slots := 0, locals := 24 } : Room) s m #[(.ref a1), (.long u1), (.long u2), (.long u3)] below meth c s₁ [] 0 0 := Stand.of_body Bd
  have e0 : s₁.heap = h0 := by rw [← hh, Bd.state]; rfl
  refine (show own_G p e below s (own_Q1 Z a1 u1 u2 u3 h0 n0) 0 0 (s₁.setTop (entryFrame m #[(.ref a1), (.long u1), (.long u2), (.long u3)] 7)) → _ from fun k => k) ?_
  refine own_go (fun t k => castTop (ef1 m a1 u1 u2 u3) k) ?_
  show own_G p e below s (own_Q1 Z a1 u1 u2 u3 h0 n0) 0 0 (s₁.setTop (mkF m 0 #[.val (.ref a1), .val (.long u1), .second, .val (.long u2), .second, .val (.long u3), .second] []))
  have s12 : Jvm.RoadKit.slotOf Z "com/example/shiftloom/shiftloom/scoring/Score" "hard" "J" ≠ Jvm.RoadKit.slotOf Z "com/example/shiftloom/shiftloom/scoring/Score" "medium" "J" := Jvm.RoadKit.slot_ne (C := "com/example/shiftloom/shiftloom/scoring/Score") (t := .long) (t' := .long) (Or.inr (hw _ (List.mem_of_getElem? (i := 16) rfl))) (Or.inr (hw _ (List.mem_of_getElem? (i := 18) rfl))) (by decide) (by decide) (by decide)
  have s13 : Jvm.RoadKit.slotOf Z "com/example/shiftloom/shiftloom/scoring/Score" "hard" "J" ≠ Jvm.RoadKit.slotOf Z "com/example/shiftloom/shiftloom/scoring/Score" "soft" "J" := Jvm.RoadKit.slot_ne (C := "com/example/shiftloom/shiftloom/scoring/Score") (t := .long) (t' := .long) (Or.inr (hw _ (List.mem_of_getElem? (i := 16) rfl))) (Or.inr (hw _ (List.mem_of_getElem? (i := 20) rfl))) (by decide) (by decide) (by decide)
  have s23 : Jvm.RoadKit.slotOf Z "com/example/shiftloom/shiftloom/scoring/Score" "medium" "J" ≠ Jvm.RoadKit.slotOf Z "com/example/shiftloom/shiftloom/scoring/Score" "soft" "J" := Jvm.RoadKit.slot_ne (C := "com/example/shiftloom/shiftloom/scoring/Score") (t := .long) (t' := .long) (Or.inr (hw _ (List.mem_of_getElem? (i := 18) rfl))) (Or.inr (hw _ (List.mem_of_getElem? (i := 20) rfl))) (by decide) (by decide) (by decide)
  refine own_go (fun t k => XS.aloadN X0.here hx rfl (hb hby d1_0) rfl rfl k) ?_
  show own_G p e below s (own_Q1 Z a1 u1 u2 u3 h0 n0) 0 0 (s₁.setTop (mkF m 1 #[.val (.ref a1), .val (.long u1), .second, .val (.long u2), .second, .val (.long u3), .second] [(.ref a1)]))
  obtain ⟨_, _, ⟨T102, L102, k102, n102⟩, -, X102, ⟨Lc102, hQ102, l102, y102, z102⟩, st102⟩ := X0.specialBack hx (y := (⟨"java/lang/Record", "<init>", "()V"⟩ : MethodName)) rfl hown (mvT hZ (hw _ (List.mem_of_getElem? (i := 7) rfl))) (mvT hZ (hw _ (List.mem_of_getElem? (i := 8) rfl))) (mvT hZ (hw _ (List.mem_of_getElem? (i := 11) rfl))) (by decide) (backOf (W := 0) (rm2 l Z a0 hw [] a1 h0) hZ (hw _ (List.mem_of_getElem? (i := 11) rfl)) (hw _ (List.mem_of_getElem? (i := 10) rfl)) (by decide) (by decide)) (g := (mkF m 1 #[.val (.ref a1), .val (.long u1), .second, .val (.long u2), .second, .val (.long u3), .second] [(.ref a1)])) rfl (by rw [hml]; rfl) (Steps.refl _) (a := a1) (argsL := []) (rest := []) (lenOf pd2 rfl) rfl (by show 2 * 0 + _ ≤ _; exact Nat.le_of_eq rfl) (hb hby d1_1) (fun _ _ => ⟨rfl, e0, (by decide : 0 + 0 ≤ _), (by decide : 0 + 0 ≤ _)⟩)
  dsimp only [Pt.U, Pt.locs, Pt.cells, Pt.slots] at X102 l102 y102 z102 st102 hQ102
  subst l102 y102 z102
  obtain ⟨rfl, rfl, e102⟩ := hQ102
  refine own_go (fun t k => st102.trans k) ?_
  show own_G p e below s (own_Q1 Z a1 u1 u2 u3 h0 n0) 0 0 (T102.setTop (mkF m 4 #[.val (.ref a1), .val (.long u1), .second, .val (.long u2), .second, .val (.long u3), .second] []))
  refine own_go (fun t k => XS.aloadN X102.here hx rfl (hb hby d1_4) rfl rfl k) ?_
  show own_G p e below s (own_Q1 Z a1 u1 u2 u3 h0 n0) 0 0 (T102.setTop (mkF m 5 #[.val (.ref a1), .val (.long u1), .second, .val (.long u2), .second, .val (.long u3), .second] [(.ref a1)]))
  refine own_go (fun t k => XT.lloadN X102.here hx rfl (hb hby d1_5) rfl k) ?_
  show own_G p e below s (own_Q1 Z a1 u1 u2 u3 h0 n0) 0 0 (T102.setTop (mkF m 6 #[.val (.ref a1), .val (.long u1), .second, .val (.long u2), .second, .val (.long u3), .second] [(.long u1), (.ref a1)]))
  obtain ⟨T103, h103, X103, e103, W103, st103⟩ := putF X102 hx hZ hown (host := "") (Or.inl (hw _ (List.mem_of_getElem? (i := 15) rfl))) Via.refl e102 F1 E0 (Or.inr ⟨(hw _ (List.mem_of_getElem? (i := 16) rfl)), rfl, hnm⟩) (hw _ (List.mem_of_getElem? (i := 2) rfl)) (ty := .long) (by decide) rfl rfl (g := (mkF m 6 #[.val (.ref a1), .val (.long u1), .second, .val (.long u2), .second, .val (.long u3), .second] [(.long u1), (.ref a1)])) rfl rfl (hb hby d1_6)
  refine own_go st103 ?_
  show own_G p e below s (own_Q1 Z a1 u1 u2 u3 h0 n0) 0 0 (T103.setTop (mkF m 9 #[.val (.ref a1), .val (.long u1), .second, .val (.long u2), .second, .val (.long u3), .second] []))
  have N1 := Fr.snoc X103 (Fr.nil n0) g0
  have K1 : Keep h0 h103 [a1] := (Keep.refl _ _).wr W103 (Or.inl (List.mem_of_getElem? (i := 0) rfl))
  have E1 := E0.wr W103
  have F11 := F1.same W103
  have F12 := F2.other W103 (Or.inr s12.symm)
  have F13 := F3.other W103 (Or.inr s13.symm)
  refine own_go (fun t k => XS.aloadN X103.here hx rfl (hb hby d1_9) rfl rfl k) ?_
  show own_G p e below s (own_Q1 Z a1 u1 u2 u3 h0 n0) 0 0 (T103.setTop (mkF m 10 #[.val (.ref a1), .val (.long u1), .second, .val (.long u2), .second, .val (.long u3), .second] [(.ref a1)]))
  refine own_go (fun t k => XT.lloadN X103.here hx rfl (hb hby d1_10) rfl k) ?_
  show own_G p e below s (own_Q1 Z a1 u1 u2 u3 h0 n0) 0 0 (T103.setTop (mkF m 11 #[.val (.ref a1), .val (.long u1), .second, .val (.long u2), .second, .val (.long u3), .second] [(.long u2), (.ref a1)]))
  obtain ⟨T104, h104, X104, e104, W104, st104⟩ := putF X103 hx hZ hown (host := "") (Or.inl (hw _ (List.mem_of_getElem? (i := 17) rfl))) Via.refl e103 F12 E1 (Or.inr ⟨(hw _ (List.mem_of_getElem? (i := 18) rfl)), rfl, hnm⟩) (hw _ (List.mem_of_getElem? (i := 2) rfl)) (ty := .long) (by decide) rfl rfl (g := (mkF m 11 #[.val (.ref a1), .val (.long u1), .second, .val (.long u2), .second, .val (.long u3), .second] [(.long u2), (.ref a1)])) rfl rfl (hb hby d1_11)
  refine own_go st104 ?_
  show own_G p e below s (own_Q1 Z a1 u1 u2 u3 h0 n0) 0 0 (T104.setTop (mkF m 14 #[.val (.ref a1), .val (.long u1), .second, .val (.long u2), .second, .val (.long u3), .second] []))
  have N2 := Fr.snoc X104 N1 g0
  have K2 : Keep h0 h104 [a1] := K1.wr W104 (Or.inl (List.mem_of_getElem? (i := 0) rfl))
  have E2 := E1.wr W104
  have F21 := F11.other W104 (Or.inr s12)
  have F22 := F12.same W104
  have F23 := F13.other W104 (Or.inr s23.symm)
  refine own_go (fun t k => XS.aloadN X104.here hx rfl (hb hby d1_14) rfl rfl k) ?_
  show own_G p e below s (own_Q1 Z a1 u1 u2 u3 h0 n0) 0 0 (T104.setTop (mkF m 15 #[.val (.ref a1), .val (.long u1), .second, .val (.long u2), .second, .val (.long u3), .second] [(.ref a1)]))
  refine own_go (fun t k => XT.lload X104.here hx rfl (hb hby d1_15) rfl k) ?_
  show own_G p e below s (own_Q1 Z a1 u1 u2 u3 h0 n0) 0 0 (T104.setTop (mkF m 17 #[.val (.ref a1), .val (.long u1), .second, .val (.long u2), .second, .val (.long u3), .second] [(.long u3), (.ref a1)]))
  obtain ⟨T105, h105, X105, e105, W105, st105⟩ := putF X104 hx hZ hown (host := "") (Or.inl (hw _ (List.mem_of_getElem? (i := 19) rfl))) Via.refl e104 F23 E2 (Or.inr ⟨(hw _ (List.mem_of_getElem? (i := 20) rfl)), rfl, hnm⟩) (hw _ (List.mem_of_getElem? (i := 2) rfl)) (ty := .long) (by decide) rfl rfl (g := (mkF m 17 #[.val (.ref a1), .val (.long u1), .second, .val (.long u2), .second, .val (.long u3), .second] [(.long u3), (.ref a1)])) rfl rfl (hb hby d1_17)
  refine own_go st105 ?_
  show own_G p e below s (own_Q1 Z a1 u1 u2 u3 h0 n0) 0 0 (T105.setTop (mkF m 20 #[.val (.ref a1), .val (.long u1), .second, .val (.long u2), .second, .val (.long u3), .second] []))
  have N3 := Fr.snoc X105 N2 g0
  have K3 : Keep h0 h105 [a1] := K2.wr W105 (Or.inl (List.mem_of_getElem? (i := 0) rfl))
  have E3 := E2.wr W105
  have F31 := F21.other W105 (Or.inr s13)
  have F32 := F22.other W105 (Or.inr s23)
  have F33 := F23.same W105
  exact own_leave X105 none (fun _ => rfl) Bd.notSynchronized (fun fs hr => X105.returnOut hx Bd.returns (hb hby d1_20) hr) (by rw [e105]; exact ⟨rfl, N3, K3, E3, F31, F32, F33⟩) (by decide) (by decide)
theorem pf5 : plainFor (⟨"java/lang/Long", "compare", "(JJ)I"⟩ : MethodName) = true := by decide +kernel
theorem pd5 : parseMethodDescriptor "(JJ)I" = some ⟨[.long, .long], some .int⟩ := by decide +kernel
theorem ef5 (m : MethodId) (x0 : Int64) (x1 : Int64) : entryFrame m #[(.long x0), (.long x1)] 4 = mkF m 0 #[.val (.long x0), .second, .val (.long x1), .second] [] := by first | (simp [entryFrame, mkF, argsToLocals, Value.category]; done) | rfl
def own_Q5 (z : Int32) (h0 : Heap) (v : Option Value) (h : Heap) (L : List Loc) : Prop := v = some (.int z) ∧ L = [] ∧ h = h0
set_option maxRecDepth 65536 in
set_option maxHeartbeats 40000000 in
theorem rm5 (l : Launch) (Z : State) (a0 : Array Value) (hw : ∀ d ∈ tables_1, d.before a0 Z = true) (ws : List Jvm.Cond) (a1 b1 : Int64) (h0 : Heap) :
    MetFree l (⟨"java/lang/Long", "compare", "(JJ)I"⟩ : MethodName) (head1 (Jvm.Cond.code (⟨"java/lang/Long", "compare", "(JJ)I"⟩ : MethodName) jdk_35_method_42_code 4 (some .int) :: ws) ({ frames := 0, cells := 0, slots := 0, locals := 0 } : Room)) (fun a U => a = #[(.long a1), (.long b1)] ∧ Z.Warmed39 U.vm ∧ U.heap = h0) (fun _ _ _ _ _ => True) (fun _ U o U' => ∃ v L, o = .returned v ∧ own_Q5 (own_lc a1 b1) h0 v U'.heap L ∧ FrameEnd U o U' L ({ frames := 0, cells := 0, slots := 0, locals := 0 } : Room).cells ({ frames := 0, cells := 0, slots := 0, locals := 0 } : Room).slots) := by
  refine MetFree.of_bodySF pf5 hisR ?_
  intro p e s m args below meth c s₁ Bd hml0 hP hK
  obtain ⟨rfl, hZ, hh⟩ := hP
  have hx := Bd.exec
  have hby := Bd.bytes
  have hml : c.maxLocals = 4 := hml0
  have hown : s.vm.findClass "java/lang/Long" = some m.cls := findClass_of_methodNamed Bd.named
  have hnm := (name_of_methodNamed Bd.named Bd.method).1
  have X0 : Stand p l e ({ frames := 0, cells := 0, slots := 0, locals := 0 } : Room) s m #[(.long a1), (.long b1)] below meth c s₁ [] 0 0 := Stand.of_body Bd
  have e0 : s₁.heap = h0 := by rw [← hh, Bd.state]; rfl
  refine (show own_G p e below s (own_Q5 (own_lc a1 b1) h0) 0 0 (s₁.setTop (entryFrame m #[(.long a1), (.long b1)] 4)) → _ from fun k => k) ?_
  refine own_go (fun t k => castTop (ef5 m a1 b1) k) ?_
  show own_G p e below s (own_Q5 (own_lc a1 b1) h0) 0 0 (s₁.setTop (mkF m 0 #[.val (.long a1), .second, .val (.long b1), .second] []))
  refine own_go (fun t k => XT.lloadN X0.here hx rfl (hb hby d5_0) rfl k) ?_
  show own_G p e below s (own_Q5 (own_lc a1 b1) h0) 0 0 (s₁.setTop (mkF m 1 #[.val (.long a1), .second, .val (.long b1), .second] [(.long a1)]))
  refine own_go (fun t k => XT.lloadN X0.here hx rfl (hb hby d5_1) rfl k) ?_
  show own_G p e below s (own_Q5 (own_lc a1 b1) h0) 0 0 (s₁.setTop (mkF m 2 #[.val (.long a1), .second, .val (.long b1), .second] [(.long b1), (.long a1)]))
  refine own_go (fun t k => XT.lcmp X0.here hx rfl (hb hby d5_2) rfl k) ?_
  show own_G p e below s (own_Q5 (own_lc a1 b1) h0) 0 0 (s₁.setTop (mkF m 3 #[.val (.long a1), .second, .val (.long b1), .second] [(.int (XT.cmpL a1 b1))]))
  by_cases h1 : a1 < b1
  · skip
    refine own_go (fun t k => XS.ifNo X0.here hx rfl (hb hby d5_3) rfl (XT.ll_ge_f h1) k) ?_
    show own_G p e below s (own_Q5 (own_lc a1 b1) h0) 0 0 (s₁.setTop (mkF m 6 #[.val (.long a1), .second, .val (.long b1), .second] []))
    refine own_go (fun t k => XS.iconst X0.here hx rfl (hb hby d5_6) k) ?_
    show own_G p e below s (own_Q5 (own_lc a1 b1) h0) 0 0 (s₁.setTop (mkF m 7 #[.val (.long a1), .second, .val (.long b1), .second] [(.int (-1 : Int32))]))
    refine own_go (fun t k => XS.goto X0.here hx rfl (pc0 := 7) (pc' := 21) rfl (hb hby d5_7) (by decide) (by decide) k) ?_
    show own_G p e below s (own_Q5 (own_lc a1 b1) h0) 0 0 (s₁.setTop (mkF m 21 #[.val (.long a1), .second, .val (.long b1), .second] [(.int (-1 : Int32))]))
    exact own_leave X0 (some (.int (-1 : Int32))) (fun h => by rw [Bd.returns] at h; cases h) Bd.notSynchronized (fun fs hr => retI X0 hx Bd.returns (hb hby d5_21) hr) ⟨congrArg (fun z => some (Value.int z)) (own_lc_lt h1).symm, rfl, e0⟩ (by decide) (by decide)
  · skip
    refine own_go (fun t k => XS.ifYes X0.here hx rfl (pc0 := 3) (pc' := 10) rfl (hb hby d5_3) rfl (XT.ll_ge_t h1) (by decide) (by decide) k) ?_
    show own_G p e below s (own_Q5 (own_lc a1 b1) h0) 0 0 (s₁.setTop (mkF m 10 #[.val (.long a1), .second, .val (.long b1), .second] []))
    refine own_go (fun t k => XT.lloadN X0.here hx rfl (hb hby d5_10) rfl k) ?_
    show own_G p e below s (own_Q5 (own_lc a1 b1) h0) 0 0 (s₁.setTop (mkF m 11 #[.val (.long a1), .second, .val (.long b1), .second] [(.long a1)]))
    refine own_go (fun t k => XT.lloadN X0.here hx rfl (hb hby d5_11) rfl k) ?_
    show own_G p e below s (own_Q5 (own_lc a1 b1) h0) 0 0 (s₁.setTop (mkF m 12 #[.val (.long a1), .second, .val (.long b1), .second] [(.long b1), (.long a1)]))
    refine own_go (fun t k => XT.lcmp X0.here hx rfl (hb hby d5_12) rfl k) ?_
    show own_G p e below s (own_Q5 (own_lc a1 b1) h0) 0 0 (s₁.setTop (mkF m 13 #[.val (.long a1), .second, .val (.long b1), .second] [(.int (XT.cmpL a1 b1))]))
    by_cases h2 : a1 = b1
    · skip
      refine own_go (fun t k => XS.ifNo X0.here hx rfl (hb hby d5_13) rfl (XT.ll_ne_f h2) k) ?_
      show own_G p e below s (own_Q5 (own_lc a1 b1) h0) 0 0 (s₁.setTop (mkF m 16 #[.val (.long a1), .second, .val (.long b1), .second] []))
      refine own_go (fun t k => XS.iconst X0.here hx rfl (hb hby d5_16) k) ?_
      show own_G p e below s (own_Q5 (own_lc a1 b1) h0) 0 0 (s₁.setTop (mkF m 17 #[.val (.long a1), .second, .val (.long b1), .second] [(.int (0 : Int32))]))
      refine own_go (fun t k => XS.goto X0.here hx rfl (pc0 := 17) (pc' := 21) rfl (hb hby d5_17) (by decide) (by decide) k) ?_
      show own_G p e below s (own_Q5 (own_lc a1 b1) h0) 0 0 (s₁.setTop (mkF m 21 #[.val (.long a1), .second, .val (.long b1), .second] [(.int (0 : Int32))]))
      exact own_leave X0 (some (.int (0 : Int32))) (fun h => by rw [Bd.returns] at h; cases h) Bd.notSynchronized (fun fs hr => retI X0 hx Bd.returns (hb hby d5_21) hr) ⟨congrArg (fun z => some (Value.int z)) (own_lc_eq h1 h2).symm, rfl, e0⟩ (by decide) (by decide)
    · skip
      refine own_go (fun t k => XS.ifYes X0.here hx rfl (pc0 := 13) (pc' := 20) rfl (hb hby d5_13) rfl (XT.ll_ne_t h2) (by decide) (by decide) k) ?_
      show own_G p e below s (own_Q5 (own_lc a1 b1) h0) 0 0 (s₁.setTop (mkF m 20 #[.val (.long a1), .second, .val (.long b1), .second] []))
      refine own_go (fun t k => XS.iconst X0.here hx rfl (hb hby d5_20) k) ?_
      show own_G p e below s (own_Q5 (own_lc a1 b1) h0) 0 0 (s₁.setTop (mkF m 21 #[.val (.long a1), .second, .val (.long b1), .second] [(.int (1 : Int32))]))
      exact own_leave X0 (some (.int (1 : Int32))) (fun h => by rw [Bd.returns] at h; cases h) Bd.notSynchronized (fun fs hr => retI X0 hx Bd.returns (hb hby d5_21) hr) ⟨congrArg (fun z => some (Value.int z)) (own_lc_gt h1 h2).symm, rfl, e0⟩ (by decide) (by decide)
theorem pd4 : parseMethodDescriptor "(Lcom/example/shiftloom/shiftloom/scoring/Score;)I" = some ⟨[.object "com/example/shiftloom/shiftloom/scoring/Score"], some .int⟩ := by decide +kernel
theorem ef4 (m : MethodId) (x0 : Addr) (x1 : Addr) : entryFrame m #[(.ref x0), (.ref x1)] 2 = mkF m 0 #[.val (.ref x0), .val (.ref x1)] [] := by first | (simp [entryFrame, mkF, argsToLocals, Value.category]; done) | rfl
set_option maxRecDepth 65536 in
set_option maxHeartbeats 40000000 in
theorem rm4 (l : Launch) (Z : State) (a0 : Array Value) (hw : ∀ d ∈ tables_1, d.before a0 Z = true) (ws : List Jvm.Cond) (a1 a2 : Addr) (u1 u2 u3 v1 v2 v3 : Int64) (h0 : Heap) (Fa1 : Fld Z h0 a1 "com/example/shiftloom/shiftloom/scoring/Score" "hard" "J" (.long u1)) (Fa2 : Fld Z h0 a1 "com/example/shiftloom/shiftloom/scoring/Score" "medium" "J" (.long u2)) (Fa3 : Fld Z h0 a1 "com/example/shiftloom/shiftloom/scoring/Score" "soft" "J" (.long u3)) (Fb1 : Fld Z h0 a2 "com/example/shiftloom/shiftloom/scoring/Score" "hard" "J" (.long v1)) (Fb2 : Fld Z h0 a2 "com/example/shiftloom/shiftloom/scoring/Score" "medium" "J" (.long v2)) (Fb3 : Fld Z h0 a2 "com/example/shiftloom/shiftloom/scoring/Score" "soft" "J" (.long v3)) :
    MetFree l (⟨"com/example/shiftloom/shiftloom/scoring/Score", "compareTo", "(Lcom/example/shiftloom/shiftloom/scoring/Score;)I"⟩ : MethodName) (head1 (Jvm.Cond.code (⟨"com/example/shiftloom/shiftloom/scoring/Score", "compareTo", "(Lcom/example/shiftloom/shiftloom/scoring/Score;)I"⟩ : MethodName) prog_62_method_8_code 2 (some .int) :: ws) ({ frames := 1, cells := 0, slots := 0, locals := 15 } : Room)) (fun a U => a = #[(.ref a1), (.ref a2)] ∧ Z.Warmed39 U.vm ∧ U.heap = h0) (fun _ _ _ _ _ => True) (fun _ U o U' => ∃ v L, o = .returned v ∧ own_Q5 (own_cmp u1 u2 u3 v1 v2 v3) h0 v U'.heap L ∧ FrameEnd U o U' L ({ frames := 1, cells := 0, slots := 0, locals := 15 } : Room).cells ({ frames := 1, cells := 0, slots := 0, locals := 15 } : Room).slots) := by
  refine MetFree.of_bodySF (plainFor_of_name pn1) hisR ?_
  intro p e s m args below meth c s₁ Bd hml0 hP hK
  obtain ⟨rfl, hZ, hh⟩ := hP
  have hx := Bd.exec
  have hby := Bd.bytes
  have hml : c.maxLocals = 2 := hml0
  have hown : s.vm.findClass "com/example/shiftloom/shiftloom/scoring/Score" = some m.cls := findClass_of_methodNamed Bd.named
  have hnm := (name_of_methodNamed Bd.named Bd.method).1
  have X0 : Stand p l e ({ frames := 1, cells := 0, slots := 0, locals := 15 } : Room) s m #[(.ref a1), (.ref a2)] below meth c s₁ [] 0 0 := Stand.of_body Bd
  have e0 : s₁.heap = h0 := by rw [← hh, Bd.state]; rfl
  refine (show own_G p e below s (own_Q5 (own_cmp u1 u2 u3 v1 v2 v3) h0) 0 0 (s₁.setTop (entryFrame m #[(.ref a1), (.ref a2)] 2)) → _ from fun k => k) ?_
  refine own_go (fun t k => castTop (ef4 m a1 a2) k) ?_
  show own_G p e below s (own_Q5 (own_cmp u1 u2 u3 v1 v2 v3) h0) 0 0 (s₁.setTop (mkF m 0 #[.val (.ref a1), .val (.ref a2)] []))
  refine own_go (fun t k => XS.aloadN X0.here hx rfl (hb hby d4_0) rfl rfl k) ?_
  show own_G p e below s (own_Q5 (own_cmp u1 u2 u3 v1 v2 v3) h0) 0 0 (s₁.setTop (mkF m 1 #[.val (.ref a1), .val (.ref a2)] [(.ref a1)]))
  obtain ⟨T106, X106, e106, st106⟩ := getF X0 hx hZ hown (host := "") (Or.inl (hw _ (List.mem_of_getElem? (i := 15) rfl))) Via.refl e0 Fa1 (g := (mkF m 1 #[.val (.ref a1), .val (.ref a2)] [(.ref a1)])) rfl rfl (hb hby d4_1)
  refine own_go st106 ?_
  show own_G p e below s (own_Q5 (own_cmp u1 u2 u3 v1 v2 v3) h0) 0 0 (T106.setTop (mkF m 4 #[.val (.ref a1), .val (.ref a2)] [(.long u1)]))
  refine own_go (fun t k => XS.aloadN X106.here hx rfl (hb hby d4_4) rfl rfl k) ?_
  show own_G p e below s (own_Q5 (own_cmp u1 u2 u3 v1 v2 v3) h0) 0 0 (T106.setTop (mkF m 5 #[.val (.ref a1), .val (.ref a2)] [(.ref a2), (.long u1)]))
  obtain ⟨T107, X107, e107, st107⟩ := getF X106 hx hZ hown (host := "") (Or.inl (hw _ (List.mem_of_getElem? (i := 15) rfl))) Via.refl e106 Fb1 (g := (mkF m 5 #[.val (.ref a1), .val (.ref a2)] [(.ref a2), (.long u1)])) rfl rfl (hb hby d4_5)
  refine own_go st107 ?_
  show own_G p e below s (own_Q5 (own_cmp u1 u2 u3 v1 v2 v3) h0) 0 0 (T107.setTop (mkF m 8 #[.val (.ref a1), .val (.ref a2)] [(.long v1), (.long u1)]))
  refine own_go (fun t k => XT.lcmp X107.here hx rfl (hb hby d4_8) rfl k) ?_
  show own_G p e below s (own_Q5 (own_cmp u1 u2 u3 v1 v2 v3) h0) 0 0 (T107.setTop (mkF m 9 #[.val (.ref a1), .val (.ref a2)] [(.int (XT.cmpL u1 v1))]))
  by_cases h1 : u1 = v1
  · skip
    refine own_go (fun t k => XS.ifYes X107.here hx rfl (pc0 := 9) (pc' := 24) rfl (hb hby d4_9) rfl (XT.ll_eq_t h1) (by decide) (by decide) k) ?_
    show own_G p e below s (own_Q5 (own_cmp u1 u2 u3 v1 v2 v3) h0) 0 0 (T107.setTop (mkF m 24 #[.val (.ref a1), .val (.ref a2)] []))
    refine own_go (fun t k => XS.aloadN X107.here hx rfl (hb hby d4_24) rfl rfl k) ?_
    show own_G p e below s (own_Q5 (own_cmp u1 u2 u3 v1 v2 v3) h0) 0 0 (T107.setTop (mkF m 25 #[.val (.ref a1), .val (.ref a2)] [(.ref a1)]))
    obtain ⟨T108, X108, e108, st108⟩ := getF X107 hx hZ hown (host := "") (Or.inl (hw _ (List.mem_of_getElem? (i := 17) rfl))) Via.refl e107 Fa2 (g := (mkF m 25 #[.val (.ref a1), .val (.ref a2)] [(.ref a1)])) rfl rfl (hb hby d4_25)
    refine own_go st108 ?_
    show own_G p e below s (own_Q5 (own_cmp u1 u2 u3 v1 v2 v3) h0) 0 0 (T108.setTop (mkF m 28 #[.val (.ref a1), .val (.ref a2)] [(.long u2)]))
    refine own_go (fun t k => XS.aloadN X108.here hx rfl (hb hby d4_28) rfl rfl k) ?_
    show own_G p e below s (own_Q5 (own_cmp u1 u2 u3 v1 v2 v3) h0) 0 0 (T108.setTop (mkF m 29 #[.val (.ref a1), .val (.ref a2)] [(.ref a2), (.long u2)]))
    obtain ⟨T109, X109, e109, st109⟩ := getF X108 hx hZ hown (host := "") (Or.inl (hw _ (List.mem_of_getElem? (i := 17) rfl))) Via.refl e108 Fb2 (g := (mkF m 29 #[.val (.ref a1), .val (.ref a2)] [(.ref a2), (.long u2)])) rfl rfl (hb hby d4_29)
    refine own_go st109 ?_
    show own_G p e below s (own_Q5 (own_cmp u1 u2 u3 v1 v2 v3) h0) 0 0 (T109.setTop (mkF m 32 #[.val (.ref a1), .val (.ref a2)] [(.long v2), (.long u2)]))
    refine own_go (fun t k => XT.lcmp X109.here hx rfl (hb hby d4_32) rfl k) ?_
    show own_G p e below s (own_Q5 (own_cmp u1 u2 u3 v1 v2 v3) h0) 0 0 (T109.setTop (mkF m 33 #[.val (.ref a1), .val (.ref a2)] [(.int (XT.cmpL u2 v2))]))
    by_cases h2 : u2 = v2
    · skip
      refine own_go (fun t k => XS.ifYes X109.here hx rfl (pc0 := 33) (pc' := 48) rfl (hb hby d4_33) rfl (XT.ll_eq_t h2) (by decide) (by decide) k) ?_
      show own_G p e below s (own_Q5 (own_cmp u1 u2 u3 v1 v2 v3) h0) 0 0 (T109.setTop (mkF m 48 #[.val (.ref a1), .val (.ref a2)] []))
      refine own_go (fun t k => XS.aloadN X109.here hx rfl (hb hby d4_48) rfl rfl k) ?_
      show own_G p e below s (own_Q5 (own_cmp u1 u2 u3 v1 v2 v3) h0) 0 0 (T109.setTop (mkF m 49 #[.val (.ref a1), .val (.ref a2)] [(.ref a1)]))
      obtain ⟨T110, X110, e110, st110⟩ := getF X109 hx hZ hown (host := "") (Or.inl (hw _ (List.mem_of_getElem? (i := 19) rfl))) Via.refl e109 Fa3 (g := (mkF m 49 #[.val (.ref a1), .val (.ref a2)] [(.ref a1)])) rfl rfl (hb hby d4_49)
      refine own_go st110 ?_
      show own_G p e below s (own_Q5 (own_cmp u1 u2 u3 v1 v2 v3) h0) 0 0 (T110.setTop (mkF m 52 #[.val (.ref a1), .val (.ref a2)] [(.long u3)]))
      refine own_go (fun t k => XS.aloadN X110.here hx rfl (hb hby d4_52) rfl rfl k) ?_
      show own_G p e below s (own_Q5 (own_cmp u1 u2 u3 v1 v2 v3) h0) 0 0 (T110.setTop (mkF m 53 #[.val (.ref a1), .val (.ref a2)] [(.ref a2), (.long u3)]))
      obtain ⟨T111, X111, e111, st111⟩ := getF X110 hx hZ hown (host := "") (Or.inl (hw _ (List.mem_of_getElem? (i := 19) rfl))) Via.refl e110 Fb3 (g := (mkF m 53 #[.val (.ref a1), .val (.ref a2)] [(.ref a2), (.long u3)])) rfl rfl (hb hby d4_53)
      refine own_go st111 ?_
      show own_G p e below s (own_Q5 (own_cmp u1 u2 u3 v1 v2 v3) h0) 0 0 (T111.setTop (mkF m 56 #[.val (.ref a1), .val (.ref a2)] [(.long v3), (.long u3)]))
      obtain ⟨_, _, ⟨T112, L112, k112, n112⟩, -, X112, ⟨Lc112, hQ112, l112, y112, z112⟩, st112⟩ := Jvm.LawKit.callS X111 hx (y := (⟨"java/lang/Long", "compare", "(JJ)I"⟩ : MethodName)) hown (mvT hZ (hw _ (List.mem_of_getElem? (i := 26) rfl))) (mvT hZ (hw _ (List.mem_of_getElem? (i := 27) rfl))) (mvT hZ (hw _ (List.mem_of_getElem? (i := 28) rfl))) (mvT hZ (hw _ (List.mem_of_getElem? (i := 29) rfl))) (by decide) (backOf (W := 0) (rm5 l Z a0 hw [] u3 v3 h0) hZ (hw _ (List.mem_of_getElem? (i := 29) rfl)) (hw _ (List.mem_of_getElem? (i := 28) rfl)) (by decide) (by decide)) (g := (mkF m 56 #[.val (.ref a1), .val (.ref a2)] [(.long v3), (.long u3)])) rfl (by rw [hml]; rfl) (argsL := [(.long u3), (.long v3)]) (rest := []) (lenOf pd5 rfl) rfl (by show 2 * 0 + _ ≤ _; exact Nat.le_of_eq rfl) (hb hby d4_56) (fun _ _ => ⟨rfl, e111, (by decide : 0 + 0 ≤ _), (by decide : 0 + 0 ≤ _)⟩)
      dsimp only [Pt.U, Pt.locs, Pt.cells, Pt.slots] at X112 l112 y112 z112 st112 hQ112
      subst l112 y112 z112
      obtain ⟨rfl, rfl, e112⟩ := hQ112
      refine own_go (st112) ?_
      show own_G p e below s (own_Q5 (own_cmp u1 u2 u3 v1 v2 v3) h0) 0 0 (T112.setTop (mkF m 59 #[.val (.ref a1), .val (.ref a2)] [(.int (own_lc u3 v3))]))
      exact own_leave X112 (some (.int (own_lc u3 v3))) (fun h => by rw [Bd.returns] at h; cases h) Bd.notSynchronized (fun fs hr => retI X112 hx Bd.returns (hb hby d4_59) hr) ⟨congrArg (fun z => some (Value.int z)) (own_cmp_c h1 h2).symm, rfl, e112⟩ (by decide) (by decide)
    · skip
      refine own_go (fun t k => XS.ifNo X109.here hx rfl (hb hby d4_33) rfl (XT.ll_eq_f h2) k) ?_
      show own_G p e below s (own_Q5 (own_cmp u1 u2 u3 v1 v2 v3) h0) 0 0 (T109.setTop (mkF m 36 #[.val (.ref a1), .val (.ref a2)] []))
      refine own_go (fun t k => XS.aloadN X109.here hx rfl (hb hby d4_36) rfl rfl k) ?_
      show own_G p e below s (own_Q5 (own_cmp u1 u2 u3 v1 v2 v3) h0) 0 0 (T109.setTop (mkF m 37 #[.val (.ref a1), .val (.ref a2)] [(.ref a1)]))
      obtain ⟨T113, X113, e113, st113⟩ := getF X109 hx hZ hown (host := "") (Or.inl (hw _ (List.mem_of_getElem? (i := 17) rfl))) Via.refl e109 Fa2 (g := (mkF m 37 #[.val (.ref a1), .val (.ref a2)] [(.ref a1)])) rfl rfl (hb hby d4_37)
      refine own_go st113 ?_
      show own_G p e below s (own_Q5 (own_cmp u1 u2 u3 v1 v2 v3) h0) 0 0 (T113.setTop (mkF m 40 #[.val (.ref a1), .val (.ref a2)] [(.long u2)]))
      refine own_go (fun t k => XS.aloadN X113.here hx rfl (hb hby d4_40) rfl rfl k) ?_
      show own_G p e below s (own_Q5 (own_cmp u1 u2 u3 v1 v2 v3) h0) 0 0 (T113.setTop (mkF m 41 #[.val (.ref a1), .val (.ref a2)] [(.ref a2), (.long u2)]))
      obtain ⟨T114, X114, e114, st114⟩ := getF X113 hx hZ hown (host := "") (Or.inl (hw _ (List.mem_of_getElem? (i := 17) rfl))) Via.refl e113 Fb2 (g := (mkF m 41 #[.val (.ref a1), .val (.ref a2)] [(.ref a2), (.long u2)])) rfl rfl (hb hby d4_41)
      refine own_go st114 ?_
      show own_G p e below s (own_Q5 (own_cmp u1 u2 u3 v1 v2 v3) h0) 0 0 (T114.setTop (mkF m 44 #[.val (.ref a1), .val (.ref a2)] [(.long v2), (.long u2)]))
      obtain ⟨_, _, ⟨T115, L115, k115, n115⟩, -, X115, ⟨Lc115, hQ115, l115, y115, z115⟩, st115⟩ := Jvm.LawKit.callS X114 hx (y := (⟨"java/lang/Long", "compare", "(JJ)I"⟩ : MethodName)) hown (mvT hZ (hw _ (List.mem_of_getElem? (i := 26) rfl))) (mvT hZ (hw _ (List.mem_of_getElem? (i := 27) rfl))) (mvT hZ (hw _ (List.mem_of_getElem? (i := 28) rfl))) (mvT hZ (hw _ (List.mem_of_getElem? (i := 29) rfl))) (by decide) (backOf (W := 0) (rm5 l Z a0 hw [] u2 v2 h0) hZ (hw _ (List.mem_of_getElem? (i := 29) rfl)) (hw _ (List.mem_of_getElem? (i := 28) rfl)) (by decide) (by decide)) (g := (mkF m 44 #[.val (.ref a1), .val (.ref a2)] [(.long v2), (.long u2)])) rfl (by rw [hml]; rfl) (argsL := [(.long u2), (.long v2)]) (rest := []) (lenOf pd5 rfl) rfl (by show 2 * 0 + _ ≤ _; exact Nat.le_of_eq rfl) (hb hby d4_44) (fun _ _ => ⟨rfl, e114, (by decide : 0 + 0 ≤ _), (by decide : 0 + 0 ≤ _)⟩)
      dsimp only [Pt.U, Pt.locs, Pt.cells, Pt.slots] at X115 l115 y115 z115 st115 hQ115
      subst l115 y115 z115
      obtain ⟨rfl, rfl, e115⟩ := hQ115
      refine own_go (st115) ?_
      show own_G p e below s (own_Q5 (own_cmp u1 u2 u3 v1 v2 v3) h0) 0 0 (T115.setTop (mkF m 47 #[.val (.ref a1), .val (.ref a2)] [(.int (own_lc u2 v2))]))
      exact own_leave X115 (some (.int (own_lc u2 v2))) (fun h => by rw [Bd.returns] at h; cases h) Bd.notSynchronized (fun fs hr => retI X115 hx Bd.returns (hb hby d4_47) hr) ⟨congrArg (fun z => some (Value.int z)) (own_cmp_b h1 h2).symm, rfl, e115⟩ (by decide) (by decide)
  · skip
    refine own_go (fun t k => XS.ifNo X107.here hx rfl (hb hby d4_9) rfl (XT.ll_eq_f h1) k) ?_
    show own_G p e below s (own_Q5 (own_cmp u1 u2 u3 v1 v2 v3) h0) 0 0 (T107.setTop (mkF m 12 #[.val (.ref a1), .val (.ref a2)] []))
    refine own_go (fun t k => XS.aloadN X107.here hx rfl (hb hby d4_12) rfl rfl k) ?_
    show own_G p e below s (own_Q5 (own_cmp u1 u2 u3 v1 v2 v3) h0) 0 0 (T107.setTop (mkF m 13 #[.val (.ref a1), .val (.ref a2)] [(.ref a1)]))
    obtain ⟨T116, X116, e116, st116⟩ := getF X107 hx hZ hown (host := "") (Or.inl (hw _ (List.mem_of_getElem? (i := 15) rfl))) Via.refl e107 Fa1 (g := (mkF m 13 #[.val (.ref a1), .val (.ref a2)] [(.ref a1)])) rfl rfl (hb hby d4_13)
    refine own_go st116 ?_
    show own_G p e below s (own_Q5 (own_cmp u1 u2 u3 v1 v2 v3) h0) 0 0 (T116.setTop (mkF m 16 #[.val (.ref a1), .val (.ref a2)] [(.long u1)]))
    refine own_go (fun t k => XS.aloadN X116.here hx rfl (hb hby d4_16) rfl rfl k) ?_
    show own_G p e below s (own_Q5 (own_cmp u1 u2 u3 v1 v2 v3) h0) 0 0 (T116.setTop (mkF m 17 #[.val (.ref a1), .val (.ref a2)] [(.ref a2), (.long u1)]))
    obtain ⟨T117, X117, e117, st117⟩ := getF X116 hx hZ hown (host := "") (Or.inl (hw _ (List.mem_of_getElem? (i := 15) rfl))) Via.refl e116 Fb1 (g := (mkF m 17 #[.val (.ref a1), .val (.ref a2)] [(.ref a2), (.long u1)])) rfl rfl (hb hby d4_17)
    refine own_go st117 ?_
    show own_G p e below s (own_Q5 (own_cmp u1 u2 u3 v1 v2 v3) h0) 0 0 (T117.setTop (mkF m 20 #[.val (.ref a1), .val (.ref a2)] [(.long v1), (.long u1)]))
    obtain ⟨_, _, ⟨T118, L118, k118, n118⟩, -, X118, ⟨Lc118, hQ118, l118, y118, z118⟩, st118⟩ := Jvm.LawKit.callS X117 hx (y := (⟨"java/lang/Long", "compare", "(JJ)I"⟩ : MethodName)) hown (mvT hZ (hw _ (List.mem_of_getElem? (i := 26) rfl))) (mvT hZ (hw _ (List.mem_of_getElem? (i := 27) rfl))) (mvT hZ (hw _ (List.mem_of_getElem? (i := 28) rfl))) (mvT hZ (hw _ (List.mem_of_getElem? (i := 29) rfl))) (by decide) (backOf (W := 0) (rm5 l Z a0 hw [] u1 v1 h0) hZ (hw _ (List.mem_of_getElem? (i := 29) rfl)) (hw _ (List.mem_of_getElem? (i := 28) rfl)) (by decide) (by decide)) (g := (mkF m 20 #[.val (.ref a1), .val (.ref a2)] [(.long v1), (.long u1)])) rfl (by rw [hml]; rfl) (argsL := [(.long u1), (.long v1)]) (rest := []) (lenOf pd5 rfl) rfl (by show 2 * 0 + _ ≤ _; exact Nat.le_of_eq rfl) (hb hby d4_20) (fun _ _ => ⟨rfl, e117, (by decide : 0 + 0 ≤ _), (by decide : 0 + 0 ≤ _)⟩)
    dsimp only [Pt.U, Pt.locs, Pt.cells, Pt.slots] at X118 l118 y118 z118 st118 hQ118
    subst l118 y118 z118
    obtain ⟨rfl, rfl, e118⟩ := hQ118
    refine own_go (st118) ?_
    show own_G p e below s (own_Q5 (own_cmp u1 u2 u3 v1 v2 v3) h0) 0 0 (T118.setTop (mkF m 23 #[.val (.ref a1), .val (.ref a2)] [(.int (own_lc u1 v1))]))
    exact own_leave X118 (some (.int (own_lc u1 v1))) (fun h => by rw [Bd.returns] at h; cases h) Bd.notSynchronized (fun fs hr => retI X118 hx Bd.returns (hb hby d4_23) hr) ⟨congrArg (fun z => some (Value.int z)) (own_cmp_a h1).symm, rfl, e118⟩ (by decide) (by decide)
theorem pf7 : plainFor (⟨"java/lang/Math", "min", "(II)I"⟩ : MethodName) = true := by decide +kernel
theorem pd7 : parseMethodDescriptor "(II)I" = some ⟨[.int, .int], some .int⟩ := by decide +kernel
theorem ef7 (m : MethodId) (x0 : Int32) (x1 : Int32) : entryFrame m #[(.int x0), (.int x1)] 2 = mkF m 0 #[.val (.int x0), .val (.int x1)] [] := by first | (simp [entryFrame, mkF, argsToLocals, Value.category]; done) | rfl
set_option maxRecDepth 65536 in
set_option maxHeartbeats 40000000 in
theorem rm7 (l : Launch) (Z : State) (a0 : Array Value) (hw : ∀ d ∈ tables_1, d.before a0 Z = true) (ws : List Jvm.Cond) (a1 b1 : Int32) (h0 : Heap) :
    MetFree l (⟨"java/lang/Math", "min", "(II)I"⟩ : MethodName) (head1 (Jvm.Cond.code (⟨"java/lang/Math", "min", "(II)I"⟩ : MethodName) jdk_29_method_69_code 2 (some .int) :: ws) ({ frames := 0, cells := 0, slots := 0, locals := 0 } : Room)) (fun a U => a = #[(.int a1), (.int b1)] ∧ Z.Warmed39 U.vm ∧ U.heap = h0) (fun _ _ _ _ _ => True) (fun _ U o U' => ∃ v L, o = .returned v ∧ own_Q5 (own_min a1 b1) h0 v U'.heap L ∧ FrameEnd U o U' L ({ frames := 0, cells := 0, slots := 0, locals := 0 } : Room).cells ({ frames := 0, cells := 0, slots := 0, locals := 0 } : Room).slots) := by
  refine MetFree.of_bodySF pf7 hisR ?_
  intro p e s m args below meth c s₁ Bd hml0 hP hK
  obtain ⟨rfl, hZ, hh⟩ := hP
  have hx := Bd.exec
  have hby := Bd.bytes
  have hml : c.maxLocals = 2 := hml0
  have hown : s.vm.findClass "java/lang/Math" = some m.cls := findClass_of_methodNamed Bd.named
  have hnm := (name_of_methodNamed Bd.named Bd.method).1
  have X0 : Stand p l e ({ frames := 0, cells := 0, slots := 0, locals := 0 } : Room) s m #[(.int a1), (.int b1)] below meth c s₁ [] 0 0 := Stand.of_body Bd
  have e0 : s₁.heap = h0 := by rw [← hh, Bd.state]; rfl
  refine (show own_G p e below s (own_Q5 (own_min a1 b1) h0) 0 0 (s₁.setTop (entryFrame m #[(.int a1), (.int b1)] 2)) → _ from fun k => k) ?_
  refine own_go (fun t k => castTop (ef7 m a1 b1) k) ?_
  show own_G p e below s (own_Q5 (own_min a1 b1) h0) 0 0 (s₁.setTop (mkF m 0 #[.val (.int a1), .val (.int b1)] []))
  refine own_go (fun t k => XS.iloadN X0.here hx rfl (hb hby d7_0) rfl k) ?_
  show own_G p e below s (own_Q5 (own_min a1 b1) h0) 0 0 (s₁.setTop (mkF m 1 #[.val (.int a1), .val (.int b1)] [(.int a1)]))
  refine own_go (fun t k => XS.iloadN X0.here hx rfl (hb hby d7_1) rfl k) ?_
  show own_G p e below s (own_Q5 (own_min a1 b1) h0) 0 0 (s₁.setTop (mkF m 2 #[.val (.int a1), .val (.int b1)] [(.int b1), (.int a1)]))
  by_cases h1 : b1 < a1
  · skip
    refine own_go (fun t k => XS.icmpYes X0.here hx rfl (pc0 := 2) (pc' := 9) rfl (hb hby d7_2) rfl (XT.ii_gt_t h1) (by decide) (by decide) k) ?_
    show own_G p e below s (own_Q5 (own_min a1 b1) h0) 0 0 (s₁.setTop (mkF m 9 #[.val (.int a1), .val (.int b1)] []))
    refine own_go (fun t k => XS.iloadN X0.here hx rfl (hb hby d7_9) rfl k) ?_
    show own_G p e below s (own_Q5 (own_min a1 b1) h0) 0 0 (s₁.setTop (mkF m 10 #[.val (.int a1), .val (.int b1)] [(.int b1)]))
    exact own_leave X0 (some (.int b1)) (fun h => by rw [Bd.returns] at h; cases h) Bd.notSynchronized (fun fs hr => retI X0 hx Bd.returns (hb hby d7_10) hr) ⟨congrArg (fun z => some (Value.int z)) (if_pos h1).symm, rfl, e0⟩ (by decide) (by decide)
  · skip
    refine own_go (fun t k => XS.icmpNo X0.here hx rfl (hb hby d7_2) rfl (XT.ii_gt_f h1) k) ?_
    show own_G p e below s (own_Q5 (own_min a1 b1) h0) 0 0 (s₁.setTop (mkF m 5 #[.val (.int a1), .val (.int b1)] []))
    refine own_go (fun t k => XS.iloadN X0.here hx rfl (hb hby d7_5) rfl k) ?_
    show own_G p e below s (own_Q5 (own_min a1 b1) h0) 0 0 (s₁.setTop (mkF m 6 #[.val (.int a1), .val (.int b1)] [(.int a1)]))
    refine own_go (fun t k => XS.goto X0.here hx rfl (pc0 := 6) (pc' := 10) rfl (hb hby d7_6) (by decide) (by decide) k) ?_
    show own_G p e below s (own_Q5 (own_min a1 b1) h0) 0 0 (s₁.setTop (mkF m 10 #[.val (.int a1), .val (.int b1)] [(.int a1)]))
    exact own_leave X0 (some (.int a1)) (fun h => by rw [Bd.returns] at h; cases h) Bd.notSynchronized (fun fs hr => retI X0 hx Bd.returns (hb hby d7_10) hr) ⟨congrArg (fun z => some (Value.int z)) (if_neg h1).symm, rfl, e0⟩ (by decide) (by decide)
theorem pf8 : plainFor (⟨"java/lang/Math", "max", "(II)I"⟩ : MethodName) = true := by decide +kernel
theorem pd8 : parseMethodDescriptor "(II)I" = some ⟨[.int, .int], some .int⟩ := by decide +kernel
theorem ef8 (m : MethodId) (x0 : Int32) (x1 : Int32) : entryFrame m #[(.int x0), (.int x1)] 2 = mkF m 0 #[.val (.int x0), .val (.int x1)] [] := by first | (simp [entryFrame, mkF, argsToLocals, Value.category]; done) | rfl
set_option maxRecDepth 65536 in
set_option maxHeartbeats 40000000 in
theorem rm8 (l : Launch) (Z : State) (a0 : Array Value) (hw : ∀ d ∈ tables_1, d.before a0 Z = true) (ws : List Jvm.Cond) (a1 b1 : Int32) (h0 : Heap) :
    MetFree l (⟨"java/lang/Math", "max", "(II)I"⟩ : MethodName) (head1 (Jvm.Cond.code (⟨"java/lang/Math", "max", "(II)I"⟩ : MethodName) jdk_29_method_65_code 2 (some .int) :: ws) ({ frames := 0, cells := 0, slots := 0, locals := 0 } : Room)) (fun a U => a = #[(.int a1), (.int b1)] ∧ Z.Warmed39 U.vm ∧ U.heap = h0) (fun _ _ _ _ _ => True) (fun _ U o U' => ∃ v L, o = .returned v ∧ own_Q5 (own_max a1 b1) h0 v U'.heap L ∧ FrameEnd U o U' L ({ frames := 0, cells := 0, slots := 0, locals := 0 } : Room).cells ({ frames := 0, cells := 0, slots := 0, locals := 0 } : Room).slots) := by
  refine MetFree.of_bodySF pf8 hisR ?_
  intro p e s m args below meth c s₁ Bd hml0 hP hK
  obtain ⟨rfl, hZ, hh⟩ := hP
  have hx := Bd.exec
  have hby := Bd.bytes
  have hml : c.maxLocals = 2 := hml0
  have hown : s.vm.findClass "java/lang/Math" = some m.cls := findClass_of_methodNamed Bd.named
  have hnm := (name_of_methodNamed Bd.named Bd.method).1
  have X0 : Stand p l e ({ frames := 0, cells := 0, slots := 0, locals := 0 } : Room) s m #[(.int a1), (.int b1)] below meth c s₁ [] 0 0 := Stand.of_body Bd
  have e0 : s₁.heap = h0 := by rw [← hh, Bd.state]; rfl
  refine (show own_G p e below s (own_Q5 (own_max a1 b1) h0) 0 0 (s₁.setTop (entryFrame m #[(.int a1), (.int b1)] 2)) → _ from fun k => k) ?_
  refine own_go (fun t k => castTop (ef8 m a1 b1) k) ?_
  show own_G p e below s (own_Q5 (own_max a1 b1) h0) 0 0 (s₁.setTop (mkF m 0 #[.val (.int a1), .val (.int b1)] []))
  refine own_go (fun t k => XS.iloadN X0.here hx rfl (hb hby d8_0) rfl k) ?_
  show own_G p e below s (own_Q5 (own_max a1 b1) h0) 0 0 (s₁.setTop (mkF m 1 #[.val (.int a1), .val (.int b1)] [(.int a1)]))
  refine own_go (fun t k => XS.iloadN X0.here hx rfl (hb hby d8_1) rfl k) ?_
  show own_G p e below s (own_Q5 (own_max a1 b1) h0) 0 0 (s₁.setTop (mkF m 2 #[.val (.int a1), .val (.int b1)] [(.int b1), (.int a1)]))
  by_cases h1 : a1 < b1
  · skip
    refine own_go (fun t k => XS.icmpYes X0.here hx rfl (pc0 := 2) (pc' := 9) rfl (hb hby d8_2) rfl (XT.ii_lt_t h1) (by decide) (by decide) k) ?_
    show own_G p e below s (own_Q5 (own_max a1 b1) h0) 0 0 (s₁.setTop (mkF m 9 #[.val (.int a1), .val (.int b1)] []))
    refine own_go (fun t k => XS.iloadN X0.here hx rfl (hb hby d8_9) rfl k) ?_
    show own_G p e below s (own_Q5 (own_max a1 b1) h0) 0 0 (s₁.setTop (mkF m 10 #[.val (.int a1), .val (.int b1)] [(.int b1)]))
    exact own_leave X0 (some (.int b1)) (fun h => by rw [Bd.returns] at h; cases h) Bd.notSynchronized (fun fs hr => retI X0 hx Bd.returns (hb hby d8_10) hr) ⟨congrArg (fun z => some (Value.int z)) (if_pos h1).symm, rfl, e0⟩ (by decide) (by decide)
  · skip
    refine own_go (fun t k => XS.icmpNo X0.here hx rfl (hb hby d8_2) rfl (XT.ii_lt_f h1) k) ?_
    show own_G p e below s (own_Q5 (own_max a1 b1) h0) 0 0 (s₁.setTop (mkF m 5 #[.val (.int a1), .val (.int b1)] []))
    refine own_go (fun t k => XS.iloadN X0.here hx rfl (hb hby d8_5) rfl k) ?_
    show own_G p e below s (own_Q5 (own_max a1 b1) h0) 0 0 (s₁.setTop (mkF m 6 #[.val (.int a1), .val (.int b1)] [(.int a1)]))
    refine own_go (fun t k => XS.goto X0.here hx rfl (pc0 := 6) (pc' := 10) rfl (hb hby d8_6) (by decide) (by decide) k) ?_
    show own_G p e below s (own_Q5 (own_max a1 b1) h0) 0 0 (s₁.setTop (mkF m 10 #[.val (.int a1), .val (.int b1)] [(.int a1)]))
    exact own_leave X0 (some (.int a1)) (fun h => by rw [Bd.returns] at h; cases h) Bd.notSynchronized (fun fs hr => retI X0 hx Bd.returns (hb hby d8_10) hr) ⟨congrArg (fun z => some (Value.int z)) (if_neg h1).symm, rfl, e0⟩ (by decide) (by decide)
theorem pn6 : plainName "com/example/shiftloom/shiftloom/scoring/ScoreCompareToPinLaw" = true := by first | (simp [plainName, overriddenIn]; done) | decide +kernel
theorem pd6 : parseMethodDescriptor "(I)I" = some ⟨[.int], some .int⟩ := by decide +kernel
theorem ef6 (m : MethodId) (x0 : Int32) : entryFrame m #[(.int x0)] 1 = mkF m 0 #[.val (.int x0)] [] := by first | (simp [entryFrame, mkF, argsToLocals, Value.category]; done) | rfl
set_option maxRecDepth 65536 in
set_option maxHeartbeats 40000000 in
theorem rm6 (l : Launch) (Z : State) (a0 : Array Value) (hw : ∀ d ∈ tables_1, d.before a0 Z = true) (ws : List Jvm.Cond) (a1 : Int32) (h0 : Heap) :
    MetFree l (⟨"com/example/shiftloom/shiftloom/scoring/ScoreCompareToPinLaw", "sign", "(I)I"⟩ : MethodName) (head1 (Jvm.Cond.code (⟨"com/example/shiftloom/shiftloom/scoring/ScoreCompareToPinLaw", "sign", "(I)I"⟩ : MethodName) method_3_code 1 (some .int) :: ws) ({ frames := 1, cells := 0, slots := 0, locals := 14 } : Room)) (fun a U => a = #[(.int a1)] ∧ Z.Warmed39 U.vm ∧ U.heap = h0) (fun _ _ _ _ _ => True) (fun _ U o U' => ∃ v L, o = .returned v ∧ own_Q5 (own_sign a1) h0 v U'.heap L ∧ FrameEnd U o U' L ({ frames := 1, cells := 0, slots := 0, locals := 14 } : Room).cells ({ frames := 1, cells := 0, slots := 0, locals := 14 } : Room).slots) := by
  refine MetFree.of_bodySF (plainFor_of_name pn6) hisR ?_
  intro p e s m args below meth c s₁ Bd hml0 hP hK
  obtain ⟨rfl, hZ, hh⟩ := hP
  have hx := Bd.exec
  have hby := Bd.bytes
  have hml : c.maxLocals = 1 := hml0
  have hown : s.vm.findClass "com/example/shiftloom/shiftloom/scoring/ScoreCompareToPinLaw" = some m.cls := findClass_of_methodNamed Bd.named
  have hnm := (name_of_methodNamed Bd.named Bd.method).1
  have X0 : Stand p l e ({ frames := 1, cells := 0, slots := 0, locals := 14 } : Room) s m #[(.int a1)] below meth c s₁ [] 0 0 := Stand.of_body Bd
  have e0 : s₁.heap = h0 := by rw [← hh, Bd.state]; rfl
  refine (show own_G p e below s (own_Q5 (own_sign a1) h0) 0 0 (s₁.setTop (entryFrame m #[(.int a1)] 1)) → _ from fun k => k) ?_
  refine own_go (fun t k => castTop (ef6 m a1) k) ?_
  show own_G p e below s (own_Q5 (own_sign a1) h0) 0 0 (s₁.setTop (mkF m 0 #[.val (.int a1)] []))
  refine own_go (fun t k => XS.iconst X0.here hx rfl (hb hby d6_0) k) ?_
  show own_G p e below s (own_Q5 (own_sign a1) h0) 0 0 (s₁.setTop (mkF m 1 #[.val (.int a1)] [(.int (-1 : Int32))]))
  refine own_go (fun t k => XS.iconst X0.here hx rfl (hb hby d6_1) k) ?_
  show own_G p e below s (own_Q5 (own_sign a1) h0) 0 0 (s₁.setTop (mkF m 2 #[.val (.int a1)] [(.int (1 : Int32)), (.int (-1 : Int32))]))
  refine own_go (fun t k => XS.iloadN X0.here hx rfl (hb hby d6_2) rfl k) ?_
  show own_G p e below s (own_Q5 (own_sign a1) h0) 0 0 (s₁.setTop (mkF m 3 #[.val (.int a1)] [(.int a1), (.int (1 : Int32)), (.int (-1 : Int32))]))
  obtain ⟨_, _, ⟨T119, L119, k119, n119⟩, -, X119, ⟨Lc119, hQ119, l119, y119, z119⟩, st119⟩ := Jvm.LawKit.callS X0 hx (y := (⟨"java/lang/Math", "min", "(II)I"⟩ : MethodName)) hown (mvT hZ (hw _ (List.mem_of_getElem? (i := 34) rfl))) (mvT hZ (hw _ (List.mem_of_getElem? (i := 35) rfl))) (mvT hZ (hw _ (List.mem_of_getElem? (i := 36) rfl))) (mvT hZ (hw _ (List.mem_of_getElem? (i := 37) rfl))) (by decide) (backOf (W := 1) (rm7 l Z a0 hw [] 1 a1 h0) hZ (hw _ (List.mem_of_getElem? (i := 37) rfl)) (hw _ (List.mem_of_getElem? (i := 36) rfl)) (by decide) (by decide)) (g := (mkF m 3 #[.val (.int a1)] [(.int a1), (.int (1 : Int32)), (.int (-1 : Int32))])) rfl (by rw [hml]; rfl) (argsL := [(.int (1 : Int32)), (.int a1)]) (rest := [(.int (-1 : Int32))]) (lenOf pd7 rfl) rfl (by show 2 * 0 + _ ≤ _; exact Nat.le_of_eq rfl) (hb hby d6_3) (fun _ _ => ⟨rfl, e0, (by decide : 0 + 0 ≤ _), (by decide : 0 + 0 ≤ _)⟩)
  dsimp only [Pt.U, Pt.locs, Pt.cells, Pt.slots] at X119 l119 y119 z119 st119 hQ119
  subst l119 y119 z119
  obtain ⟨rfl, rfl, e119⟩ := hQ119
  refine own_go (st119) ?_
  show own_G p e below s (own_Q5 (own_sign a1) h0) 0 0 (T119.setTop (mkF m 6 #[.val (.int a1)] [(.int (own_min (1 : Int32) a1)), (.int (-1 : Int32))]))
  obtain ⟨_, _, ⟨T120, L120, k120, n120⟩, -, X120, ⟨Lc120, hQ120, l120, y120, z120⟩, st120⟩ := Jvm.LawKit.callS X119 hx (y := (⟨"java/lang/Math", "max", "(II)I"⟩ : MethodName)) hown (mvT hZ (hw _ (List.mem_of_getElem? (i := 38) rfl))) (mvT hZ (hw _ (List.mem_of_getElem? (i := 39) rfl))) (mvT hZ (hw _ (List.mem_of_getElem? (i := 36) rfl))) (mvT hZ (hw _ (List.mem_of_getElem? (i := 40) rfl))) (by decide) (backOf (W := 0) (rm8 l Z a0 hw [] (-1) (own_min 1 a1) h0) hZ (hw _ (List.mem_of_getElem? (i := 40) rfl)) (hw _ (List.mem_of_getElem? (i := 36) rfl)) (by decide) (by decide)) (g := (mkF m 6 #[.val (.int a1)] [(.int (own_min (1 : Int32) a1)), (.int (-1 : Int32))])) rfl (by rw [hml]; rfl) (argsL := [(.int (-1 : Int32)), (.int (own_min (1 : Int32) a1))]) (rest := []) (lenOf pd8 rfl) rfl (by show 2 * 0 + _ ≤ _; exact Nat.le_of_eq rfl) (hb hby d6_6) (fun _ _ => ⟨rfl, e119, (by decide : 0 + 0 ≤ _), (by decide : 0 + 0 ≤ _)⟩)
  dsimp only [Pt.U, Pt.locs, Pt.cells, Pt.slots] at X120 l120 y120 z120 st120 hQ120
  subst l120 y120 z120
  obtain ⟨rfl, rfl, e120⟩ := hQ120
  refine own_go (st120) ?_
  show own_G p e below s (own_Q5 (own_sign a1) h0) 0 0 (T120.setTop (mkF m 9 #[.val (.int a1)] [(.int (own_max (-1 : Int32) (own_min (1 : Int32) a1)))]))
  exact own_leave X120 (some (.int (own_max (-1 : Int32) (own_min (1 : Int32) a1)))) (fun h => by rw [Bd.returns] at h; cases h) Bd.notSynchronized (fun fs hr => retI X120 hx Bd.returns (hb hby d6_9) hr) ⟨rfl, rfl, e120⟩ (by decide) (by decide)
theorem ef0 (m : MethodId) (x0 : Int64) (x1 : Int64) (x2 : Int64) (x3 : Int64) (x4 : Int64) (x5 : Int64) : entryFrame m #[(.long x0), (.long x1), (.long x2), (.long x3), (.long x4), (.long x5)] maxLocals = mkF m 0 #[.val (.long x0), .second, .val (.long x1), .second, .val (.long x2), .second, .val (.long x3), .second, .val (.long x4), .second, .val (.long x5), .second, .unset, .unset, .unset, .unset, .unset] [] := by first | (simp [entryFrame, mkF, argsToLocals, Value.category, maxLocals]; done) | rfl
def own_Q0 (n0 : Nat) (v : Option Value) (h : Heap) (L : List Loc) : Prop := v = some (.int 1) ∧ Fr n0 L
set_option maxRecDepth 65536 in
set_option maxHeartbeats 40000000 in
theorem rm0 (l : Launch) (Z : State) (a0 : Array Value) (hw : ∀ d ∈ tables_1, d.before a0 Z = true) (ws : List Jvm.Cond) (x0 x1 x2 x3 x4 x5 : Int64) (h0 : Heap) (n0 : Nat) (Z0 : n0 ≤ h0.size) :
    MetFree l x (head1 (Jvm.Cond.code x code maxLocals ret :: ws) room_1) (fun a U => a = #[(.long x0), (.long x1), (.long x2), (.long x3), (.long x4), (.long x5)] ∧ Z.Warmed39 U.vm ∧ U.heap = h0) (fun _ _ _ _ _ => True) (fun _ U o U' => ∃ v L, o = .returned v ∧ own_Q0 n0 v U'.heap L ∧ FrameEnd U o U' L 16 128) := by
  refine MetFree.of_bodySF (plainFor_of_name pn6) hisR ?_
  intro p e s m args below meth c s₁ Bd hml0 hP hK
  obtain ⟨rfl, hZ, hh⟩ := hP
  have hx := Bd.exec
  have hby := Bd.bytes
  have hml : c.maxLocals = 17 := hml0
  have hown : s.vm.findClass "com/example/shiftloom/shiftloom/scoring/ScoreCompareToPinLaw" = some m.cls := findClass_of_methodNamed Bd.named
  have hnm := (name_of_methodNamed Bd.named Bd.method).1
  have X0 : Stand p l e room_1 s m #[(.long x0), (.long x1), (.long x2), (.long x3), (.long x4), (.long x5)] below meth c s₁ [] 0 0 := Stand.of_body Bd
  have e0 : s₁.heap = h0 := by rw [← hh, Bd.state]; rfl
  refine (show own_G p e below s (own_Q0 n0) 16 128 (s₁.setTop (entryFrame m #[(.long x0), (.long x1), (.long x2), (.long x3), (.long x4), (.long x5)] maxLocals)) → _ from fun k => k) ?_
  refine own_go (fun t k => castTop (ef0 m x0 x1 x2 x3 x4 x5) k) ?_
  show own_G p e below s (own_Q0 n0) 16 128 (s₁.setTop (mkF m 0 #[.val (.long x0), .second, .val (.long x1), .second, .val (.long x2), .second, .val (.long x3), .second, .val (.long x4), .second, .val (.long x5), .second, .unset, .unset, .unset, .unset, .unset] []))
  have J26 : ∀ (y2 y3 : Int64), own_G p e below s (own_Q0 n0) 16 128 (s₁.setTop (mkF m 26 #[.val (.long x0), .second, .val (.long y2), .second, .val (.long x2), .second, .val (.long y3), .second, .val (.long x4), .second, .val (.long x5), .second, .unset, .unset, .unset, .unset, .unset] [])) := by
    intro y2 y3
    obtain ⟨T121, h121, X121, e121, E121, A121, D121, -, st121⟩ := newO X0 hx hZ hown (hw _ (List.mem_of_getElem? (i := 1) rfl)) (hw _ (List.mem_of_getElem? (i := 2) rfl)) (hw _ (List.mem_of_getElem? (i := 3) rfl)) e0 (g := (mkF m 26 #[.val (.long x0), .second, .val (.long y2), .second, .val (.long x2), .second, .val (.long y3), .second, .val (.long x4), .second, .val (.long x5), .second, .unset, .unset, .unset, .unset, .unset] [])) rfl (hb hby at_26) (by decide) (by decide)
    obtain ⟨a3, g121⟩ : ∃ z, z = h0.size := ⟨_, rfl⟩
    rw [← g121] at A121 D121 st121
    refine own_go st121 ?_
    show own_G p e below s (own_Q0 n0) 16 128 (T121.setTop (mkF m 29 #[.val (.long x0), .second, .val (.long y2), .second, .val (.long x2), .second, .val (.long y3), .second, .val (.long x4), .second, .val (.long x5), .second, .unset, .unset, .unset, .unset, .unset] [(.ref a3)]))
    have D11 : Fld Z h121 a3 "com/example/shiftloom/shiftloom/scoring/Score" "hard" "J" (.long (0 : Int64)) := (D121 (Or.inr (hw _ (List.mem_of_getElem? (i := 16) rfl))) (ty := .long) (by decide))
    have D12 : Fld Z h121 a3 "com/example/shiftloom/shiftloom/scoring/Score" "medium" "J" (.long (0 : Int64)) := (D121 (Or.inr (hw _ (List.mem_of_getElem? (i := 18) rfl))) (ty := .long) (by decide))
    have D13 : Fld Z h121 a3 "com/example/shiftloom/shiftloom/scoring/Score" "soft" "J" (.long (0 : Int64)) := (D121 (Or.inr (hw _ (List.mem_of_getElem? (i := 20) rfl))) (ty := .long) (by decide))
    have Z1 : n0 ≤ h121.size := Nat.le_trans Z0 E121.1
    have g3 : n0 ≤ a3 := Nat.le_trans Z0 (Nat.le_of_eq g121.symm)
    refine own_go (fun t k => XS.dup X121.here hx rfl (hb hby at_29) rfl rfl k) ?_
    show own_G p e below s (own_Q0 n0) 16 128 (T121.setTop (mkF m 30 #[.val (.long x0), .second, .val (.long y2), .second, .val (.long x2), .second, .val (.long y3), .second, .val (.long x4), .second, .val (.long x5), .second, .unset, .unset, .unset, .unset, .unset] [(.ref a3), (.ref a3)]))
    refine own_go (fun t k => XT.lloadN X121.here hx rfl (hb hby at_30) rfl k) ?_
    show own_G p e below s (own_Q0 n0) 16 128 (T121.setTop (mkF m 31 #[.val (.long x0), .second, .val (.long y2), .second, .val (.long x2), .second, .val (.long y3), .second, .val (.long x4), .second, .val (.long x5), .second, .unset, .unset, .unset, .unset, .unset] [(.long x0), (.ref a3), (.ref a3)]))
    refine own_go (fun t k => XT.lload X121.here hx rfl (hb hby at_31) rfl k) ?_
    show own_G p e below s (own_Q0 n0) 16 128 (T121.setTop (mkF m 33 #[.val (.long x0), .second, .val (.long y2), .second, .val (.long x2), .second, .val (.long y3), .second, .val (.long x4), .second, .val (.long x5), .second, .unset, .unset, .unset, .unset, .unset] [(.long x2), (.long x0), (.ref a3), (.ref a3)]))
    refine own_go (fun t k => XT.lload X121.here hx rfl (hb hby at_33) rfl k) ?_
    show own_G p e below s (own_Q0 n0) 16 128 (T121.setTop (mkF m 35 #[.val (.long x0), .second, .val (.long y2), .second, .val (.long x2), .second, .val (.long y3), .second, .val (.long x4), .second, .val (.long x5), .second, .unset, .unset, .unset, .unset, .unset] [(.long x4), (.long x2), (.long x0), (.ref a3), (.ref a3)]))
    obtain ⟨_, _, ⟨T122, L122, k122, n122⟩, -, X122, ⟨Lc122, hQ122, l122, y122, z122⟩, st122⟩ := X121.specialBack hx (y := (⟨"com/example/shiftloom/shiftloom/scoring/Score", "<init>", "(JJJ)V"⟩ : MethodName)) rfl hown (mvT hZ (hw _ (List.mem_of_getElem? (i := 4) rfl))) (mvT hZ (hw _ (List.mem_of_getElem? (i := 5) rfl))) (mvT hZ (hw _ (List.mem_of_getElem? (i := 6) rfl))) (by decide) (backOf (W := 1) (rm1 l Z a0 hw [] a3 x0 x2 x4 h121 n0 Z1 D11 D12 D13 A121 g3) hZ (hw _ (List.mem_of_getElem? (i := 6) rfl)) (hw _ (List.mem_of_getElem? (i := 3) rfl)) (by decide) (by decide)) (g := (mkF m 35 #[.val (.long x0), .second, .val (.long y2), .second, .val (.long x2), .second, .val (.long y3), .second, .val (.long x4), .second, .val (.long x5), .second, .unset, .unset, .unset, .unset, .unset] [(.long x4), (.long x2), (.long x0), (.ref a3), (.ref a3)])) rfl (by rw [hml]; rfl) (Steps.refl _) (a := a3) (argsL := [(.long x0), (.long x2), (.long x4)]) (rest := [(.ref a3)]) (lenOf pd1 rfl) rfl (by show 2 * 0 + _ ≤ _; exact Nat.le_of_eq rfl) (hb hby at_35) (fun _ _ => ⟨rfl, e121, (by decide : 1 + 0 ≤ _), (by decide : 3 + 0 ≤ _)⟩)
    dsimp only [Pt.U, Pt.locs, Pt.cells, Pt.slots] at X122 l122 y122 z122 st122 hQ122
    subst l122 y122 z122
    obtain ⟨rfl, N4, K4, E4, F41, F42, F43⟩ := hQ122
    refine own_go (fun t k => st122.trans k) ?_
    show own_G p e below s (own_Q0 n0) 16 128 (T122.setTop (mkF m 38 #[.val (.long x0), .second, .val (.long y2), .second, .val (.long x2), .second, .val (.long y3), .second, .val (.long x4), .second, .val (.long x5), .second, .unset, .unset, .unset, .unset, .unset] [(.ref a3)]))
    have Z4 : n0 ≤ T122.heap.size := Nat.le_trans Z1 K4.1
    refine own_go (fun t k => XS.astore X122.here hx rfl (hb hby at_38) rfl rfl (l' := #[.val (.long x0), .second, .val (.long y2), .second, .val (.long x2), .second, .val (.long y3), .second, .val (.long x4), .second, .val (.long x5), .second, .val (.ref a3), .unset, .unset, .unset, .unset]) rfl k) ?_
    show own_G p e below s (own_Q0 n0) 16 128 (T122.setTop (mkF m 40 #[.val (.long x0), .second, .val (.long y2), .second, .val (.long x2), .second, .val (.long y3), .second, .val (.long x4), .second, .val (.long x5), .second, .val (.ref a3), .unset, .unset, .unset, .unset] []))
    obtain ⟨T123, h123, X123, e123, E123, A123, D123, -, st123⟩ := newO X122 hx hZ hown (hw _ (List.mem_of_getElem? (i := 1) rfl)) (hw _ (List.mem_of_getElem? (i := 2) rfl)) (hw _ (List.mem_of_getElem? (i := 3) rfl)) rfl (g := (mkF m 40 #[.val (.long x0), .second, .val (.long y2), .second, .val (.long x2), .second, .val (.long y3), .second, .val (.long x4), .second, .val (.long x5), .second, .val (.ref a3), .unset, .unset, .unset, .unset] [])) rfl (hb hby at_40) (by decide) (by decide)
    obtain ⟨a5, g123⟩ : ∃ z, z = T122.heap.size := ⟨_, rfl⟩
    rw [← g123] at A123 D123 st123
    refine own_go st123 ?_
    show own_G p e below s (own_Q0 n0) 16 128 (T123.setTop (mkF m 43 #[.val (.long x0), .second, .val (.long y2), .second, .val (.long x2), .second, .val (.long y3), .second, .val (.long x4), .second, .val (.long x5), .second, .val (.ref a3), .unset, .unset, .unset, .unset] [(.ref a5)]))
    have D21 : Fld Z h123 a5 "com/example/shiftloom/shiftloom/scoring/Score" "hard" "J" (.long (0 : Int64)) := (D123 (Or.inr (hw _ (List.mem_of_getElem? (i := 16) rfl))) (ty := .long) (by decide))
    have F51 := F41.ext E123
    have D22 : Fld Z h123 a5 "com/example/shiftloom/shiftloom/scoring/Score" "medium" "J" (.long (0 : Int64)) := (D123 (Or.inr (hw _ (List.mem_of_getElem? (i := 18) rfl))) (ty := .long) (by decide))
    have F52 := F42.ext E123
    have D23 : Fld Z h123 a5 "com/example/shiftloom/shiftloom/scoring/Score" "soft" "J" (.long (0 : Int64)) := (D123 (Or.inr (hw _ (List.mem_of_getElem? (i := 20) rfl))) (ty := .long) (by decide))
    have F53 := F43.ext E123
    have E5 := E4.ext E123
    have Z5 : n0 ≤ h123.size := Nat.le_trans Z4 E123.1
    have g5 : n0 ≤ a5 := Nat.le_trans Z4 (Nat.le_of_eq g123.symm)
    have ne35 : a3 ≠ a5 := Nat.ne_of_lt (Nat.lt_of_lt_of_le E4.lt (Nat.le_of_eq g123.symm))
    refine own_go (fun t k => XS.dup X123.here hx rfl (hb hby at_43) rfl rfl k) ?_
    show own_G p e below s (own_Q0 n0) 16 128 (T123.setTop (mkF m 44 #[.val (.long x0), .second, .val (.long y2), .second, .val (.long x2), .second, .val (.long y3), .second, .val (.long x4), .second, .val (.long x5), .second, .val (.ref a3), .unset, .unset, .unset, .unset] [(.ref a5), (.ref a5)]))
    refine own_go (fun t k => XT.lloadN X123.here hx rfl (hb hby at_44) rfl k) ?_
    show own_G p e below s (own_Q0 n0) 16 128 (T123.setTop (mkF m 45 #[.val (.long x0), .second, .val (.long y2), .second, .val (.long x2), .second, .val (.long y3), .second, .val (.long x4), .second, .val (.long x5), .second, .val (.ref a3), .unset, .unset, .unset, .unset] [(.long y2), (.ref a5), (.ref a5)]))
    refine own_go (fun t k => XT.lload X123.here hx rfl (hb hby at_45) rfl k) ?_
    show own_G p e below s (own_Q0 n0) 16 128 (T123.setTop (mkF m 47 #[.val (.long x0), .second, .val (.long y2), .second, .val (.long x2), .second, .val (.long y3), .second, .val (.long x4), .second, .val (.long x5), .second, .val (.ref a3), .unset, .unset, .unset, .unset] [(.long y3), (.long y2), (.ref a5), (.ref a5)]))
    refine own_go (fun t k => XT.lload X123.here hx rfl (hb hby at_47) rfl k) ?_
    show own_G p e below s (own_Q0 n0) 16 128 (T123.setTop (mkF m 49 #[.val (.long x0), .second, .val (.long y2), .second, .val (.long x2), .second, .val (.long y3), .second, .val (.long x4), .second, .val (.long x5), .second, .val (.ref a3), .unset, .unset, .unset, .unset] [(.long x5), (.long y3), (.long y2), (.ref a5), (.ref a5)]))
    obtain ⟨_, _, ⟨T124, L124, k124, n124⟩, -, X124, ⟨Lc124, hQ124, l124, y124, z124⟩, st124⟩ := X123.specialBack hx (y := (⟨"com/example/shiftloom/shiftloom/scoring/Score", "<init>", "(JJJ)V"⟩ : MethodName)) rfl hown (mvT hZ (hw _ (List.mem_of_getElem? (i := 4) rfl))) (mvT hZ (hw _ (List.mem_of_getElem? (i := 5) rfl))) (mvT hZ (hw _ (List.mem_of_getElem? (i := 6) rfl))) (by decide) (backOf (W := 1) (rm1 l Z a0 hw [] a5 y2 y3 x5 h123 n0 Z5 D21 D22 D23 A123 g5) hZ (hw _ (List.mem_of_getElem? (i := 6) rfl)) (hw _ (List.mem_of_getElem? (i := 3) rfl)) (by decide) (by decide)) (g := (mkF m 49 #[.val (.long x0), .second, .val (.long y2), .second, .val (.long x2), .second, .val (.long y3), .second, .val (.long x4), .second, .val (.long x5), .second, .val (.ref a3), .unset, .unset, .unset, .unset] [(.long x5), (.long y3), (.long y2), (.ref a5), (.ref a5)])) rfl (by rw [hml]; rfl) (Steps.refl _) (a := a5) (argsL := [(.long y2), (.long y3), (.long x5)]) (rest := [(.ref a5)]) (lenOf pd1 rfl) rfl (by show 2 * 0 + _ ≤ _; exact Nat.le_of_eq rfl) (hb hby at_49) (fun _ _ => ⟨rfl, e123, (by decide : 2 + 0 ≤ _), (by decide : 6 + 0 ≤ _)⟩)
    dsimp only [Pt.U, Pt.locs, Pt.cells, Pt.slots] at X124 l124 y124 z124 st124 hQ124
    subst l124 y124 z124
    obtain ⟨rfl, N6, K6, E6, F61, F62, F63⟩ := hQ124
    refine own_go (fun t k => st124.trans k) ?_
    show own_G p e below s (own_Q0 n0) 16 128 (T124.setTop (mkF m 52 #[.val (.long x0), .second, .val (.long y2), .second, .val (.long x2), .second, .val (.long y3), .second, .val (.long x4), .second, .val (.long x5), .second, .val (.ref a3), .unset, .unset, .unset, .unset] [(.ref a5)]))
    have F71 := F51.keep K6 (ninS ne35 nin0)
    have F72 := F52.keep K6 (ninS ne35 nin0)
    have F73 := F53.keep K6 (ninS ne35 nin0)
    have E7 := E5.keep K6
    refine own_go (fun t k => XS.astore X124.here hx rfl (hb hby at_52) rfl rfl (l' := #[.val (.long x0), .second, .val (.long y2), .second, .val (.long x2), .second, .val (.long y3), .second, .val (.long x4), .second, .val (.long x5), .second, .val (.ref a3), .val (.ref a5), .unset, .unset, .unset]) rfl k) ?_
    show own_G p e below s (own_Q0 n0) 16 128 (T124.setTop (mkF m 54 #[.val (.long x0), .second, .val (.long y2), .second, .val (.long x2), .second, .val (.long y3), .second, .val (.long x4), .second, .val (.long x5), .second, .val (.ref a3), .val (.ref a5), .unset, .unset, .unset] []))
    have J137 : ∀ (ex : Int32) (hex : own_sign (own_cmp x0 x2 x4 y2 y3 x5) = ex ∧ own_sign (own_cmp y2 y3 x5 x0 x2 x4) = -ex), own_G p e below s (own_Q0 n0) 16 128 (T124.setTop (mkF m 137 #[.val (.long x0), .second, .val (.long y2), .second, .val (.long x2), .second, .val (.long y3), .second, .val (.long x4), .second, .val (.long x5), .second, .val (.ref a3), .val (.ref a5), .val (.int ex), .unset, .unset] [])) := by
      intro ex hex
      refine own_go (fun t k => XS.aload X124.here hx rfl (hb hby at_137) rfl rfl k) ?_
      show own_G p e below s (own_Q0 n0) 16 128 (T124.setTop (mkF m 139 #[.val (.long x0), .second, .val (.long y2), .second, .val (.long x2), .second, .val (.long y3), .second, .val (.long x4), .second, .val (.long x5), .second, .val (.ref a3), .val (.ref a5), .val (.int ex), .unset, .unset] [(.ref a3)]))
      refine own_go (fun t k => XS.aload X124.here hx rfl (hb hby at_139) rfl rfl k) ?_
      show own_G p e below s (own_Q0 n0) 16 128 (T124.setTop (mkF m 141 #[.val (.long x0), .second, .val (.long y2), .second, .val (.long x2), .second, .val (.long y3), .second, .val (.long x4), .second, .val (.long x5), .second, .val (.ref a3), .val (.ref a5), .val (.int ex), .unset, .unset] [(.ref a5), (.ref a3)]))
      obtain ⟨cq125, kq125, q125a, q125b, q125c⟩ := isOf hZ rfl E7
      obtain ⟨_, _, ⟨T125, L125, k125, n125⟩, -, X125, ⟨Lc125, hQ125, l125, y125, z125⟩, st125⟩ := X124.virtualBack hx (y := (⟨"com/example/shiftloom/shiftloom/scoring/Score", "compareTo", "(Lcom/example/shiftloom/shiftloom/scoring/Score;)I"⟩ : MethodName)) (z := (⟨"com/example/shiftloom/shiftloom/scoring/Score", "compareTo", "(Lcom/example/shiftloom/shiftloom/scoring/Score;)I"⟩ : MethodName)) hown (mvT hZ (hw _ (List.mem_of_getElem? (i := 21) rfl))) (mvT hZ (hw _ (List.mem_of_getElem? (i := 22) rfl))) (notFace_of_selects (args := #[]) (mvT hZ (hw _ (List.mem_of_getElem? (i := 24) rfl)))) (mvT hZ (hw _ (List.mem_of_getElem? (i := 24) rfl))) (mvT hZ (hw _ (List.mem_of_getElem? (i := 23) rfl))) (by decide) (backOf (W := 0) (rm4 l Z a0 hw [] a3 a5 x0 x2 x4 y2 y3 x5 T124.heap F71 F72 F73 F61 F62 F63) hZ (hw _ (List.mem_of_getElem? (i := 25) rfl)) (hw _ (List.mem_of_getElem? (i := 3) rfl)) (by decide) (by decide)) q125a q125c (g := (mkF m 141 #[.val (.long x0), .second, .val (.long y2), .second, .val (.long x2), .second, .val (.long y3), .second, .val (.long x4), .second, .val (.long x5), .second, .val (.ref a3), .val (.ref a5), .val (.int ex), .unset, .unset] [(.ref a5), (.ref a3)])) rfl (by rw [hml]; rfl) (Steps.refl _) (argsL := [(.ref a5)]) (rest := []) (lenOf pd4 rfl) rfl (by show 2 * 0 + _ ≤ _; exact Nat.le_of_eq rfl) (hb hby at_141) (fun _ _ => ⟨rfl, rfl, (by decide : 2 + 0 ≤ _), (by decide : 6 + 0 ≤ _)⟩)
      dsimp only [Pt.U, Pt.locs, Pt.cells, Pt.slots] at X125 l125 y125 z125 st125 hQ125
      subst l125 y125 z125
      obtain ⟨rfl, rfl, e125⟩ := hQ125
      refine own_go (fun t k => st125.trans k) ?_
      show own_G p e below s (own_Q0 n0) 16 128 (T125.setTop (mkF m 144 #[.val (.long x0), .second, .val (.long y2), .second, .val (.long x2), .second, .val (.long y3), .second, .val (.long x4), .second, .val (.long x5), .second, .val (.ref a3), .val (.ref a5), .val (.int ex), .unset, .unset] [(.int (own_cmp x0 x2 x4 y2 y3 x5))]))
      obtain ⟨_, _, ⟨T126, L126, k126, n126⟩, -, X126, ⟨Lc126, hQ126, l126, y126, z126⟩, st126⟩ := Jvm.LawKit.callS X125 hx (y := (⟨"com/example/shiftloom/shiftloom/scoring/ScoreCompareToPinLaw", "sign", "(I)I"⟩ : MethodName)) hown (mvT hZ (hw _ (List.mem_of_getElem? (i := 30) rfl))) (mvT hZ (hw _ (List.mem_of_getElem? (i := 31) rfl))) (mvT hZ (hw _ (List.mem_of_getElem? (i := 32) rfl))) (mvT hZ (hw _ (List.mem_of_getElem? (i := 33) rfl))) (by decide) (backOf (W := 0) (rm6 l Z a0 hw [] (own_cmp x0 x2 x4 y2 y3 x5) T124.heap) hZ (hw _ (List.mem_of_getElem? (i := 33) rfl)) (hw _ (List.mem_of_getElem? (i := 32) rfl)) (by decide) (by decide)) (g := (mkF m 144 #[.val (.long x0), .second, .val (.long y2), .second, .val (.long x2), .second, .val (.long y3), .second, .val (.long x4), .second, .val (.long x5), .second, .val (.ref a3), .val (.ref a5), .val (.int ex), .unset, .unset] [(.int (own_cmp x0 x2 x4 y2 y3 x5))])) rfl (by rw [hml]; rfl) (argsL := [(.int (own_cmp x0 x2 x4 y2 y3 x5))]) (rest := []) (lenOf pd6 rfl) rfl (by show 2 * 0 + _ ≤ _; exact Nat.le_of_eq rfl) (hb hby at_144) (fun _ _ => ⟨rfl, e125, (by decide : 2 + 0 ≤ _), (by decide : 6 + 0 ≤ _)⟩)
      dsimp only [Pt.U, Pt.locs, Pt.cells, Pt.slots] at X126 l126 y126 z126 st126 hQ126
      subst l126 y126 z126
      obtain ⟨rfl, rfl, e126⟩ := hQ126
      refine own_go (st126) ?_
      show own_G p e below s (own_Q0 n0) 16 128 (T126.setTop (mkF m 147 #[.val (.long x0), .second, .val (.long y2), .second, .val (.long x2), .second, .val (.long y3), .second, .val (.long x4), .second, .val (.long x5), .second, .val (.ref a3), .val (.ref a5), .val (.int ex), .unset, .unset] [(.int (own_sign (own_cmp x0 x2 x4 y2 y3 x5)))]))
      refine own_go (fun t k => XS.istore X126.here hx rfl (hb hby at_147) rfl (l' := #[.val (.long x0), .second, .val (.long y2), .second, .val (.long x2), .second, .val (.long y3), .second, .val (.long x4), .second, .val (.long x5), .second, .val (.ref a3), .val (.ref a5), .val (.int ex), .val (.int (own_sign (own_cmp x0 x2 x4 y2 y3 x5))), .unset]) rfl k) ?_
      show own_G p e below s (own_Q0 n0) 16 128 (T126.setTop (mkF m 149 #[.val (.long x0), .second, .val (.long y2), .second, .val (.long x2), .second, .val (.long y3), .second, .val (.long x4), .second, .val (.long x5), .second, .val (.ref a3), .val (.ref a5), .val (.int ex), .val (.int (own_sign (own_cmp x0 x2 x4 y2 y3 x5))), .unset] []))
      refine own_go (fun t k => XS.aload X126.here hx rfl (hb hby at_149) rfl rfl k) ?_
      show own_G p e below s (own_Q0 n0) 16 128 (T126.setTop (mkF m 151 #[.val (.long x0), .second, .val (.long y2), .second, .val (.long x2), .second, .val (.long y3), .second, .val (.long x4), .second, .val (.long x5), .second, .val (.ref a3), .val (.ref a5), .val (.int ex), .val (.int (own_sign (own_cmp x0 x2 x4 y2 y3 x5))), .unset] [(.ref a5)]))
      refine own_go (fun t k => XS.aload X126.here hx rfl (hb hby at_151) rfl rfl k) ?_
      show own_G p e below s (own_Q0 n0) 16 128 (T126.setTop (mkF m 153 #[.val (.long x0), .second, .val (.long y2), .second, .val (.long x2), .second, .val (.long y3), .second, .val (.long x4), .second, .val (.long x5), .second, .val (.ref a3), .val (.ref a5), .val (.int ex), .val (.int (own_sign (own_cmp x0 x2 x4 y2 y3 x5))), .unset] [(.ref a3), (.ref a5)]))
      obtain ⟨cq127, kq127, q127a, q127b, q127c⟩ := isOf hZ e126 E6
      obtain ⟨_, _, ⟨T127, L127, k127, n127⟩, -, X127, ⟨Lc127, hQ127, l127, y127, z127⟩, st127⟩ := X126.virtualBack hx (y := (⟨"com/example/shiftloom/shiftloom/scoring/Score", "compareTo", "(Lcom/example/shiftloom/shiftloom/scoring/Score;)I"⟩ : MethodName)) (z := (⟨"com/example/shiftloom/shiftloom/scoring/Score", "compareTo", "(Lcom/example/shiftloom/shiftloom/scoring/Score;)I"⟩ : MethodName)) hown (mvT hZ (hw _ (List.mem_of_getElem? (i := 21) rfl))) (mvT hZ (hw _ (List.mem_of_getElem? (i := 22) rfl))) (notFace_of_selects (args := #[]) (mvT hZ (hw _ (List.mem_of_getElem? (i := 24) rfl)))) (mvT hZ (hw _ (List.mem_of_getElem? (i := 24) rfl))) (mvT hZ (hw _ (List.mem_of_getElem? (i := 23) rfl))) (by decide) (backOf (W := 0) (rm4 l Z a0 hw [] a5 a3 y2 y3 x5 x0 x2 x4 T124.heap F61 F62 F63 F71 F72 F73) hZ (hw _ (List.mem_of_getElem? (i := 25) rfl)) (hw _ (List.mem_of_getElem? (i := 3) rfl)) (by decide) (by decide)) q127a q127c (g := (mkF m 153 #[.val (.long x0), .second, .val (.long y2), .second, .val (.long x2), .second, .val (.long y3), .second, .val (.long x4), .second, .val (.long x5), .second, .val (.ref a3), .val (.ref a5), .val (.int ex), .val (.int (own_sign (own_cmp x0 x2 x4 y2 y3 x5))), .unset] [(.ref a3), (.ref a5)])) rfl (by rw [hml]; rfl) (Steps.refl _) (argsL := [(.ref a3)]) (rest := []) (lenOf pd4 rfl) rfl (by show 2 * 0 + _ ≤ _; exact Nat.le_of_eq rfl) (hb hby at_153) (fun _ _ => ⟨rfl, e126, (by decide : 2 + 0 ≤ _), (by decide : 6 + 0 ≤ _)⟩)
      dsimp only [Pt.U, Pt.locs, Pt.cells, Pt.slots] at X127 l127 y127 z127 st127 hQ127
      subst l127 y127 z127
      obtain ⟨rfl, rfl, e127⟩ := hQ127
      refine own_go (fun t k => st127.trans k) ?_
      show own_G p e below s (own_Q0 n0) 16 128 (T127.setTop (mkF m 156 #[.val (.long x0), .second, .val (.long y2), .second, .val (.long x2), .second, .val (.long y3), .second, .val (.long x4), .second, .val (.long x5), .second, .val (.ref a3), .val (.ref a5), .val (.int ex), .val (.int (own_sign (own_cmp x0 x2 x4 y2 y3 x5))), .unset] [(.int (own_cmp y2 y3 x5 x0 x2 x4))]))
      obtain ⟨_, _, ⟨T128, L128, k128, n128⟩, -, X128, ⟨Lc128, hQ128, l128, y128, z128⟩, st128⟩ := Jvm.LawKit.callS X127 hx (y := (⟨"com/example/shiftloom/shiftloom/scoring/ScoreCompareToPinLaw", "sign", "(I)I"⟩ : MethodName)) hown (mvT hZ (hw _ (List.mem_of_getElem? (i := 30) rfl))) (mvT hZ (hw _ (List.mem_of_getElem? (i := 31) rfl))) (mvT hZ (hw _ (List.mem_of_getElem? (i := 32) rfl))) (mvT hZ (hw _ (List.mem_of_getElem? (i := 33) rfl))) (by decide) (backOf (W := 0) (rm6 l Z a0 hw [] (own_cmp y2 y3 x5 x0 x2 x4) T124.heap) hZ (hw _ (List.mem_of_getElem? (i := 33) rfl)) (hw _ (List.mem_of_getElem? (i := 32) rfl)) (by decide) (by decide)) (g := (mkF m 156 #[.val (.long x0), .second, .val (.long y2), .second, .val (.long x2), .second, .val (.long y3), .second, .val (.long x4), .second, .val (.long x5), .second, .val (.ref a3), .val (.ref a5), .val (.int ex), .val (.int (own_sign (own_cmp x0 x2 x4 y2 y3 x5))), .unset] [(.int (own_cmp y2 y3 x5 x0 x2 x4))])) rfl (by rw [hml]; rfl) (argsL := [(.int (own_cmp y2 y3 x5 x0 x2 x4))]) (rest := []) (lenOf pd6 rfl) rfl (by show 2 * 0 + _ ≤ _; exact Nat.le_of_eq rfl) (hb hby at_156) (fun _ _ => ⟨rfl, e127, (by decide : 2 + 0 ≤ _), (by decide : 6 + 0 ≤ _)⟩)
      dsimp only [Pt.U, Pt.locs, Pt.cells, Pt.slots] at X128 l128 y128 z128 st128 hQ128
      subst l128 y128 z128
      obtain ⟨rfl, rfl, e128⟩ := hQ128
      refine own_go (st128) ?_
      show own_G p e below s (own_Q0 n0) 16 128 (T128.setTop (mkF m 159 #[.val (.long x0), .second, .val (.long y2), .second, .val (.long x2), .second, .val (.long y3), .second, .val (.long x4), .second, .val (.long x5), .second, .val (.ref a3), .val (.ref a5), .val (.int ex), .val (.int (own_sign (own_cmp x0 x2 x4 y2 y3 x5))), .unset] [(.int (own_sign (own_cmp y2 y3 x5 x0 x2 x4)))]))
      refine own_go (fun t k => XS.istore X128.here hx rfl (hb hby at_159) rfl (l' := #[.val (.long x0), .second, .val (.long y2), .second, .val (.long x2), .second, .val (.long y3), .second, .val (.long x4), .second, .val (.long x5), .second, .val (.ref a3), .val (.ref a5), .val (.int ex), .val (.int (own_sign (own_cmp x0 x2 x4 y2 y3 x5))), .val (.int (own_sign (own_cmp y2 y3 x5 x0 x2 x4)))]) rfl k) ?_
      show own_G p e below s (own_Q0 n0) 16 128 (T128.setTop (mkF m 161 #[.val (.long x0), .second, .val (.long y2), .second, .val (.long x2), .second, .val (.long y3), .second, .val (.long x4), .second, .val (.long x5), .second, .val (.ref a3), .val (.ref a5), .val (.int ex), .val (.int (own_sign (own_cmp x0 x2 x4 y2 y3 x5))), .val (.int (own_sign (own_cmp y2 y3 x5 x0 x2 x4)))] []))
      refine own_go (fun t k => XS.iload X128.here hx rfl (hb hby at_161) rfl k) ?_
      show own_G p e below s (own_Q0 n0) 16 128 (T128.setTop (mkF m 163 #[.val (.long x0), .second, .val (.long y2), .second, .val (.long x2), .second, .val (.long y3), .second, .val (.long x4), .second, .val (.long x5), .second, .val (.ref a3), .val (.ref a5), .val (.int ex), .val (.int (own_sign (own_cmp x0 x2 x4 y2 y3 x5))), .val (.int (own_sign (own_cmp y2 y3 x5 x0 x2 x4)))] [(.int (own_sign (own_cmp x0 x2 x4 y2 y3 x5)))]))
      refine own_go (fun t k => XS.iload X128.here hx rfl (hb hby at_163) rfl k) ?_
      show own_G p e below s (own_Q0 n0) 16 128 (T128.setTop (mkF m 165 #[.val (.long x0), .second, .val (.long y2), .second, .val (.long x2), .second, .val (.long y3), .second, .val (.long x4), .second, .val (.long x5), .second, .val (.ref a3), .val (.ref a5), .val (.int ex), .val (.int (own_sign (own_cmp x0 x2 x4 y2 y3 x5))), .val (.int (own_sign (own_cmp y2 y3 x5 x0 x2 x4)))] [(.int ex), (.int (own_sign (own_cmp x0 x2 x4 y2 y3 x5)))]))
      refine own_go (fun t k => XS.icmpNo X128.here hx rfl (hb hby at_165) rfl (XT.ii_ne_f hex.1) k) ?_
      show own_G p e below s (own_Q0 n0) 16 128 (T128.setTop (mkF m 168 #[.val (.long x0), .second, .val (.long y2), .second, .val (.long x2), .second, .val (.long y3), .second, .val (.long x4), .second, .val (.long x5), .second, .val (.ref a3), .val (.ref a5), .val (.int ex), .val (.int (own_sign (own_cmp x0 x2 x4 y2 y3 x5))), .val (.int (own_sign (own_cmp y2 y3 x5 x0 x2 x4)))] []))
      refine own_go (fun t k => XS.iload X128.here hx rfl (hb hby at_168) rfl k) ?_
      show own_G p e below s (own_Q0 n0) 16 128 (T128.setTop (mkF m 170 #[.val (.long x0), .second, .val (.long y2), .second, .val (.long x2), .second, .val (.long y3), .second, .val (.long x4), .second, .val (.long x5), .second, .val (.ref a3), .val (.ref a5), .val (.int ex), .val (.int (own_sign (own_cmp x0 x2 x4 y2 y3 x5))), .val (.int (own_sign (own_cmp y2 y3 x5 x0 x2 x4)))] [(.int (own_sign (own_cmp y2 y3 x5 x0 x2 x4)))]))
      refine own_go (fun t k => XS.iload X128.here hx rfl (hb hby at_170) rfl k) ?_
      show own_G p e below s (own_Q0 n0) 16 128 (T128.setTop (mkF m 172 #[.val (.long x0), .second, .val (.long y2), .second, .val (.long x2), .second, .val (.long y3), .second, .val (.long x4), .second, .val (.long x5), .second, .val (.ref a3), .val (.ref a5), .val (.int ex), .val (.int (own_sign (own_cmp x0 x2 x4 y2 y3 x5))), .val (.int (own_sign (own_cmp y2 y3 x5 x0 x2 x4)))] [(.int ex), (.int (own_sign (own_cmp y2 y3 x5 x0 x2 x4)))]))
      refine own_go (fun t k => XS.ineg X128.here hx rfl (hb hby at_172) rfl k) ?_
      show own_G p e below s (own_Q0 n0) 16 128 (T128.setTop (mkF m 173 #[.val (.long x0), .second, .val (.long y2), .second, .val (.long x2), .second, .val (.long y3), .second, .val (.long x4), .second, .val (.long x5), .second, .val (.ref a3), .val (.ref a5), .val (.int ex), .val (.int (own_sign (own_cmp x0 x2 x4 y2 y3 x5))), .val (.int (own_sign (own_cmp y2 y3 x5 x0 x2 x4)))] [(.int (-ex)), (.int (own_sign (own_cmp y2 y3 x5 x0 x2 x4)))]))
      refine own_go (fun t k => XS.icmpNo X128.here hx rfl (hb hby at_173) rfl (XT.ii_ne_f hex.2) k) ?_
      show own_G p e below s (own_Q0 n0) 16 128 (T128.setTop (mkF m 176 #[.val (.long x0), .second, .val (.long y2), .second, .val (.long x2), .second, .val (.long y3), .second, .val (.long x4), .second, .val (.long x5), .second, .val (.ref a3), .val (.ref a5), .val (.int ex), .val (.int (own_sign (own_cmp x0 x2 x4 y2 y3 x5))), .val (.int (own_sign (own_cmp y2 y3 x5 x0 x2 x4)))] []))
      refine own_go (fun t k => XS.iconst X128.here hx rfl (hb hby at_176) k) ?_
      show own_G p e below s (own_Q0 n0) 16 128 (T128.setTop (mkF m 177 #[.val (.long x0), .second, .val (.long y2), .second, .val (.long x2), .second, .val (.long y3), .second, .val (.long x4), .second, .val (.long x5), .second, .val (.ref a3), .val (.ref a5), .val (.int ex), .val (.int (own_sign (own_cmp x0 x2 x4 y2 y3 x5))), .val (.int (own_sign (own_cmp y2 y3 x5 x0 x2 x4)))] [(.int (1 : Int32))]))
      refine own_go (fun t k => XS.goto X128.here hx rfl (pc0 := 177) (pc' := 181) rfl (hb hby at_177) (by decide) (by decide) k) ?_
      show own_G p e below s (own_Q0 n0) 16 128 (T128.setTop (mkF m 181 #[.val (.long x0), .second, .val (.long y2), .second, .val (.long x2), .second, .val (.long y3), .second, .val (.long x4), .second, .val (.long x5), .second, .val (.ref a3), .val (.ref a5), .val (.int ex), .val (.int (own_sign (own_cmp x0 x2 x4 y2 y3 x5))), .val (.int (own_sign (own_cmp y2 y3 x5 x0 x2 x4)))] [(.int (1 : Int32))]))
      exact own_leave X128 (some (.int (1 : Int32))) (fun h => by rw [Bd.returns] at h; cases h) Bd.notSynchronized (fun fs hr => retN X128 hx (t := .boolean) Bd.returns (by simp) (hb hby at_181) hr) ⟨rfl, (Fr.app (Fr.app (Fr.app (Fr.app (Fr.app (Fr.app (Fr.nil n0) N4) N6) (Fr.nil n0)) (Fr.nil n0)) (Fr.nil n0)) (Fr.nil n0))⟩ (by decide) (by decide)
    refine own_go (fun t k => XT.lloadN X124.here hx rfl (hb hby at_54) rfl k) ?_
    show own_G p e below s (own_Q0 n0) 16 128 (T124.setTop (mkF m 55 #[.val (.long x0), .second, .val (.long y2), .second, .val (.long x2), .second, .val (.long y3), .second, .val (.long x4), .second, .val (.long x5), .second, .val (.ref a3), .val (.ref a5), .unset, .unset, .unset] [(.long x0)]))
    refine own_go (fun t k => XT.lloadN X124.here hx rfl (hb hby at_55) rfl k) ?_
    show own_G p e below s (own_Q0 n0) 16 128 (T124.setTop (mkF m 56 #[.val (.long x0), .second, .val (.long y2), .second, .val (.long x2), .second, .val (.long y3), .second, .val (.long x4), .second, .val (.long x5), .second, .val (.ref a3), .val (.ref a5), .unset, .unset, .unset] [(.long y2), (.long x0)]))
    refine own_go (fun t k => XT.lcmp X124.here hx rfl (hb hby at_56) rfl k) ?_
    show own_G p e below s (own_Q0 n0) 16 128 (T124.setTop (mkF m 57 #[.val (.long x0), .second, .val (.long y2), .second, .val (.long x2), .second, .val (.long y3), .second, .val (.long x4), .second, .val (.long x5), .second, .val (.ref a3), .val (.ref a5), .unset, .unset, .unset] [(.int (XT.cmpL x0 y2))]))
    by_cases h1 : x0 < y2
    · skip
      refine own_go (fun t k => XS.ifNo X124.here hx rfl (hb hby at_57) rfl (XT.ll_ge_f h1) k) ?_
      show own_G p e below s (own_Q0 n0) 16 128 (T124.setTop (mkF m 60 #[.val (.long x0), .second, .val (.long y2), .second, .val (.long x2), .second, .val (.long y3), .second, .val (.long x4), .second, .val (.long x5), .second, .val (.ref a3), .val (.ref a5), .unset, .unset, .unset] []))
      refine own_go (fun t k => XS.iconst X124.here hx rfl (hb hby at_60) k) ?_
      show own_G p e below s (own_Q0 n0) 16 128 (T124.setTop (mkF m 61 #[.val (.long x0), .second, .val (.long y2), .second, .val (.long x2), .second, .val (.long y3), .second, .val (.long x4), .second, .val (.long x5), .second, .val (.ref a3), .val (.ref a5), .unset, .unset, .unset] [(.int (-1 : Int32))]))
      refine own_go (fun t k => XS.istore X124.here hx rfl (hb hby at_61) rfl (l' := #[.val (.long x0), .second, .val (.long y2), .second, .val (.long x2), .second, .val (.long y3), .second, .val (.long x4), .second, .val (.long x5), .second, .val (.ref a3), .val (.ref a5), .val (.int (-1 : Int32)), .unset, .unset]) rfl k) ?_
      show own_G p e below s (own_Q0 n0) 16 128 (T124.setTop (mkF m 63 #[.val (.long x0), .second, .val (.long y2), .second, .val (.long x2), .second, .val (.long y3), .second, .val (.long x4), .second, .val (.long x5), .second, .val (.ref a3), .val (.ref a5), .val (.int (-1 : Int32)), .unset, .unset] []))
      refine own_go (fun t k => XS.goto X124.here hx rfl (pc0 := 63) (pc' := 137) rfl (hb hby at_63) (by decide) (by decide) k) ?_
      show own_G p e below s (own_Q0 n0) 16 128 (T124.setTop (mkF m 137 #[.val (.long x0), .second, .val (.long y2), .second, .val (.long x2), .second, .val (.long y3), .second, .val (.long x4), .second, .val (.long x5), .second, .val (.ref a3), .val (.ref a5), .val (.int (-1 : Int32)), .unset, .unset] []))
      exact J137 _ (own_both_lt_a h1)
    · skip
      refine own_go (fun t k => XS.ifYes X124.here hx rfl (pc0 := 57) (pc' := 66) rfl (hb hby at_57) rfl (XT.ll_ge_t h1) (by decide) (by decide) k) ?_
      show own_G p e below s (own_Q0 n0) 16 128 (T124.setTop (mkF m 66 #[.val (.long x0), .second, .val (.long y2), .second, .val (.long x2), .second, .val (.long y3), .second, .val (.long x4), .second, .val (.long x5), .second, .val (.ref a3), .val (.ref a5), .unset, .unset, .unset] []))
      refine own_go (fun t k => XT.lloadN X124.here hx rfl (hb hby at_66) rfl k) ?_
      show own_G p e below s (own_Q0 n0) 16 128 (T124.setTop (mkF m 67 #[.val (.long x0), .second, .val (.long y2), .second, .val (.long x2), .second, .val (.long y3), .second, .val (.long x4), .second, .val (.long x5), .second, .val (.ref a3), .val (.ref a5), .unset, .unset, .unset] [(.long x0)]))
      refine own_go (fun t k => XT.lloadN X124.here hx rfl (hb hby at_67) rfl k) ?_
      show own_G p e below s (own_Q0 n0) 16 128 (T124.setTop (mkF m 68 #[.val (.long x0), .second, .val (.long y2), .second, .val (.long x2), .second, .val (.long y3), .second, .val (.long x4), .second, .val (.long x5), .second, .val (.ref a3), .val (.ref a5), .unset, .unset, .unset] [(.long y2), (.long x0)]))
      refine own_go (fun t k => XT.lcmp X124.here hx rfl (hb hby at_68) rfl k) ?_
      show own_G p e below s (own_Q0 n0) 16 128 (T124.setTop (mkF m 69 #[.val (.long x0), .second, .val (.long y2), .second, .val (.long x2), .second, .val (.long y3), .second, .val (.long x4), .second, .val (.long x5), .second, .val (.ref a3), .val (.ref a5), .unset, .unset, .unset] [(.int (XT.cmpL x0 y2))]))
      by_cases h2 : y2 < x0
      · skip
        refine own_go (fun t k => XS.ifNo X124.here hx rfl (hb hby at_69) rfl (XT.ll_le_f h2) k) ?_
        show own_G p e below s (own_Q0 n0) 16 128 (T124.setTop (mkF m 72 #[.val (.long x0), .second, .val (.long y2), .second, .val (.long x2), .second, .val (.long y3), .second, .val (.long x4), .second, .val (.long x5), .second, .val (.ref a3), .val (.ref a5), .unset, .unset, .unset] []))
        refine own_go (fun t k => XS.iconst X124.here hx rfl (hb hby at_72) k) ?_
        show own_G p e below s (own_Q0 n0) 16 128 (T124.setTop (mkF m 73 #[.val (.long x0), .second, .val (.long y2), .second, .val (.long x2), .second, .val (.long y3), .second, .val (.long x4), .second, .val (.long x5), .second, .val (.ref a3), .val (.ref a5), .unset, .unset, .unset] [(.int (1 : Int32))]))
        refine own_go (fun t k => XS.istore X124.here hx rfl (hb hby at_73) rfl (l' := #[.val (.long x0), .second, .val (.long y2), .second, .val (.long x2), .second, .val (.long y3), .second, .val (.long x4), .second, .val (.long x5), .second, .val (.ref a3), .val (.ref a5), .val (.int (1 : Int32)), .unset, .unset]) rfl k) ?_
        show own_G p e below s (own_Q0 n0) 16 128 (T124.setTop (mkF m 75 #[.val (.long x0), .second, .val (.long y2), .second, .val (.long x2), .second, .val (.long y3), .second, .val (.long x4), .second, .val (.long x5), .second, .val (.ref a3), .val (.ref a5), .val (.int (1 : Int32)), .unset, .unset] []))
        refine own_go (fun t k => XS.goto X124.here hx rfl (pc0 := 75) (pc' := 137) rfl (hb hby at_75) (by decide) (by decide) k) ?_
        show own_G p e below s (own_Q0 n0) 16 128 (T124.setTop (mkF m 137 #[.val (.long x0), .second, .val (.long y2), .second, .val (.long x2), .second, .val (.long y3), .second, .val (.long x4), .second, .val (.long x5), .second, .val (.ref a3), .val (.ref a5), .val (.int (1 : Int32)), .unset, .unset] []))
        exact J137 _ (own_both_gt_a h2)
      · skip
        refine own_go (fun t k => XS.ifYes X124.here hx rfl (pc0 := 69) (pc' := 78) rfl (hb hby at_69) rfl (XT.ll_le_t h2) (by decide) (by decide) k) ?_
        show own_G p e below s (own_Q0 n0) 16 128 (T124.setTop (mkF m 78 #[.val (.long x0), .second, .val (.long y2), .second, .val (.long x2), .second, .val (.long y3), .second, .val (.long x4), .second, .val (.long x5), .second, .val (.ref a3), .val (.ref a5), .unset, .unset, .unset] []))
        refine own_go (fun t k => XT.lload X124.here hx rfl (hb hby at_78) rfl k) ?_
        show own_G p e below s (own_Q0 n0) 16 128 (T124.setTop (mkF m 80 #[.val (.long x0), .second, .val (.long y2), .second, .val (.long x2), .second, .val (.long y3), .second, .val (.long x4), .second, .val (.long x5), .second, .val (.ref a3), .val (.ref a5), .unset, .unset, .unset] [(.long x2)]))
        refine own_go (fun t k => XT.lload X124.here hx rfl (hb hby at_80) rfl k) ?_
        show own_G p e below s (own_Q0 n0) 16 128 (T124.setTop (mkF m 82 #[.val (.long x0), .second, .val (.long y2), .second, .val (.long x2), .second, .val (.long y3), .second, .val (.long x4), .second, .val (.long x5), .second, .val (.ref a3), .val (.ref a5), .unset, .unset, .unset] [(.long y3), (.long x2)]))
        refine own_go (fun t k => XT.lcmp X124.here hx rfl (hb hby at_82) rfl k) ?_
        show own_G p e below s (own_Q0 n0) 16 128 (T124.setTop (mkF m 83 #[.val (.long x0), .second, .val (.long y2), .second, .val (.long x2), .second, .val (.long y3), .second, .val (.long x4), .second, .val (.long x5), .second, .val (.ref a3), .val (.ref a5), .unset, .unset, .unset] [(.int (XT.cmpL x2 y3))]))
        by_cases h3 : x2 < y3
        · skip
          refine own_go (fun t k => XS.ifNo X124.here hx rfl (hb hby at_83) rfl (XT.ll_ge_f h3) k) ?_
          show own_G p e below s (own_Q0 n0) 16 128 (T124.setTop (mkF m 86 #[.val (.long x0), .second, .val (.long y2), .second, .val (.long x2), .second, .val (.long y3), .second, .val (.long x4), .second, .val (.long x5), .second, .val (.ref a3), .val (.ref a5), .unset, .unset, .unset] []))
          refine own_go (fun t k => XS.iconst X124.here hx rfl (hb hby at_86) k) ?_
          show own_G p e below s (own_Q0 n0) 16 128 (T124.setTop (mkF m 87 #[.val (.long x0), .second, .val (.long y2), .second, .val (.long x2), .second, .val (.long y3), .second, .val (.long x4), .second, .val (.long x5), .second, .val (.ref a3), .val (.ref a5), .unset, .unset, .unset] [(.int (-1 : Int32))]))
          refine own_go (fun t k => XS.istore X124.here hx rfl (hb hby at_87) rfl (l' := #[.val (.long x0), .second, .val (.long y2), .second, .val (.long x2), .second, .val (.long y3), .second, .val (.long x4), .second, .val (.long x5), .second, .val (.ref a3), .val (.ref a5), .val (.int (-1 : Int32)), .unset, .unset]) rfl k) ?_
          show own_G p e below s (own_Q0 n0) 16 128 (T124.setTop (mkF m 89 #[.val (.long x0), .second, .val (.long y2), .second, .val (.long x2), .second, .val (.long y3), .second, .val (.long x4), .second, .val (.long x5), .second, .val (.ref a3), .val (.ref a5), .val (.int (-1 : Int32)), .unset, .unset] []))
          refine own_go (fun t k => XS.goto X124.here hx rfl (pc0 := 89) (pc' := 137) rfl (hb hby at_89) (by decide) (by decide) k) ?_
          show own_G p e below s (own_Q0 n0) 16 128 (T124.setTop (mkF m 137 #[.val (.long x0), .second, .val (.long y2), .second, .val (.long x2), .second, .val (.long y3), .second, .val (.long x4), .second, .val (.long x5), .second, .val (.ref a3), .val (.ref a5), .val (.int (-1 : Int32)), .unset, .unset] []))
          exact J137 _ (own_both_lt_b (own_eq2 h1 h2) h3)
        · skip
          refine own_go (fun t k => XS.ifYes X124.here hx rfl (pc0 := 83) (pc' := 92) rfl (hb hby at_83) rfl (XT.ll_ge_t h3) (by decide) (by decide) k) ?_
          show own_G p e below s (own_Q0 n0) 16 128 (T124.setTop (mkF m 92 #[.val (.long x0), .second, .val (.long y2), .second, .val (.long x2), .second, .val (.long y3), .second, .val (.long x4), .second, .val (.long x5), .second, .val (.ref a3), .val (.ref a5), .unset, .unset, .unset] []))
          refine own_go (fun t k => XT.lload X124.here hx rfl (hb hby at_92) rfl k) ?_
          show own_G p e below s (own_Q0 n0) 16 128 (T124.setTop (mkF m 94 #[.val (.long x0), .second, .val (.long y2), .second, .val (.long x2), .second, .val (.long y3), .second, .val (.long x4), .second, .val (.long x5), .second, .val (.ref a3), .val (.ref a5), .unset, .unset, .unset] [(.long x2)]))
          refine own_go (fun t k => XT.lload X124.here hx rfl (hb hby at_94) rfl k) ?_
          show own_G p e below s (own_Q0 n0) 16 128 (T124.setTop (mkF m 96 #[.val (.long x0), .second, .val (.long y2), .second, .val (.long x2), .second, .val (.long y3), .second, .val (.long x4), .second, .val (.long x5), .second, .val (.ref a3), .val (.ref a5), .unset, .unset, .unset] [(.long y3), (.long x2)]))
          refine own_go (fun t k => XT.lcmp X124.here hx rfl (hb hby at_96) rfl k) ?_
          show own_G p e below s (own_Q0 n0) 16 128 (T124.setTop (mkF m 97 #[.val (.long x0), .second, .val (.long y2), .second, .val (.long x2), .second, .val (.long y3), .second, .val (.long x4), .second, .val (.long x5), .second, .val (.ref a3), .val (.ref a5), .unset, .unset, .unset] [(.int (XT.cmpL x2 y3))]))
          by_cases h4 : y3 < x2
          · skip
            refine own_go (fun t k => XS.ifNo X124.here hx rfl (hb hby at_97) rfl (XT.ll_le_f h4) k) ?_
            show own_G p e below s (own_Q0 n0) 16 128 (T124.setTop (mkF m 100 #[.val (.long x0), .second, .val (.long y2), .second, .val (.long x2), .second, .val (.long y3), .second, .val (.long x4), .second, .val (.long x5), .second, .val (.ref a3), .val (.ref a5), .unset, .unset, .unset] []))
            refine own_go (fun t k => XS.iconst X124.here hx rfl (hb hby at_100) k) ?_
            show own_G p e below s (own_Q0 n0) 16 128 (T124.setTop (mkF m 101 #[.val (.long x0), .second, .val (.long y2), .second, .val (.long x2), .second, .val (.long y3), .second, .val (.long x4), .second, .val (.long x5), .second, .val (.ref a3), .val (.ref a5), .unset, .unset, .unset] [(.int (1 : Int32))]))
            refine own_go (fun t k => XS.istore X124.here hx rfl (hb hby at_101) rfl (l' := #[.val (.long x0), .second, .val (.long y2), .second, .val (.long x2), .second, .val (.long y3), .second, .val (.long x4), .second, .val (.long x5), .second, .val (.ref a3), .val (.ref a5), .val (.int (1 : Int32)), .unset, .unset]) rfl k) ?_
            show own_G p e below s (own_Q0 n0) 16 128 (T124.setTop (mkF m 103 #[.val (.long x0), .second, .val (.long y2), .second, .val (.long x2), .second, .val (.long y3), .second, .val (.long x4), .second, .val (.long x5), .second, .val (.ref a3), .val (.ref a5), .val (.int (1 : Int32)), .unset, .unset] []))
            refine own_go (fun t k => XS.goto X124.here hx rfl (pc0 := 103) (pc' := 137) rfl (hb hby at_103) (by decide) (by decide) k) ?_
            show own_G p e below s (own_Q0 n0) 16 128 (T124.setTop (mkF m 137 #[.val (.long x0), .second, .val (.long y2), .second, .val (.long x2), .second, .val (.long y3), .second, .val (.long x4), .second, .val (.long x5), .second, .val (.ref a3), .val (.ref a5), .val (.int (1 : Int32)), .unset, .unset] []))
            exact J137 _ (own_both_gt_b (own_eq2 h1 h2) h4)
          · skip
            refine own_go (fun t k => XS.ifYes X124.here hx rfl (pc0 := 97) (pc' := 106) rfl (hb hby at_97) rfl (XT.ll_le_t h4) (by decide) (by decide) k) ?_
            show own_G p e below s (own_Q0 n0) 16 128 (T124.setTop (mkF m 106 #[.val (.long x0), .second, .val (.long y2), .second, .val (.long x2), .second, .val (.long y3), .second, .val (.long x4), .second, .val (.long x5), .second, .val (.ref a3), .val (.ref a5), .unset, .unset, .unset] []))
            refine own_go (fun t k => XT.lload X124.here hx rfl (hb hby at_106) rfl k) ?_
            show own_G p e below s (own_Q0 n0) 16 128 (T124.setTop (mkF m 108 #[.val (.long x0), .second, .val (.long y2), .second, .val (.long x2), .second, .val (.long y3), .second, .val (.long x4), .second, .val (.long x5), .second, .val (.ref a3), .val (.ref a5), .unset, .unset, .unset] [(.long x4)]))
            refine own_go (fun t k => XT.lload X124.here hx rfl (hb hby at_108) rfl k) ?_
            show own_G p e below s (own_Q0 n0) 16 128 (T124.setTop (mkF m 110 #[.val (.long x0), .second, .val (.long y2), .second, .val (.long x2), .second, .val (.long y3), .second, .val (.long x4), .second, .val (.long x5), .second, .val (.ref a3), .val (.ref a5), .unset, .unset, .unset] [(.long x5), (.long x4)]))
            refine own_go (fun t k => XT.lcmp X124.here hx rfl (hb hby at_110) rfl k) ?_
            show own_G p e below s (own_Q0 n0) 16 128 (T124.setTop (mkF m 111 #[.val (.long x0), .second, .val (.long y2), .second, .val (.long x2), .second, .val (.long y3), .second, .val (.long x4), .second, .val (.long x5), .second, .val (.ref a3), .val (.ref a5), .unset, .unset, .unset] [(.int (XT.cmpL x4 x5))]))
            by_cases h5 : x4 < x5
            · skip
              refine own_go (fun t k => XS.ifNo X124.here hx rfl (hb hby at_111) rfl (XT.ll_ge_f h5) k) ?_
              show own_G p e below s (own_Q0 n0) 16 128 (T124.setTop (mkF m 114 #[.val (.long x0), .second, .val (.long y2), .second, .val (.long x2), .second, .val (.long y3), .second, .val (.long x4), .second, .val (.long x5), .second, .val (.ref a3), .val (.ref a5), .unset, .unset, .unset] []))
              refine own_go (fun t k => XS.iconst X124.here hx rfl (hb hby at_114) k) ?_
              show own_G p e below s (own_Q0 n0) 16 128 (T124.setTop (mkF m 115 #[.val (.long x0), .second, .val (.long y2), .second, .val (.long x2), .second, .val (.long y3), .second, .val (.long x4), .second, .val (.long x5), .second, .val (.ref a3), .val (.ref a5), .unset, .unset, .unset] [(.int (-1 : Int32))]))
              refine own_go (fun t k => XS.istore X124.here hx rfl (hb hby at_115) rfl (l' := #[.val (.long x0), .second, .val (.long y2), .second, .val (.long x2), .second, .val (.long y3), .second, .val (.long x4), .second, .val (.long x5), .second, .val (.ref a3), .val (.ref a5), .val (.int (-1 : Int32)), .unset, .unset]) rfl k) ?_
              show own_G p e below s (own_Q0 n0) 16 128 (T124.setTop (mkF m 117 #[.val (.long x0), .second, .val (.long y2), .second, .val (.long x2), .second, .val (.long y3), .second, .val (.long x4), .second, .val (.long x5), .second, .val (.ref a3), .val (.ref a5), .val (.int (-1 : Int32)), .unset, .unset] []))
              refine own_go (fun t k => XS.goto X124.here hx rfl (pc0 := 117) (pc' := 137) rfl (hb hby at_117) (by decide) (by decide) k) ?_
              show own_G p e below s (own_Q0 n0) 16 128 (T124.setTop (mkF m 137 #[.val (.long x0), .second, .val (.long y2), .second, .val (.long x2), .second, .val (.long y3), .second, .val (.long x4), .second, .val (.long x5), .second, .val (.ref a3), .val (.ref a5), .val (.int (-1 : Int32)), .unset, .unset] []))
              exact J137 _ (own_both_lt_c (own_eq2 h1 h2) (own_eq2 h3 h4) h5)
            · skip
              refine own_go (fun t k => XS.ifYes X124.here hx rfl (pc0 := 111) (pc' := 120) rfl (hb hby at_111) rfl (XT.ll_ge_t h5) (by decide) (by decide) k) ?_
              show own_G p e below s (own_Q0 n0) 16 128 (T124.setTop (mkF m 120 #[.val (.long x0), .second, .val (.long y2), .second, .val (.long x2), .second, .val (.long y3), .second, .val (.long x4), .second, .val (.long x5), .second, .val (.ref a3), .val (.ref a5), .unset, .unset, .unset] []))
              refine own_go (fun t k => XT.lload X124.here hx rfl (hb hby at_120) rfl k) ?_
              show own_G p e below s (own_Q0 n0) 16 128 (T124.setTop (mkF m 122 #[.val (.long x0), .second, .val (.long y2), .second, .val (.long x2), .second, .val (.long y3), .second, .val (.long x4), .second, .val (.long x5), .second, .val (.ref a3), .val (.ref a5), .unset, .unset, .unset] [(.long x4)]))
              refine own_go (fun t k => XT.lload X124.here hx rfl (hb hby at_122) rfl k) ?_
              show own_G p e below s (own_Q0 n0) 16 128 (T124.setTop (mkF m 124 #[.val (.long x0), .second, .val (.long y2), .second, .val (.long x2), .second, .val (.long y3), .second, .val (.long x4), .second, .val (.long x5), .second, .val (.ref a3), .val (.ref a5), .unset, .unset, .unset] [(.long x5), (.long x4)]))
              refine own_go (fun t k => XT.lcmp X124.here hx rfl (hb hby at_124) rfl k) ?_
              show own_G p e below s (own_Q0 n0) 16 128 (T124.setTop (mkF m 125 #[.val (.long x0), .second, .val (.long y2), .second, .val (.long x2), .second, .val (.long y3), .second, .val (.long x4), .second, .val (.long x5), .second, .val (.ref a3), .val (.ref a5), .unset, .unset, .unset] [(.int (XT.cmpL x4 x5))]))
              by_cases h6 : x5 < x4
              · skip
                refine own_go (fun t k => XS.ifNo X124.here hx rfl (hb hby at_125) rfl (XT.ll_le_f h6) k) ?_
                show own_G p e below s (own_Q0 n0) 16 128 (T124.setTop (mkF m 128 #[.val (.long x0), .second, .val (.long y2), .second, .val (.long x2), .second, .val (.long y3), .second, .val (.long x4), .second, .val (.long x5), .second, .val (.ref a3), .val (.ref a5), .unset, .unset, .unset] []))
                refine own_go (fun t k => XS.iconst X124.here hx rfl (hb hby at_128) k) ?_
                show own_G p e below s (own_Q0 n0) 16 128 (T124.setTop (mkF m 129 #[.val (.long x0), .second, .val (.long y2), .second, .val (.long x2), .second, .val (.long y3), .second, .val (.long x4), .second, .val (.long x5), .second, .val (.ref a3), .val (.ref a5), .unset, .unset, .unset] [(.int (1 : Int32))]))
                refine own_go (fun t k => XS.istore X124.here hx rfl (hb hby at_129) rfl (l' := #[.val (.long x0), .second, .val (.long y2), .second, .val (.long x2), .second, .val (.long y3), .second, .val (.long x4), .second, .val (.long x5), .second, .val (.ref a3), .val (.ref a5), .val (.int (1 : Int32)), .unset, .unset]) rfl k) ?_
                show own_G p e below s (own_Q0 n0) 16 128 (T124.setTop (mkF m 131 #[.val (.long x0), .second, .val (.long y2), .second, .val (.long x2), .second, .val (.long y3), .second, .val (.long x4), .second, .val (.long x5), .second, .val (.ref a3), .val (.ref a5), .val (.int (1 : Int32)), .unset, .unset] []))
                refine own_go (fun t k => XS.goto X124.here hx rfl (pc0 := 131) (pc' := 137) rfl (hb hby at_131) (by decide) (by decide) k) ?_
                show own_G p e below s (own_Q0 n0) 16 128 (T124.setTop (mkF m 137 #[.val (.long x0), .second, .val (.long y2), .second, .val (.long x2), .second, .val (.long y3), .second, .val (.long x4), .second, .val (.long x5), .second, .val (.ref a3), .val (.ref a5), .val (.int (1 : Int32)), .unset, .unset] []))
                exact J137 _ (own_both_gt_c (own_eq2 h1 h2) (own_eq2 h3 h4) h6)
              · skip
                refine own_go (fun t k => XS.ifYes X124.here hx rfl (pc0 := 125) (pc' := 134) rfl (hb hby at_125) rfl (XT.ll_le_t h6) (by decide) (by decide) k) ?_
                show own_G p e below s (own_Q0 n0) 16 128 (T124.setTop (mkF m 134 #[.val (.long x0), .second, .val (.long y2), .second, .val (.long x2), .second, .val (.long y3), .second, .val (.long x4), .second, .val (.long x5), .second, .val (.ref a3), .val (.ref a5), .unset, .unset, .unset] []))
                refine own_go (fun t k => XS.iconst X124.here hx rfl (hb hby at_134) k) ?_
                show own_G p e below s (own_Q0 n0) 16 128 (T124.setTop (mkF m 135 #[.val (.long x0), .second, .val (.long y2), .second, .val (.long x2), .second, .val (.long y3), .second, .val (.long x4), .second, .val (.long x5), .second, .val (.ref a3), .val (.ref a5), .unset, .unset, .unset] [(.int (0 : Int32))]))
                refine own_go (fun t k => XS.istore X124.here hx rfl (hb hby at_135) rfl (l' := #[.val (.long x0), .second, .val (.long y2), .second, .val (.long x2), .second, .val (.long y3), .second, .val (.long x4), .second, .val (.long x5), .second, .val (.ref a3), .val (.ref a5), .val (.int (0 : Int32)), .unset, .unset]) rfl k) ?_
                show own_G p e below s (own_Q0 n0) 16 128 (T124.setTop (mkF m 137 #[.val (.long x0), .second, .val (.long y2), .second, .val (.long x2), .second, .val (.long y3), .second, .val (.long x4), .second, .val (.long x5), .second, .val (.ref a3), .val (.ref a5), .val (.int (0 : Int32)), .unset, .unset] []))
                exact J137 _ (own_both_eq (own_eq2 h1 h2) (own_eq2 h3 h4) (own_eq2 h5 h6))
  have J11 : ∀ (y2 : Int64), own_G p e below s (own_Q0 n0) 16 128 (s₁.setTop (mkF m 11 #[.val (.long x0), .second, .val (.long y2), .second, .val (.long x2), .second, .val (.long x3), .second, .val (.long x4), .second, .val (.long x5), .second, .unset, .unset, .unset, .unset, .unset] [])) := by
    intro y2
    refine own_go (fun t k => XT.lload X0.here hx rfl (hb hby at_11) rfl k) ?_
    show own_G p e below s (own_Q0 n0) 16 128 (s₁.setTop (mkF m 13 #[.val (.long x0), .second, .val (.long y2), .second, .val (.long x2), .second, .val (.long x3), .second, .val (.long x4), .second, .val (.long x5), .second, .unset, .unset, .unset, .unset, .unset] [(.long x5)]))
    refine own_go (X0.ldc2Long hx hown (mvT hZ (hw _ (List.mem_of_getElem? (i := 0) rfl))) (g := (mkF m 13 #[.val (.long x0), .second, .val (.long y2), .second, .val (.long x2), .second, .val (.long x3), .second, .val (.long x4), .second, .val (.long x5), .second, .unset, .unset, .unset, .unset, .unset] [(.long x5)])) rfl (hb hby at_13)) ?_
    show own_G p e below s (own_Q0 n0) 16 128 (s₁.setTop (mkF m 16 #[.val (.long x0), .second, .val (.long y2), .second, .val (.long x2), .second, .val (.long x3), .second, .val (.long x4), .second, .val (.long x5), .second, .unset, .unset, .unset, .unset, .unset] [(.long (2 : Int64)), (.long x5)]))
    refine own_go (fun t k => XT.land X0.here hx rfl (hb hby at_16) rfl k) ?_
    show own_G p e below s (own_Q0 n0) 16 128 (s₁.setTop (mkF m 17 #[.val (.long x0), .second, .val (.long y2), .second, .val (.long x2), .second, .val (.long x3), .second, .val (.long x4), .second, .val (.long x5), .second, .unset, .unset, .unset, .unset, .unset] [(.long (x5 &&& (2 : Int64)))]))
    refine own_go (fun t k => XT.lconst X0.here hx rfl (hb hby at_17) k) ?_
    show own_G p e below s (own_Q0 n0) 16 128 (s₁.setTop (mkF m 18 #[.val (.long x0), .second, .val (.long y2), .second, .val (.long x2), .second, .val (.long x3), .second, .val (.long x4), .second, .val (.long x5), .second, .unset, .unset, .unset, .unset, .unset] [(.long (0 : Int64)), (.long (x5 &&& (2 : Int64)))]))
    refine own_go (fun t k => XT.lcmp X0.here hx rfl (hb hby at_18) rfl k) ?_
    show own_G p e below s (own_Q0 n0) 16 128 (s₁.setTop (mkF m 19 #[.val (.long x0), .second, .val (.long y2), .second, .val (.long x2), .second, .val (.long x3), .second, .val (.long x4), .second, .val (.long x5), .second, .unset, .unset, .unset, .unset, .unset] [(.int (XT.cmpL (x5 &&& (2 : Int64)) (0 : Int64)))]))
    by_cases h1 : (x5 &&& (2 : Int64)) = (0 : Int64)
    · skip
      refine own_go (fun t k => XS.ifYes X0.here hx rfl (pc0 := 19) (pc' := 26) rfl (hb hby at_19) rfl (XT.ll_eq_t h1) (by decide) (by decide) k) ?_
      show own_G p e below s (own_Q0 n0) 16 128 (s₁.setTop (mkF m 26 #[.val (.long x0), .second, .val (.long y2), .second, .val (.long x2), .second, .val (.long x3), .second, .val (.long x4), .second, .val (.long x5), .second, .unset, .unset, .unset, .unset, .unset] []))
      exact J26 _ _
    · skip
      refine own_go (fun t k => XS.ifNo X0.here hx rfl (hb hby at_19) rfl (XT.ll_eq_f h1) k) ?_
      show own_G p e below s (own_Q0 n0) 16 128 (s₁.setTop (mkF m 22 #[.val (.long x0), .second, .val (.long y2), .second, .val (.long x2), .second, .val (.long x3), .second, .val (.long x4), .second, .val (.long x5), .second, .unset, .unset, .unset, .unset, .unset] []))
      refine own_go (fun t k => XT.lload X0.here hx rfl (hb hby at_22) rfl k) ?_
      show own_G p e below s (own_Q0 n0) 16 128 (s₁.setTop (mkF m 24 #[.val (.long x0), .second, .val (.long y2), .second, .val (.long x2), .second, .val (.long x3), .second, .val (.long x4), .second, .val (.long x5), .second, .unset, .unset, .unset, .unset, .unset] [(.long x2)]))
      refine own_go (fun t k => XT.lstore X0.here hx rfl (hb hby at_24) rfl (l' := #[.val (.long x0), .second, .val (.long y2), .second, .val (.long x2), .second, .val (.long x2), .second, .val (.long x4), .second, .val (.long x5), .second, .unset, .unset, .unset, .unset, .unset]) rfl k) ?_
      show own_G p e below s (own_Q0 n0) 16 128 (s₁.setTop (mkF m 26 #[.val (.long x0), .second, .val (.long y2), .second, .val (.long x2), .second, .val (.long x2), .second, .val (.long x4), .second, .val (.long x5), .second, .unset, .unset, .unset, .unset, .unset] []))
      exact J26 _ _
  refine own_go (fun t k => XT.lload X0.here hx rfl (hb hby at_0) rfl k) ?_
  show own_G p e below s (own_Q0 n0) 16 128 (s₁.setTop (mkF m 2 #[.val (.long x0), .second, .val (.long x1), .second, .val (.long x2), .second, .val (.long x3), .second, .val (.long x4), .second, .val (.long x5), .second, .unset, .unset, .unset, .unset, .unset] [(.long x5)]))
  refine own_go (fun t k => XT.lconst X0.here hx rfl (hb hby at_2) k) ?_
  show own_G p e below s (own_Q0 n0) 16 128 (s₁.setTop (mkF m 3 #[.val (.long x0), .second, .val (.long x1), .second, .val (.long x2), .second, .val (.long x3), .second, .val (.long x4), .second, .val (.long x5), .second, .unset, .unset, .unset, .unset, .unset] [(.long (1 : Int64)), (.long x5)]))
  refine own_go (fun t k => XT.land X0.here hx rfl (hb hby at_3) rfl k) ?_
  show own_G p e below s (own_Q0 n0) 16 128 (s₁.setTop (mkF m 4 #[.val (.long x0), .second, .val (.long x1), .second, .val (.long x2), .second, .val (.long x3), .second, .val (.long x4), .second, .val (.long x5), .second, .unset, .unset, .unset, .unset, .unset] [(.long (x5 &&& (1 : Int64)))]))
  refine own_go (fun t k => XT.lconst X0.here hx rfl (hb hby at_4) k) ?_
  show own_G p e below s (own_Q0 n0) 16 128 (s₁.setTop (mkF m 5 #[.val (.long x0), .second, .val (.long x1), .second, .val (.long x2), .second, .val (.long x3), .second, .val (.long x4), .second, .val (.long x5), .second, .unset, .unset, .unset, .unset, .unset] [(.long (0 : Int64)), (.long (x5 &&& (1 : Int64)))]))
  refine own_go (fun t k => XT.lcmp X0.here hx rfl (hb hby at_5) rfl k) ?_
  show own_G p e below s (own_Q0 n0) 16 128 (s₁.setTop (mkF m 6 #[.val (.long x0), .second, .val (.long x1), .second, .val (.long x2), .second, .val (.long x3), .second, .val (.long x4), .second, .val (.long x5), .second, .unset, .unset, .unset, .unset, .unset] [(.int (XT.cmpL (x5 &&& (1 : Int64)) (0 : Int64)))]))
  by_cases h1 : (x5 &&& (1 : Int64)) = (0 : Int64)
  · skip
    refine own_go (fun t k => XS.ifYes X0.here hx rfl (pc0 := 6) (pc' := 11) rfl (hb hby at_6) rfl (XT.ll_eq_t h1) (by decide) (by decide) k) ?_
    show own_G p e below s (own_Q0 n0) 16 128 (s₁.setTop (mkF m 11 #[.val (.long x0), .second, .val (.long x1), .second, .val (.long x2), .second, .val (.long x3), .second, .val (.long x4), .second, .val (.long x5), .second, .unset, .unset, .unset, .unset, .unset] []))
    exact J11 _
  · skip
    refine own_go (fun t k => XS.ifNo X0.here hx rfl (hb hby at_6) rfl (XT.ll_eq_f h1) k) ?_
    show own_G p e below s (own_Q0 n0) 16 128 (s₁.setTop (mkF m 9 #[.val (.long x0), .second, .val (.long x1), .second, .val (.long x2), .second, .val (.long x3), .second, .val (.long x4), .second, .val (.long x5), .second, .unset, .unset, .unset, .unset, .unset] []))
    refine own_go (fun t k => XT.lloadN X0.here hx rfl (hb hby at_9) rfl k) ?_
    show own_G p e below s (own_Q0 n0) 16 128 (s₁.setTop (mkF m 10 #[.val (.long x0), .second, .val (.long x1), .second, .val (.long x2), .second, .val (.long x3), .second, .val (.long x4), .second, .val (.long x5), .second, .unset, .unset, .unset, .unset, .unset] [(.long x0)]))
    refine own_go (fun t k => XT.lstoreN X0.here hx rfl (hb hby at_10) rfl (l' := #[.val (.long x0), .second, .val (.long x0), .second, .val (.long x2), .second, .val (.long x3), .second, .val (.long x4), .second, .val (.long x5), .second, .unset, .unset, .unset, .unset, .unset]) rfl k) ?_
    show own_G p e below s (own_Q0 n0) 16 128 (s₁.setTop (mkF m 11 #[.val (.long x0), .second, .val (.long x0), .second, .val (.long x2), .second, .val (.long x3), .second, .val (.long x4), .second, .val (.long x5), .second, .unset, .unset, .unset, .unset, .unset] []))
    exact J11 _
set_option maxRecDepth 65536 in
set_option maxHeartbeats 40000000 in
theorem comes_1 {Post : Tables → Env → Array Value → State → Outcome → State → Prop} (hpost : ∀ tb e args s v u, (limb_1_1.after args s (.returned v) u = true ∧ limb_1_2.after args s (.returned v) u = true ∧ True) → FrameEnd s (.returned v) u (Jvm.fieldLocs frame_1_writes args s ++ Jvm.arrayLocs frame_1_arrays args s ++ Jvm.staticLocs frame_1_statics s) 16 128 → Post tb e args s (.returned v) u) :
    ArmFor flags0 classFile x code maxLocals ret World_1 tables_1 room_1 Calls_1 rest_1 Pre_1 Post := by
  intro l hfl _ _ p e ha hc hk s m args below hf hA hF happ hP
  obtain ⟨hcalls, hrest, hpre⟩ := hP
  obtain ⟨-, -, -, hnamed, -, -, -, hat⟩ := (Spec.applies_iff hf).mp happ
  obtain ⟨hg, hn⟩ := and_e (Cond.before_iff.mp (show (Jvm.Cond.and given_1 narrow_1).before args s = true from hpre))
  obtain ⟨h1, r0⟩ := and_e hg
  obtain ⟨k0, r1⟩ := and_e r0
  obtain ⟨k1, r2⟩ := and_e r1
  obtain ⟨k2, r3⟩ := and_e r2
  obtain ⟨k3, r4⟩ := and_e r3
  obtain ⟨k4, r5⟩ := and_e r4
  obtain ⟨w0, w1, w2, w3, w4, w5, rfl⟩ : ∃ w0 w1 w2 w3 w4 w5 : Value, args = #[w0, w1, w2, w3, w4, w5] := by
    have hs : args.size = 6 := by simpa [Cond.value, given_1] using h1
    obtain ⟨L⟩ := args
    match L, hs with
    | [w0, w1, w2, w3, w4, w5], _ => exact ⟨w0, w1, w2, w3, w4, w5, rfl⟩
  have hw := fun d (hd : d ∈ tables_1) => atoms_spec (ws := Jvm.Cond.code x code maxLocals ret :: tables_1) hat d (List.mem_cons_of_mem _ hd)
  obtain ⟨i0, e0⟩ := isL_v k0
  obtain rfl : w0 = (.long i0) := Option.some.inj e0
  obtain ⟨i1, e1⟩ := isL_v k1
  obtain rfl : w1 = (.long i1) := Option.some.inj e1
  obtain ⟨i2, e2⟩ := isL_v k2
  obtain rfl : w2 = (.long i2) := Option.some.inj e2
  obtain ⟨i3, e3⟩ := isL_v k3
  obtain rfl : w3 = (.long i3) := Option.some.inj e3
  obtain ⟨i4, e4⟩ := isL_v k4
  obtain rfl : w4 = (.long i4) := Option.some.inj e4
  obtain ⟨i5, e5⟩ := isL_v r5
  obtain rfl : w5 = (.long i5) := Option.some.inj e5
  obtain ⟨n, o, h1, h2, h3, _, L, rfl, ⟨rfl, N⟩, hq⟩ := rm0 l s _ hw tables_1 i0 i1 i2 i3 i4 i5 s.heap s.heap.size (Nat.le_refl _)  p e ha hc hk s m _ below hf ((Spec.applies_iff_loose hf).mp happ).1 ⟨rfl, State.Warmed39.refl s, rfl⟩ trivial
  refine ⟨n, _, h1, h2, h3, hpost _ _ _ _ _ _ ⟨Cond.after_iff.mpr rfl, Cond.after_iff.mpr (eq_i res_at (Term.int_eval (1)) rfl), trivial⟩ ⟨hq.1, hq.2.1, (hq.2.2.sift fun y hy => Or.inr (N y hy)).mono (by decide) (by decide)⟩⟩
theorem main_1_1 : Claimed_1_1 := comes_1 fun _ _ _ _ _ _ h hF => ⟨h.1, hF⟩
theorem main_1_2 : Claimed_1_2 := comes_1 fun _ _ _ _ _ _ h hF => ⟨h.2.1, hF⟩
end Jvm.Pilot.@@N@@
namespace Jvm.Pilot.@@N@@
open Jvm Jvm.ClassFile Sem Op Lib Jvm.Free Jvm.Stand Jvm.Pilot.@@N@@.Jvm.D
/-! MADE BY PROGRAM (witnessworld.py) out of the Statement's table words and the real class files: 16 classes; the members and pool entries that the words name. The judged class is class 1, her method 1. -/
namespace start1
open Jvm.ClassFile
def u (s : String) : CpInfo := .utf8 (stringToUtf16 s)
/-- a pool by its gaps: so many unusable entries, then the entry; so many at the end -/
def gap : Nat → List CpInfo → List CpInfo
  | 0, r => r
  | n + 1, r => .unusable :: gap n r
def poolList (es : List (Nat × CpInfo)) (last : Nat) : List CpInfo := es.foldr (fun e r => gap e.1 (e.2 :: r)) (gap last [])
def pool (es : List (Nat × CpInfo)) (last : Nat) : Array CpInfo := ⟨poolList es last⟩
def fileOf (pool : Array CpInfo) (this : Nat) (attrs : Array Attribute := #[]) (ms : Array MethodInfo := #[]) (fl : Nat := 33) (sup : Nat := 0) (ifs : Array Nat := #[]) (fds : Array FieldInfo := #[]) : ClassFile where
  minorVersion := 0
  majorVersion := 65
  constantPool := pool
  accessFlags := fl
  thisClass := this
  superClass := sup
  interfaces := ifs
  fields := fds
  methods := ms
  attributes := attrs
def plain (name : String) (sup : Option ClassId) : Class where
  name := name
  kind := .ordinary
  loader := none
  accessFlags := 33
  super := sup
  interfaces := #[]
  cf := none
  fields := #[]
  methods := #[]
  instanceTypes := #[]
  staticTypes := #[]
  resolved := #[]
  callSites := []
  init := .initialized
  statics := none
  mirror := none

def pool0 : Array CpInfo := pool [(5, u "<init>"), (0, u "()V"), (1, .class_ 10), (1, u "java/lang/Object")] 113

def k0c0 : Code := { maxStack := 0, maxLocals := 1, code := object_method_1_code, exceptionTable := #[], attributes := #[] }
def k0m0 : Method := { name := "<init>", desc := "()V", sig := { parameters := [], returnType := none }, accessFlags := 1, code := some k0c0 }
/-- java/lang/Object -/
def k0 : Class := { plain "java/lang/Object" none with
  accessFlags := 33
  interfaces := #[]
  cf := some (fileOf pool0 8 #[] #[{ accessFlags := 1, nameIndex := 5, descriptorIndex := 6, attributes := #[] }] 33 0 #[] #[])
  fields := #[]
  methods := #[k0m0]
  instanceTypes := #[]
  staticTypes := #[]
  resolved := Array.replicate 124 none
  statics := none }

def pool1 : Array CpInfo := pool [(2, .class_ 4), (1, u "java/lang/Object"), (0, u "<init>"), (0, u "()V"), (0, .long 2), (1, .class_ 10), (0, u "com/example/shiftloom/shiftloom/scoring/Score"), (0, .methodref 9 12), (0, .nameAndType 5 13), (0, u "(JJJ)V"), (0, .methodref 9 15), (0, .nameAndType 16 17), (0, u "compareTo"), (0, u "(Lcom/example/shiftloom/shiftloom/scoring/Score;)I"), (0, .methodref 19 20), (0, .class_ 21), (0, .nameAndType 22 23), (0, u "com/example/shiftloom/shiftloom/scoring/ScoreCompareToPinLaw"), (0, u "sign"), (0, u "(I)I"), (0, .methodref 25 26), (0, .class_ 27), (0, .nameAndType 28 29), (0, u "java/lang/Math"), (0, u "min"), (0, u "(II)I"), (0, .methodref 25 31), (0, .nameAndType 32 29), (0, u "max"), (2, u "law"), (0, u "(JJJJJJ)Z")] 3

def k1m0 : Method := { name := "<init>", desc := "()V", sig := { parameters := [], returnType := none }, accessFlags := 1, code := none }
def k1c1 : Code := { maxStack := 8, maxLocals := 17, code := code, exceptionTable := #[], attributes := #[] }
def k1m1 : Method := { name := "law", desc := "(JJJJJJ)Z", sig := { parameters := [.long, .long, .long, .long, .long, .long], returnType := some .boolean }, accessFlags := 9, code := some k1c1 }
def k1c2 : Code := { maxStack := 3, maxLocals := 1, code := method_3_code, exceptionTable := #[], attributes := #[] }
def k1m2 : Method := { name := "sign", desc := "(I)I", sig := { parameters := [.int], returnType := some .int }, accessFlags := 10, code := some k1c2 }
/-- com/example/shiftloom/shiftloom/scoring/ScoreCompareToPinLaw -/
def k1 : Class := { plain "com/example/shiftloom/shiftloom/scoring/ScoreCompareToPinLaw" (some 0) with
  accessFlags := 49
  interfaces := #[]
  cf := some (fileOf pool1 19 #[] #[{ accessFlags := 1, nameIndex := 5, descriptorIndex := 6, attributes := #[] }, { accessFlags := 9, nameIndex := 35, descriptorIndex := 36, attributes := #[] }, { accessFlags := 10, nameIndex := 22, descriptorIndex := 23, attributes := #[] }] 49 2 #[] #[])
  fields := #[]
  methods := #[k1m0, k1m1, k1m2]
  instanceTypes := #[]
  staticTypes := #[]
  resolved := Array.replicate 40 none
  statics := none }

def pool2 : Array CpInfo := pool [(1, .methodref 2 3), (0, .class_ 4), (0, .nameAndType 5 6), (0, u "java/lang/Object"), (0, u "<init>"), (0, u "()V"), (0, .class_ 8), (0, u "java/lang/Record")] 13

def k2c0 : Code := { maxStack := 1, maxLocals := 1, code := jdk_30_method_1_code, exceptionTable := #[], attributes := #[] }
def k2m0 : Method := { name := "<init>", desc := "()V", sig := { parameters := [], returnType := none }, accessFlags := 4, code := some k2c0 }
/-- java/lang/Record -/
def k2 : Class := { plain "java/lang/Record" (some 0) with
  accessFlags := 1057
  interfaces := #[]
  cf := some (fileOf pool2 7 #[] #[{ accessFlags := 4, nameIndex := 5, descriptorIndex := 6, attributes := #[] }] 1057 2 #[] #[])
  fields := #[]
  methods := #[k2m0]
  instanceTypes := #[]
  staticTypes := #[]
  resolved := Array.replicate 22 none
  statics := none }

def pool3 : Array CpInfo := pool [(1, .class_ 2), (0, u "java/lang/Comparable"), (0, .class_ 4), (0, u "java/lang/Object")] 7

/-- java/lang/Comparable -/
def k3 : Class := { plain "java/lang/Comparable" (some 0) with
  accessFlags := 1537
  interfaces := #[]
  cf := some (fileOf pool3 1 #[] #[] 1537 3 #[] #[])
  fields := #[]
  methods := #[]
  instanceTypes := #[]
  staticTypes := #[]
  resolved := Array.replicate 12 none
  statics := none }

def pool4 : Array CpInfo := pool [(1, .methodref 2 3), (0, .class_ 4), (0, .nameAndType 5 6), (0, u "java/lang/Record"), (0, u "<init>"), (0, u "()V"), (0, .fieldref 8 9), (0, .class_ 10), (0, .nameAndType 11 12), (0, u "com/example/shiftloom/shiftloom/scoring/Score"), (0, u "hard"), (0, u "J"), (0, .fieldref 8 14), (0, .nameAndType 15 12), (0, u "medium"), (0, .fieldref 8 17), (0, .nameAndType 18 12), (0, u "soft"), (2, u "(JJJ)V"), (2, u "compareTo"), (0, u "(Lcom/example/shiftloom/shiftloom/scoring/Score;)I"), (0, .methodref 27 28), (0, .class_ 29), (0, .nameAndType 30 31), (0, u "java/lang/Long"), (0, u "compare"), (0, u "(JJ)I"), (13, u "ZERO"), (0, u "Lcom/example/shiftloom/shiftloom/scoring/Score;"), (0, .class_ 48), (0, u "java/lang/Comparable")] 52

def k4c0 : Code := { maxStack := 3, maxLocals := 7, code := prog_62_method_1_code, exceptionTable := #[], attributes := #[] }
def k4m0 : Method := { name := "<init>", desc := "(JJJ)V", sig := { parameters := [.long, .long, .long], returnType := none }, accessFlags := 1, code := some k4c0 }
def k4c1 : Code := { maxStack := 4, maxLocals := 2, code := prog_62_method_8_code, exceptionTable := #[], attributes := #[] }
def k4m1 : Method := { name := "compareTo", desc := "(Lcom/example/shiftloom/shiftloom/scoring/Score;)I", sig := { parameters := [(.object "com/example/shiftloom/shiftloom/scoring/Score")], returnType := some .int }, accessFlags := 1, code := some k4c1 }
/-- com/example/shiftloom/shiftloom/scoring/Score -/
def k4 : Class := { plain "com/example/shiftloom/shiftloom/scoring/Score" (some 2) with
  accessFlags := 49
  interfaces := #[3]
  cf := some (fileOf pool4 8 #[] #[{ accessFlags := 1, nameIndex := 5, descriptorIndex := 21, attributes := #[] }, { accessFlags := 1, nameIndex := 24, descriptorIndex := 25, attributes := #[] }] 49 2 #[47] #[{ accessFlags := 18, nameIndex := 11, descriptorIndex := 12, attributes := #[] }, { accessFlags := 18, nameIndex := 15, descriptorIndex := 12, attributes := #[] }, { accessFlags := 18, nameIndex := 18, descriptorIndex := 12, attributes := #[] }, { accessFlags := 25, nameIndex := 45, descriptorIndex := 46, attributes := #[] }])
  fields := #[{ name := "hard", type := .long, accessFlags := 18, slot := 0, constantValue := 0 }, { name := "medium", type := .long, accessFlags := 18, slot := 1, constantValue := 0 }, { name := "soft", type := .long, accessFlags := 18, slot := 2, constantValue := 0 }, { name := "ZERO", type := (.object "com/example/shiftloom/shiftloom/scoring/Score"), accessFlags := 25, slot := 0, constantValue := 0 }]
  methods := #[k4m0, k4m1]
  instanceTypes := #[.long, .long, .long]
  staticTypes := #[(.object "com/example/shiftloom/shiftloom/scoring/Score")]
  resolved := Array.replicate 101 none
  statics := none }

def pool5 : Array CpInfo := pool [(1, .class_ 2), (0, u "java/io/Serializable"), (0, .class_ 4), (0, u "java/lang/Object")] 2

/-- java/io/Serializable -/
def k5 : Class := { plain "java/io/Serializable" (some 0) with
  accessFlags := 1537
  interfaces := #[]
  cf := some (fileOf pool5 1 #[] #[] 1537 3 #[] #[])
  fields := #[]
  methods := #[]
  instanceTypes := #[]
  staticTypes := #[]
  resolved := Array.replicate 7 none
  statics := none }

def pool6 : Array CpInfo := pool [(2, .class_ 4), (1, u "java/lang/Object"), (0, u "<init>"), (0, u "()V"), (1, .class_ 10), (1, u "java/lang/Number"), (2, .class_ 14), (0, u "java/io/Serializable"), (0, u "serialVersionUID"), (0, u "J")] 20

def k6m0 : Method := { name := "<init>", desc := "()V", sig := { parameters := [], returnType := none }, accessFlags := 1, code := none }
/-- java/lang/Number -/
def k6 : Class := { plain "java/lang/Number" (some 0) with
  accessFlags := 1057
  interfaces := #[5]
  cf := some (fileOf pool6 8 #[] #[{ accessFlags := 1, nameIndex := 5, descriptorIndex := 6, attributes := #[] }] 1057 2 #[13] #[{ accessFlags := 26, nameIndex := 15, descriptorIndex := 16, attributes := #[] }])
  fields := #[{ name := "serialVersionUID", type := .long, accessFlags := 26, slot := 0, constantValue := 0 }]
  methods := #[k6m0]
  instanceTypes := #[]
  staticTypes := #[.long]
  resolved := Array.replicate 37 none
  statics := none }

def pool7 : Array CpInfo := pool [(1, .class_ 2), (0, u "java/lang/constant/Constable"), (0, .class_ 4), (0, u "java/lang/Object")] 6

/-- java/lang/constant/Constable -/
def k7 : Class := { plain "java/lang/constant/Constable" (some 0) with
  accessFlags := 1537
  interfaces := #[]
  cf := some (fileOf pool7 1 #[] #[] 1537 3 #[] #[])
  fields := #[]
  methods := #[]
  instanceTypes := #[]
  staticTypes := #[]
  resolved := Array.replicate 11 none
  statics := none }

def pool8 : Array CpInfo := pool [(1, .class_ 2), (0, u "java/lang/constant/ConstantDesc"), (0, .class_ 4), (0, u "java/lang/Object")] 32

/-- java/lang/constant/ConstantDesc -/
def k8 : Class := { plain "java/lang/constant/ConstantDesc" (some 0) with
  accessFlags := 1537
  interfaces := #[]
  cf := some (fileOf pool8 1 #[] #[] 1537 3 #[] #[])
  fields := #[]
  methods := #[]
  instanceTypes := #[]
  staticTypes := #[]
  resolved := Array.replicate 37 none
  statics := none }

def pool9 : Array CpInfo := pool [(1, .class_ 2), (0, u "java/lang/Long"), (232, .class_ 237), (1, u "java/lang/Long$LongCache"), (33, .class_ 272), (0, u "java/lang/Number"), (2, u "value"), (0, u "J"), (27, u "compare"), (0, u "(JJ)I"), (55, u "TYPE"), (0, u "Ljava/lang/Class;"), (0, .class_ 364), (0, u "java/lang/Comparable"), (0, .class_ 366), (0, u "java/lang/constant/Constable"), (0, .class_ 368), (0, u "java/lang/constant/ConstantDesc"), (0, u "MIN_VALUE"), (1, u "MAX_VALUE"), (4, u "SIZE"), (0, u "I"), (1, u "BYTES"), (1, u "serialVersionUID")] 142

def k9c0 : Code := { maxStack := 4, maxLocals := 4, code := jdk_35_method_42_code, exceptionTable := #[], attributes := #[] }
def k9m0 : Method := { name := "compare", desc := "(JJ)I", sig := { parameters := [.long, .long], returnType := some .int }, accessFlags := 9, code := some k9c0 }
/-- java/lang/Long -/
def k9 : Class := { plain "java/lang/Long" (some 6) with
  accessFlags := 49
  interfaces := #[3, 7, 8]
  cf := some (fileOf pool9 1 #[.nestMembers #[235]] #[{ accessFlags := 9, nameIndex := 304, descriptorIndex := 305, attributes := #[] }] 49 271 #[363, 365, 367] #[{ accessFlags := 25, nameIndex := 369, descriptorIndex := 276, attributes := #[] }, { accessFlags := 25, nameIndex := 371, descriptorIndex := 276, attributes := #[] }, { accessFlags := 25, nameIndex := 361, descriptorIndex := 362, attributes := #[] }, { accessFlags := 18, nameIndex := 275, descriptorIndex := 276, attributes := #[] }, { accessFlags := 25, nameIndex := 376, descriptorIndex := 377, attributes := #[] }, { accessFlags := 25, nameIndex := 379, descriptorIndex := 377, attributes := #[] }, { accessFlags := 26, nameIndex := 381, descriptorIndex := 276, attributes := #[] }])
  fields := #[{ name := "MIN_VALUE", type := .long, accessFlags := 25, slot := 0, constantValue := 0 }, { name := "MAX_VALUE", type := .long, accessFlags := 25, slot := 1, constantValue := 0 }, { name := "TYPE", type := (.object "java/lang/Class"), accessFlags := 25, slot := 2, constantValue := 0 }, { name := "value", type := .long, accessFlags := 18, slot := 0, constantValue := 0 }, { name := "SIZE", type := .int, accessFlags := 25, slot := 3, constantValue := 0 }, { name := "BYTES", type := .int, accessFlags := 25, slot := 4, constantValue := 0 }, { name := "serialVersionUID", type := .long, accessFlags := 26, slot := 5, constantValue := 0 }]
  methods := #[k9m0]
  instanceTypes := #[.long]
  staticTypes := #[.long, .long, (.object "java/lang/Class"), .int, .int, .long]
  resolved := Array.replicate 524 none
  statics := none }

def pool10 : Array CpInfo := pool [(1, .class_ 2), (0, u "java/lang/Math"), (1, .class_ 6), (1, u "java/lang/Object"), (0, u "<init>"), (0, u "()V"), (89, .class_ 100), (1, u "java/lang/Math$RandomNumberGeneratorHolder"), (71, u "negativeZeroFloatBits"), (0, u "J"), (2, u "negativeZeroDoubleBits"), (21, u "max"), (2, u "min"), (43, u "$assertionsDisabled"), (0, u "Z"), (88, u "(II)I"), (2, u "twoToTheDoubleScaleDown"), (0, u "D"), (4, u "twoToTheDoubleScaleUp"), (9, u "E"), (3, u "PI"), (2, u "TAU"), (2, u "DEGREES_TO_RADIANS"), (0, u "RADIANS_TO_DEGREES")] 94

def k10m0 : Method := { name := "<init>", desc := "()V", sig := { parameters := [], returnType := none }, accessFlags := 2, code := none }
def k10c1 : Code := { maxStack := 2, maxLocals := 2, code := jdk_29_method_65_code, exceptionTable := #[], attributes := #[] }
def k10m1 : Method := { name := "max", desc := "(II)I", sig := { parameters := [.int, .int], returnType := some .int }, accessFlags := 9, code := some k10c1 }
def k10c2 : Code := { maxStack := 2, maxLocals := 2, code := jdk_29_method_69_code, exceptionTable := #[], attributes := #[] }
def k10m2 : Method := { name := "min", desc := "(II)I", sig := { parameters := [.int, .int], returnType := some .int }, accessFlags := 9, code := some k10c2 }
/-- java/lang/Math -/
def k10 : Class := { plain "java/lang/Math" (some 0) with
  accessFlags := 49
  interfaces := #[]
  cf := some (fileOf pool10 1 #[.nestMembers #[98]] #[{ accessFlags := 2, nameIndex := 7, descriptorIndex := 8, attributes := #[] }, { accessFlags := 9, nameIndex := 198, descriptorIndex := 335, attributes := #[] }, { accessFlags := 9, nameIndex := 201, descriptorIndex := 335, attributes := #[] }] 49 4 #[] #[{ accessFlags := 25, nameIndex := 354, descriptorIndex := 339, attributes := #[] }, { accessFlags := 25, nameIndex := 358, descriptorIndex := 339, attributes := #[] }, { accessFlags := 25, nameIndex := 361, descriptorIndex := 339, attributes := #[] }, { accessFlags := 26, nameIndex := 364, descriptorIndex := 339, attributes := #[] }, { accessFlags := 26, nameIndex := 365, descriptorIndex := 339, attributes := #[] }, { accessFlags := 26, nameIndex := 172, descriptorIndex := 173, attributes := #[] }, { accessFlags := 26, nameIndex := 176, descriptorIndex := 173, attributes := #[] }, { accessFlags := 8, nameIndex := 344, descriptorIndex := 339, attributes := #[] }, { accessFlags := 8, nameIndex := 338, descriptorIndex := 339, attributes := #[] }, { accessFlags := 4120, nameIndex := 245, descriptorIndex := 246, attributes := #[] }])
  fields := #[{ name := "E", type := .double, accessFlags := 25, slot := 0, constantValue := 0 }, { name := "PI", type := .double, accessFlags := 25, slot := 1, constantValue := 0 }, { name := "TAU", type := .double, accessFlags := 25, slot := 2, constantValue := 0 }, { name := "DEGREES_TO_RADIANS", type := .double, accessFlags := 26, slot := 3, constantValue := 0 }, { name := "RADIANS_TO_DEGREES", type := .double, accessFlags := 26, slot := 4, constantValue := 0 }, { name := "negativeZeroFloatBits", type := .long, accessFlags := 26, slot := 5, constantValue := 0 }, { name := "negativeZeroDoubleBits", type := .long, accessFlags := 26, slot := 6, constantValue := 0 }, { name := "twoToTheDoubleScaleUp", type := .double, accessFlags := 8, slot := 7, constantValue := 0 }, { name := "twoToTheDoubleScaleDown", type := .double, accessFlags := 8, slot := 8, constantValue := 0 }, { name := "$assertionsDisabled", type := .boolean, accessFlags := 4120, slot := 9, constantValue := 0 }]
  methods := #[k10m0, k10m1, k10m2]
  instanceTypes := #[]
  staticTypes := #[.double, .double, .double, .double, .double, .long, .long, .double, .double, .boolean]
  resolved := Array.replicate 460 none
  statics := none }

def pool11 : Array CpInfo := pool [(1, u "java/lang/Cloneable"), (0, .class_ 1), (0, u "java/lang/Object"), (0, .class_ 3)] 3

/-- java/lang/Cloneable -/
def k11 : Class := { plain "java/lang/Cloneable" (some 0) with
  accessFlags := 1537
  interfaces := #[]
  cf := some (fileOf pool11 2 #[] #[] 1537 4 #[] #[])
  fields := #[]
  methods := #[]
  instanceTypes := #[]
  staticTypes := #[]
  resolved := Array.replicate 8 none
  statics := none }

/-- the primitive byte -/
def k12 : Class := { plain "byte" none with kind := .primitive 'B', accessFlags := 0x411 }
/-- [B -/
def k13 : Class := { plain "[B" (some 0) with kind := .array 12 .byte, interfaces := #[11, 5], accessFlags := 1041 }

/-- the primitive int -/
def k14 : Class := { plain "int" none with kind := .primitive 'I', accessFlags := 0x411 }
/-- [I -/
def k15 : Class := { plain "[I" (some 0) with kind := .array 14 .int, interfaces := #[11, 5], accessFlags := 1041 }

def heap : Heap := #[]
def classes : Array Class := #[k0, k1, k2, k3, k4, k5, k6, k7, k8, k9, k10, k11, k12, k13, k14, k15]
def interned : List (Array UInt16 × Addr) := []
def slotsUsed : Nat := 0
def theMethod : MethodId := ⟨1, 1⟩
def args0 : Array Value := #[.long 5, .long 3, .long 4, .long 7, .long 9, .long 1]
def aboutOver (below : List Frame) : State where
  vm := { classes := classes, interned := interned.toArray }
  heap := heap
  slotsUsed := slotsUsed
  threads := #[{ frames := .invoking theMethod args0 :: below }]
def below0 : List Frame := [.native { method := ⟨0, 0⟩, args := #[] }]
def about1 : State := aboutOver below0
def p0 : Program := .bare "" "" ""
def e0 : Env := launch0.env 0 0 0
theorem w_frames : about1.frames = Frame.invoking theMethod args0 :: below0 := rfl
set_option maxRecDepth 65536 in
theorem w_args : argsFit about1.vm theMethod args0 = true := by decide +kernel
set_option maxRecDepth 65536 in
theorem w_heap : heapFits about1 = true := by decide +kernel
set_option maxRecDepth 65536 in
theorem w_runnable : about1.curStatus? = some .runnable := by decide +kernel
set_option maxRecDepth 65536 in
theorem w_alone : about1.alone = true := by decide +kernel
set_option maxRecDepth 65536 in
theorem w_named : about1.methodNamed? x = some theMethod := by decide +kernel
set_option maxRecDepth 65536 in
theorem w_hears : about1.hears theMethod below0 = true := by decide +kernel
set_option maxRecDepth 65536 in
theorem w_ripe : about1.ripe theMethod args0 below0 = true := by decide +kernel
theorem w_running : about1.status = .running := rfl
set_option maxRecDepth 65536 in
theorem w_room : about1.hasRoom e0.platform room_1 = true :=
  launch0.hasRoom_least _ room_1 (by decide +kernel) (by decide +kernel) (by decide +kernel) (by decide +kernel) (by decide +kernel) (by decide +kernel)
theorem allAtoms_all (ts : List Jvm.Cond) (a : Array Jvm.Value) (st : Jvm.State) : (allAtoms ts).before a st = ts.all (fun c => c.before a st) := by
  induction ts with
  | nil => rfl
  | cons c t ih =>
    show (Jvm.Cond.and c (allAtoms t)).before a st = _
    rw [Jvm.Cond.before_and, ih, List.all_cons]
def words1 : List Jvm.Cond := Jvm.Cond.code x code maxLocals ret :: tables_1
/-- a 'code' word, met by the world's own term for the bytes: nothing is compared byte by byte -/
theorem code_word {y : MethodName} {bytes : ByteArray} {mx : Nat} {rt : Option FieldType} {a : Array Value} {s : State} {m : MethodId} {meth : Method} {c : Code} (h1 : s.methodNamed? y = some m) (h2 : s.vm.method? m = some meth) (h3 : meth.code = some c) (h4 : c.code = bytes)
    (h5 : (c.maxLocals == mx && c.exceptionTable.isEmpty && decide (c.maxStack ≤ mostOperands) && decide (meth.sig.returnType = rt) && !meth.locks && decide (parseMethodDescriptor y.desc = some meth.sig)) = true) : (Jvm.Cond.code y bytes mx rt).before a s = true := by
  simp only [Bool.and_eq_true, beq_iff_eq, Bool.not_eq_true', decide_eq_true_eq] at h5
  obtain ⟨⟨⟨⟨⟨g1, g2⟩, g3⟩, g4⟩, g5⟩, g6⟩ := h5
  simp [Cond.before, Cond.holds, Cond.value, h1, h2, h3, h4, g1, g2, g3, g4, g5, g6]
def isCode : Jvm.Cond → Bool
  | .code _ _ _ _ => true
  | _ => false
theorem all_split {L : List Jvm.Cond} {P : Jvm.Cond → Bool} (h1 : L.all (fun c => isCode c || P c) = true) (h2 : ∀ c ∈ L.filter isCode, P c = true) : L.all P = true := by
  refine List.all_eq_true.mpr fun c hc => ?_
  have h := List.all_eq_true.mp h1 c hc
  rcases Bool.eq_false_or_eq_true (isCode c) with hi | hi
  · exact h2 c (List.mem_filter.mpr ⟨hc, hi⟩)
  · simpa [hi] using h
set_option maxRecDepth 65536 in
theorem w_c0 : (Jvm.Cond.code x code maxLocals ret).before args0 about1 = true := code_word (m := ⟨1, 1⟩) (meth := k1m1) (c := k1c1) (by decide +kernel) rfl rfl rfl (by decide +kernel)
set_option maxRecDepth 65536 in
theorem w_c1 : (Jvm.Cond.code ({ cls := "com/example/shiftloom/shiftloom/scoring/Score", name := "<init>", desc := "(JJJ)V" } : Jvm.MethodName) prog_62_method_1_code (7 : Nat) (Option.none : Option Jvm.ClassFile.FieldType)).before args0 about1 = true := code_word (m := ⟨4, 0⟩) (meth := k4m0) (c := k4c0) (by decide +kernel) rfl rfl rfl (by decide +kernel)
set_option maxRecDepth 65536 in
theorem w_c2 : (Jvm.Cond.code ({ cls := "java/lang/Record", name := "<init>", desc := "()V" } : Jvm.MethodName) jdk_30_method_1_code (1 : Nat) (Option.none : Option Jvm.ClassFile.FieldType)).before args0 about1 = true := code_word (m := ⟨2, 0⟩) (meth := k2m0) (c := k2c0) (by decide +kernel) rfl rfl rfl (by decide +kernel)
set_option maxRecDepth 65536 in
theorem w_c3 : (Jvm.Cond.code ({ cls := "java/lang/Object", name := "<init>", desc := "()V" } : Jvm.MethodName) object_method_1_code (1 : Nat) (Option.none : Option Jvm.ClassFile.FieldType)).before args0 about1 = true := code_word (m := ⟨0, 0⟩) (meth := k0m0) (c := k0c0) (by decide +kernel) rfl rfl rfl (by decide +kernel)
set_option maxRecDepth 65536 in
theorem w_c4 : (Jvm.Cond.code ({ cls := "com/example/shiftloom/shiftloom/scoring/Score", name := "compareTo", desc := "(Lcom/example/shiftloom/shiftloom/scoring/Score;)I" } : Jvm.MethodName) prog_62_method_8_code (2 : Nat) (Option.some Jvm.ClassFile.FieldType.int)).before args0 about1 = true := code_word (m := ⟨4, 1⟩) (meth := k4m1) (c := k4c1) (by decide +kernel) rfl rfl rfl (by decide +kernel)
set_option maxRecDepth 65536 in
theorem w_c5 : (Jvm.Cond.code ({ cls := "java/lang/Long", name := "compare", desc := "(JJ)I" } : Jvm.MethodName) jdk_35_method_42_code (4 : Nat) (Option.some Jvm.ClassFile.FieldType.int)).before args0 about1 = true := code_word (m := ⟨9, 0⟩) (meth := k9m0) (c := k9c0) (by decide +kernel) rfl rfl rfl (by decide +kernel)
set_option maxRecDepth 65536 in
theorem w_c6 : (Jvm.Cond.code ({ cls := "com/example/shiftloom/shiftloom/scoring/ScoreCompareToPinLaw", name := "sign", desc := "(I)I" } : Jvm.MethodName) method_3_code (1 : Nat) (Option.some Jvm.ClassFile.FieldType.int)).before args0 about1 = true := code_word (m := ⟨1, 2⟩) (meth := k1m2) (c := k1c2) (by decide +kernel) rfl rfl rfl (by decide +kernel)
set_option maxRecDepth 65536 in
theorem w_c7 : (Jvm.Cond.code ({ cls := "java/lang/Math", name := "min", desc := "(II)I" } : Jvm.MethodName) jdk_29_method_69_code (2 : Nat) (Option.some Jvm.ClassFile.FieldType.int)).before args0 about1 = true := code_word (m := ⟨10, 2⟩) (meth := k10m2) (c := k10c2) (by decide +kernel) rfl rfl rfl (by decide +kernel)
set_option maxRecDepth 65536 in
theorem w_c8 : (Jvm.Cond.code ({ cls := "java/lang/Math", name := "max", desc := "(II)I" } : Jvm.MethodName) jdk_29_method_65_code (2 : Nat) (Option.some Jvm.ClassFile.FieldType.int)).before args0 about1 = true := code_word (m := ⟨10, 1⟩) (meth := k10m1) (c := k10c1) (by decide +kernel) rfl rfl rfl (by decide +kernel)
def codes1 : List Jvm.Cond := [Jvm.Cond.code x code maxLocals ret, Jvm.Cond.code ({ cls := "com/example/shiftloom/shiftloom/scoring/Score", name := "<init>", desc := "(JJJ)V" } : Jvm.MethodName) prog_62_method_1_code (7 : Nat) (Option.none : Option Jvm.ClassFile.FieldType), Jvm.Cond.code ({ cls := "java/lang/Record", name := "<init>", desc := "()V" } : Jvm.MethodName) jdk_30_method_1_code (1 : Nat) (Option.none : Option Jvm.ClassFile.FieldType), Jvm.Cond.code ({ cls := "java/lang/Object", name := "<init>", desc := "()V" } : Jvm.MethodName) object_method_1_code (1 : Nat) (Option.none : Option Jvm.ClassFile.FieldType), Jvm.Cond.code ({ cls := "com/example/shiftloom/shiftloom/scoring/Score", name := "compareTo", desc := "(Lcom/example/shiftloom/shiftloom/scoring/Score;)I" } : Jvm.MethodName) prog_62_method_8_code (2 : Nat) (Option.some Jvm.ClassFile.FieldType.int), Jvm.Cond.code ({ cls := "java/lang/Long", name := "compare", desc := "(JJ)I" } : Jvm.MethodName) jdk_35_method_42_code (4 : Nat) (Option.some Jvm.ClassFile.FieldType.int), Jvm.Cond.code ({ cls := "com/example/shiftloom/shiftloom/scoring/ScoreCompareToPinLaw", name := "sign", desc := "(I)I" } : Jvm.MethodName) method_3_code (1 : Nat) (Option.some Jvm.ClassFile.FieldType.int), Jvm.Cond.code ({ cls := "java/lang/Math", name := "min", desc := "(II)I" } : Jvm.MethodName) jdk_29_method_69_code (2 : Nat) (Option.some Jvm.ClassFile.FieldType.int), Jvm.Cond.code ({ cls := "java/lang/Math", name := "max", desc := "(II)I" } : Jvm.MethodName) jdk_29_method_65_code (2 : Nat) (Option.some Jvm.ClassFile.FieldType.int)]
set_option maxRecDepth 65536 in
theorem codes_eq : words1.filter isCode = codes1 := rfl
theorem w_codes : ∀ c ∈ words1.filter isCode, c.before args0 about1 = true := by
  rw [codes_eq]
  intro c hc
  simp only [codes1, List.mem_cons, List.not_mem_nil, or_false] at hc
  rcases hc with rfl | rfl | rfl | rfl | rfl | rfl | rfl | rfl | rfl
  · exact w_c0
  · exact w_c1
  · exact w_c2
  · exact w_c3
  · exact w_c4
  · exact w_c5
  · exact w_c6
  · exact w_c7
  · exact w_c8
set_option maxRecDepth 65536 in
theorem w_t1 : (words1.take 24).all (fun c => isCode c || c.before args0 about1) = true := by decide +kernel
set_option maxRecDepth 65536 in
theorem w_t2 : (words1.drop 24).all (fun c => isCode c || c.before args0 about1) = true := by decide +kernel
theorem w_tables : (allAtoms (Jvm.Cond.code x code maxLocals ret :: tables_1)).before args0 about1 = true := by
  rw [allAtoms_all]
  show words1.all (fun c => c.before args0 about1) = true
  refine all_split ?_ w_codes
  rw [← List.take_append_drop 24 words1, List.all_append, w_t1, w_t2]
  rfl
set_option maxRecDepth 65536 in
theorem w_case : (Jvm.Cond.and given_1 narrow_1).before args0 about1 = true := by decide +kernel
theorem w_applies : (headSpec (Jvm.Cond.code x code maxLocals ret :: tables_1) room_1).applies x e0.platform about1 = true :=
  (Spec.applies_iff w_frames).mpr ⟨w_running, w_runnable, w_alone, w_named, w_hears, w_ripe, w_room, w_tables⟩
theorem atStart : AtStart classFile x code maxLocals ret World_1 tables_1 room_1 Calls_1 rest_1 Pre_1 launch0 p0 e0 about1 theMethod args0 below0 :=
  ⟨lists_1, trivial, launch0.admits_env _ _ _, launch0.least_env, fairChoices_fair.cas, fairChoices_fair.clock, w_frames, w_args, w_heap, w_applies, trivial, trivial, w_case⟩
end start1
theorem witness_1 : WitnessClaimed_1 := ⟨start1.p0, start1.e0, start1.about1, start1.theMethod, start1.args0, start1.below0, start1.atStart⟩
end Jvm.Pilot.@@N@@
