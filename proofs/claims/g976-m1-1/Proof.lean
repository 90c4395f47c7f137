import JvmDerived
import JvmDerived.Pilot.@@N@@Statement
import JvmDerived.Pilot.@@N@@Code
set_option linter.unusedVariables false
set_option linter.unusedSimpArgs false
namespace Jvm.RoadKit
open Sem ClassFile Op Lib Jvm.Stand Jvm.Free Jvm.LawKit
section New
variable {p : Program} {l : Launch} {e : Env} {R : Room} {s : State} {m : MethodId} {args : Array Value} {below : List Frame} {meth : Method} {c : Code} {T : State} {locs : List Loc} {cells slots : Nat}
theorem retI (X : Stand p l e R s m args below meth c T locs cells slots) (hx : p.tables.exec = Jvm.exec) {pc : Nat} {Ls : Array Slot} {z : Int32} {rest : List Value} (hret : meth.sig.returnType = some .int) (hd : decode c.code pc = .ok (.ireturn, 1)) {fs : List Frame}
    (hl : ∀ (f : JFrame) (acts : List Action), f.method = m → f.locked = none → f.entered = [] → (doReturn e (T.setTop f) acts (some (.int z))).1 = T.setFrames fs) : Steps p.tables e below (T.setTop (mkF m pc Ls (.int z :: rest))) (T.setFrames fs) := by
  have hm' : T.vm.method? m = some meth := X.method'
  have hn : narrow .int (.int z) = .int z := rfl
  show Steps p.tables e below (T.setTop { method := m, pc := pc, locals := Ls, stack := _ :: rest, locked := none }) _
  jvm_step X.here [X.here.top, hx, hd, hm', hret, hn]
  first | (intro acts; rw [hl _ acts rfl rfl rfl]) | rw [hl _ _ rfl rfl rfl]
  exact Steps.refl _
end New
end Jvm.RoadKit
namespace Jvm.Pilot.@@N@@
open Jvm Jvm.ClassFile Sem Op Lib Jvm.Free Jvm.Stand Jvm.LawKit Jvm.RoadKit Bundle Jvm.Pilot.@@N@@.Jvm.D
/-- what a walk that stands at A still owes -/
def own_G (p : Program) (e : Env) (below : List Frame) (s : State) (Q : Option Value → Heap → List Loc → Prop) (rc rs : Nat) (A : State) : Prop :=
  ∃ s₂ o, Steps p.tables e below A s₂ ∧ s₂.status = .running ∧ Ended s₂ below o ∧ ∃ v L, o = .returned v ∧ Q v s₂.heap L ∧ FrameEnd s o s₂ L rc rs
theorem own_go {p : Program} {e : Env} {below : List Frame} {s : State} {Q : Option Value → Heap → List Loc → Prop} {rc rs : Nat} {A B : State} (st : ∀ t, Steps p.tables e below B t → Steps p.tables e below A t) (k : own_G p e below s Q rc rs B) : own_G p e below s Q rc rs A := by
  obtain ⟨s₂, o, h, r⟩ := k
  exact ⟨s₂, o, st _ h, r⟩
theorem own_leave {p : Program} {l : Launch} {e : Env} {R : Room} {s : State} {m : MethodId} {args : Array Value} {below : List Frame} {meth : Method} {c : Code} {T : State} {locs : List Loc} {cells slots : Nat} {Q : Option Value → Heap → List Loc → Prop} {rc rs : Nat} {g : JFrame} (X : Stand p l e R s m args below meth c T locs cells slots) (v : Option Value) (hv : meth.sig.returnType = none → v = none) (hlk : meth.locks = false)
    (st : ∀ fs, (∀ (f : JFrame) (acts : List Action), f.method = m → f.locked = none → f.entered = [] → (doReturn e (T.setTop f) acts v).1 = T.setFrames fs) → Steps p.tables e below (T.setTop g) (T.setFrames fs)) (hQ : Q v T.heap locs) (hc : cells ≤ rc) (hs : slots ≤ rs) : own_G p e below s Q rc rs (T.setTop g) := by
  obtain ⟨fs, hr, hrun, hended, hW, hsame⟩ := X.leave (v := v) hv hlk
  exact ⟨_, _, st fs hr, hrun, hended, _, _, rfl, hQ, ⟨_, rfl⟩, hW, hsame.mono hc hs⟩
/-- what resolve answers -/
def own_res (c : Int32) : Int32 := if c < 0 then 10 else if (65534 : Int32) < c then 10 else c
theorem own_res_neg {c : Int32} (h : c < 0) : own_res c = 10 := if_pos h
theorem own_res_big {c : Int32} (h : ¬ c < 0) (h2 : (65534 : Int32) < c) : own_res c = 10 := (if_neg h).trans (if_pos h2)
theorem own_res_in {c : Int32} (h : ¬ c < 0) (h2 : ¬ (65534 : Int32) < c) : own_res c = c := (if_neg h).trans (if_neg h2)
theorem own_res_65535 {c : Int32} (h : c = (65535 : Int32)) : (10 : Int32) = own_res c := by subst h; decide
theorem own_res_idem (c : Int32) : own_res (own_res c) = own_res c := by
  by_cases h : c < 0
  · rw [own_res_neg h]; decide
  · by_cases h2 : (65534 : Int32) < c
    · rw [own_res_big h h2]; decide
    · rw [own_res_in h h2, own_res_in h h2]
theorem own_ushr_nat (c : Int32) : (XT.ushr c 16).toUInt32.toNat = c.toUInt32.toNat / 65536 := by
  show (c.toUInt32 >>> ((16 : Int32) &&& 31).toUInt32).toNat = _
  have e : ((16 : Int32) &&& 31).toUInt32 = 16 := by decide
  rw [e, UInt32.toNat_shiftRight]
  show c.toUInt32.toNat >>> 16 = _
  rw [Nat.shiftRight_eq_div_pow]
theorem own_toInt (c : Int32) : c.toInt = if c.toUInt32.toNat < 2 ^ 31 then (c.toUInt32.toNat : Int) else (c.toUInt32.toNat : Int) - 2 ^ 32 := by
  show c.toBitVec.toInt = _
  rw [BitVec.toInt_eq_toNat_cond]
  show (if 2 * c.toUInt32.toNat < 2 ^ 32 then (c.toUInt32.toNat : Int) else (c.toUInt32.toNat : Int) - ((2 ^ 32 : Nat) : Int)) = _
  have := c.toUInt32.toNat_lt
  split <;> split <;> first | rfl | omega
theorem own_ushr0 {c : Int32} : XT.ushr c 16 = 0 ↔ c.toUInt32.toNat < 65536 := by
  have h := own_ushr_nat c
  constructor
  · intro q
    rw [q] at h
    have z : (0 : Int32).toUInt32.toNat = 0 := by decide
    omega
  · intro q
    have z : (XT.ushr c 16).toUInt32.toNat = 0 := by omega
    have z2 : (XT.ushr c 16).toUInt32 = 0 := UInt32.toNat_inj.mp (by rw [z]; rfl)
    have z3 : (XT.ushr c 16).toUInt32.toInt32 = (0 : UInt32).toInt32 := congrArg UInt32.toInt32 z2
    simpa using z3
theorem own_res_high {c : Int32} (h : ¬ XT.ushr c 16 = 0) : (10 : Int32) = own_res c := by
  rw [own_ushr0] at h
  have t := own_toInt c
  have z0 : (0 : Int32).toInt = 0 := by decide
  have z1 : (65534 : Int32).toInt = 65534 := by decide
  by_cases h1 : c < 0
  · exact (own_res_neg h1).symm
  · refine (own_res_big h1 ?_).symm
    rw [Int32.lt_iff_toInt_lt] at h1 ⊢
    have := c.toUInt32.toNat_lt
    split at t <;> omega
theorem own_res_low {c : Int32} (h : XT.ushr c 16 = 0) (h2 : ¬ c = (65535 : Int32)) : c = own_res c := by
  rw [own_ushr0] at h
  have t := own_toInt c
  have z0 : (0 : Int32).toInt = 0 := by decide
  have z1 : (65534 : Int32).toInt = 65534 := by decide
  have z2 : (65535 : Int32).toInt = 65535 := by decide
  rw [← Int32.toInt_inj] at h2
  have g1 : ¬ c < 0 := by rw [Int32.lt_iff_toInt_lt]; split at t <;> omega
  have g2 : ¬ (65534 : Int32) < c := by rw [Int32.lt_iff_toInt_lt]; split at t <;> omega
  exact (own_res_in g1 g2).symm
theorem d1_0 : decode prog_7_method_2_code 0 = .ok (.bipush 10, 2) := by decide +kernel
theorem d1_2 : decode prog_7_method_2_code 2 = .ok (.istore_n 1, 1) := by decide +kernel
theorem d1_3 : decode prog_7_method_2_code 3 = .ok (.iload_n 0, 1) := by decide +kernel
theorem d1_4 : decode prog_7_method_2_code 4 = .ok (.ifCond .lt 11, 3) := by decide +kernel
theorem d1_7 : decode prog_7_method_2_code 7 = .ok (.iload_n 0, 1) := by decide +kernel
theorem d1_8 : decode prog_7_method_2_code 8 = .ok (.ldc 9, 2) := by decide +kernel
theorem d1_10 : decode prog_7_method_2_code 10 = .ok (.if_icmp .gt 5, 3) := by decide +kernel
theorem d1_13 : decode prog_7_method_2_code 13 = .ok (.iload_n 0, 1) := by decide +kernel
theorem d1_14 : decode prog_7_method_2_code 14 = .ok (.istore_n 1, 1) := by decide +kernel
theorem d1_15 : decode prog_7_method_2_code 15 = .ok (.iload_n 1, 1) := by decide +kernel
theorem d1_16 : decode prog_7_method_2_code 16 = .ok (.ireturn, 1) := by decide +kernel
theorem pn1 : plainName "com/example/lean_executor/leanexecutor/RunningLimit" = true := by first | (simp [plainName, overriddenIn]; done) | decide +kernel
theorem pd1 : parseMethodDescriptor "(I)I" = some ⟨[.int], some .int⟩ := by decide +kernel
theorem ef1 (m : MethodId) (x0 : Int32) : entryFrame m #[(.int x0)] 2 = mkF m 0 #[.val (.int x0), .unset] [] := by first | (simp [entryFrame, mkF, argsToLocals, Value.category]; done) | rfl
def own_Q1 (c1 : Int32) (h0 : Heap) (v : Option Value) (h : Heap) (L : List Loc) : Prop := v = some (.int (own_res c1)) ∧ L = [] ∧ h = h0
set_option maxRecDepth 65536 in
set_option maxHeartbeats 40000000 in
theorem rm1 (l : Launch) (Z : State) (a0 : Array Value) (hw : ∀ d ∈ tables_1, d.before a0 Z = true) (ws : List Jvm.Cond) (c1 : Int32) (h0 : Heap) :
    MetFree l (⟨"com/example/lean_executor/leanexecutor/RunningLimit", "resolve", "(I)I"⟩ : MethodName) (head1 (Jvm.Cond.code (⟨"com/example/lean_executor/leanexecutor/RunningLimit", "resolve", "(I)I"⟩ : MethodName) prog_7_method_2_code 2 (some .int) :: ws) ({ frames := 0, cells := 0, slots := 0, locals := 0 } : Room)) (fun a U => a = #[(.int c1)] ∧ Z.Warmed39 U.vm ∧ U.heap = h0) (fun _ _ _ _ _ => True) (fun _ U o U' => ∃ v L, o = .returned v ∧ own_Q1 c1 h0 v U'.heap L ∧ FrameEnd U o U' L ({ frames := 0, cells := 0, slots := 0, locals := 0 } : Room).cells ({ frames := 0, cells := 0, slots := 0, locals := 0 } : Room).slots) := by
  refine MetFree.of_bodySF (plainFor_of_name pn1) hisR ?_
  intro p e s m args below meth c s₁ Bd hml0 hP hK
  obtain ⟨rfl, hZ, hh⟩ := hP
  have hx := Bd.exec
  have hby := Bd.bytes
  have hml : c.maxLocals = 2 := hml0
  have hown : s.vm.findClass "com/example/lean_executor/leanexecutor/RunningLimit" = some m.cls := findClass_of_methodNamed Bd.named
  have hnm := (name_of_methodNamed Bd.named Bd.method).1
  have X0 : Stand p l e ({ frames := 0, cells := 0, slots := 0, locals := 0 } : Room) s m #[(.int c1)] below meth c s₁ [] 0 0 := Stand.of_body Bd
  have e0 : s₁.heap = h0 := by rw [← hh, Bd.state]; rfl
  refine (show own_G p e below s (own_Q1 c1 h0) 0 0 (s₁.setTop (entryFrame m #[(.int c1)] 2)) → _ from fun k => k) ?_
  refine own_go (fun t k => castTop (ef1 m c1) k) ?_
  show own_G p e below s (own_Q1 c1 h0) 0 0 (s₁.setTop (mkF m 0 #[.val (.int c1), .unset] []))
  refine own_go (fun t k => XS.bipush X0.here hx rfl (hb hby d1_0) k) ?_
  show own_G p e below s (own_Q1 c1 h0) 0 0 (s₁.setTop (mkF m 2 #[.val (.int c1), .unset] [(.int (10 : Int32))]))
  refine own_go (fun t k => XS.istoreN X0.here hx rfl (hb hby d1_2) rfl (l' := #[.val (.int c1), .val (.int (10 : Int32))]) rfl k) ?_
  show own_G p e below s (own_Q1 c1 h0) 0 0 (s₁.setTop (mkF m 3 #[.val (.int c1), .val (.int (10 : Int32))] []))
  refine own_go (fun t k => XS.iloadN X0.here hx rfl (hb hby d1_3) rfl k) ?_
  show own_G p e below s (own_Q1 c1 h0) 0 0 (s₁.setTop (mkF m 4 #[.val (.int c1), .val (.int (10 : Int32))] [(.int c1)]))
  by_cases h1 : c1 < (0 : Int32)
  · skip
    refine own_go (fun t k => XS.ifYes X0.here hx rfl (pc0 := 4) (pc' := 15) rfl (hb hby d1_4) rfl (XT.i0_lt_t h1) (by decide) (by decide) k) ?_
    show own_G p e below s (own_Q1 c1 h0) 0 0 (s₁.setTop (mkF m 15 #[.val (.int c1), .val (.int (10 : Int32))] []))
    refine own_go (fun t k => XS.iloadN X0.here hx rfl (hb hby d1_15) rfl k) ?_
    show own_G p e below s (own_Q1 c1 h0) 0 0 (s₁.setTop (mkF m 16 #[.val (.int c1), .val (.int (10 : Int32))] [(.int (10 : Int32))]))
    exact own_leave X0 (some (.int (10 : Int32))) (fun h => by rw [Bd.returns] at h; cases h) Bd.notSynchronized (fun fs hr => retI X0 hx Bd.returns (hb hby d1_16) hr) ⟨congrArg (fun z => some (Value.int z)) ((own_res_neg h1).symm), rfl, e0⟩ (by decide) (by decide)
  · skip
    refine own_go (fun t k => XS.ifNo X0.here hx rfl (hb hby d1_4) rfl (XT.i0_lt_f h1) k) ?_
    show own_G p e below s (own_Q1 c1 h0) 0 0 (s₁.setTop (mkF m 7 #[.val (.int c1), .val (.int (10 : Int32))] []))
    refine own_go (fun t k => XS.iloadN X0.here hx rfl (hb hby d1_7) rfl k) ?_
    show own_G p e below s (own_Q1 c1 h0) 0 0 (s₁.setTop (mkF m 8 #[.val (.int c1), .val (.int (10 : Int32))] [(.int c1)]))
    refine own_go (X0.ldcInt hx hown (mvT hZ (hw _ (List.mem_of_getElem? (i := 5) rfl))) (g := (mkF m 8 #[.val (.int c1), .val (.int (10 : Int32))] [(.int c1)])) rfl (hb hby d1_8)) ?_
    show own_G p e below s (own_Q1 c1 h0) 0 0 (s₁.setTop (mkF m 10 #[.val (.int c1), .val (.int (10 : Int32))] [(.int (65534 : Int32)), (.int c1)]))
    by_cases h2 : (65534 : Int32) < c1
    · skip
      refine own_go (fun t k => XS.icmpYes X0.here hx rfl (pc0 := 10) (pc' := 15) rfl (hb hby d1_10) rfl (XT.ii_gt_t h2) (by decide) (by decide) k) ?_
      show own_G p e below s (own_Q1 c1 h0) 0 0 (s₁.setTop (mkF m 15 #[.val (.int c1), .val (.int (10 : Int32))] []))
      refine own_go (fun t k => XS.iloadN X0.here hx rfl (hb hby d1_15) rfl k) ?_
      show own_G p e below s (own_Q1 c1 h0) 0 0 (s₁.setTop (mkF m 16 #[.val (.int c1), .val (.int (10 : Int32))] [(.int (10 : Int32))]))
      exact own_leave X0 (some (.int (10 : Int32))) (fun h => by rw [Bd.returns] at h; cases h) Bd.notSynchronized (fun fs hr => retI X0 hx Bd.returns (hb hby d1_16) hr) ⟨congrArg (fun z => some (Value.int z)) ((own_res_big h1 h2).symm), rfl, e0⟩ (by decide) (by decide)
    · skip
      refine own_go (fun t k => XS.icmpNo X0.here hx rfl (hb hby d1_10) rfl (XT.ii_gt_f h2) k) ?_
      show own_G p e below s (own_Q1 c1 h0) 0 0 (s₁.setTop (mkF m 13 #[.val (.int c1), .val (.int (10 : Int32))] []))
      refine own_go (fun t k => XS.iloadN X0.here hx rfl (hb hby d1_13) rfl k) ?_
      show own_G p e below s (own_Q1 c1 h0) 0 0 (s₁.setTop (mkF m 14 #[.val (.int c1), .val (.int (10 : Int32))] [(.int c1)]))
      refine own_go (fun t k => XS.istoreN X0.here hx rfl (hb hby d1_14) rfl (l' := #[.val (.int c1), .val (.int c1)]) rfl k) ?_
      show own_G p e below s (own_Q1 c1 h0) 0 0 (s₁.setTop (mkF m 15 #[.val (.int c1), .val (.int c1)] []))
      refine own_go (fun t k => XS.iloadN X0.here hx rfl (hb hby d1_15) rfl k) ?_
      show own_G p e below s (own_Q1 c1 h0) 0 0 (s₁.setTop (mkF m 16 #[.val (.int c1), .val (.int c1)] [(.int c1)]))
      exact own_leave X0 (some (.int c1)) (fun h => by rw [Bd.returns] at h; cases h) Bd.notSynchronized (fun fs hr => retI X0 hx Bd.returns (hb hby d1_16) hr) ⟨congrArg (fun z => some (Value.int z)) ((own_res_in h1 h2).symm), rfl, e0⟩ (by decide) (by decide)
theorem pn0 : plainName "com/example/lean_executor/leanexecutor/RunningLimitResolvePinLaw" = true := by first | (simp [plainName, overriddenIn]; done) | decide +kernel
theorem ef0 (m : MethodId) (x0 : Int32) (x1 : Int32) : entryFrame m #[(.int x0), (.int x1)] maxLocals = mkF m 0 #[.val (.int x0), .val (.int x1), .unset, .unset, .unset, .unset, .unset] [] := by first | (simp [entryFrame, mkF, argsToLocals, Value.category, maxLocals]; done) | rfl
def own_Q0 (n0 : Nat) (v : Option Value) (h : Heap) (L : List Loc) : Prop := v = some (.int 1) ∧ Fr n0 L
set_option maxRecDepth 65536 in
set_option maxHeartbeats 40000000 in
theorem rm0 (l : Launch) (Z : State) (a0 : Array Value) (hw : ∀ d ∈ tables_1, d.before a0 Z = true) (ws : List Jvm.Cond) (x0 x1 : Int32) (h0 : Heap) (n0 : Nat) (Z0 : n0 ≤ h0.size) :
    MetFree l x (head1 (Jvm.Cond.code x code maxLocals ret :: ws) room_1) (fun a U => a = #[(.int x0), (.int x1)] ∧ Z.Warmed39 U.vm ∧ U.heap = h0) (fun _ _ _ _ _ => True) (fun _ U o U' => ∃ v L, o = .returned v ∧ own_Q0 n0 v U'.heap L ∧ FrameEnd U o U' L 0 0) := by
  refine MetFree.of_bodySF (plainFor_of_name pn0) hisR ?_
  intro p e s m args below meth c s₁ Bd hml0 hP hK
  obtain ⟨rfl, hZ, hh⟩ := hP
  have hx := Bd.exec
  have hby := Bd.bytes
  have hml : c.maxLocals = 7 := hml0
  have hown : s.vm.findClass "com/example/lean_executor/leanexecutor/RunningLimitResolvePinLaw" = some m.cls := findClass_of_methodNamed Bd.named
  have hnm := (name_of_methodNamed Bd.named Bd.method).1
  have X0 : Stand p l e room_1 s m #[(.int x0), (.int x1)] below meth c s₁ [] 0 0 := Stand.of_body Bd
  have e0 : s₁.heap = h0 := by rw [← hh, Bd.state]; rfl
  refine (show own_G p e below s (own_Q0 n0) 0 0 (s₁.setTop (entryFrame m #[(.int x0), (.int x1)] maxLocals)) → _ from fun k => k) ?_
  refine own_go (fun t k => castTop (ef0 m x0 x1) k) ?_
  show own_G p e below s (own_Q0 n0) 0 0 (s₁.setTop (mkF m 0 #[.val (.int x0), .val (.int x1), .unset, .unset, .unset, .unset, .unset] []))
  refine own_go (fun t k => XS.iloadN X0.here hx rfl (hb hby at_0) rfl k) ?_
  show own_G p e below s (own_Q0 n0) 0 0 (s₁.setTop (mkF m 1 #[.val (.int x0), .val (.int x1), .unset, .unset, .unset, .unset, .unset] [(.int x1)]))
  refine own_go (fun t k => XS.iconst X0.here hx rfl (hb hby at_1) k) ?_
  show own_G p e below s (own_Q0 n0) 0 0 (s₁.setTop (mkF m 2 #[.val (.int x0), .val (.int x1), .unset, .unset, .unset, .unset, .unset] [(.int (3 : Int32)), (.int x1)]))
  refine own_go (fun t k => XS.iand X0.here hx rfl (hb hby at_2) rfl k) ?_
  show own_G p e below s (own_Q0 n0) 0 0 (s₁.setTop (mkF m 3 #[.val (.int x0), .val (.int x1), .unset, .unset, .unset, .unset, .unset] [(.int (x1 &&& (3 : Int32)))]))
  refine own_go (fun t k => XS.istoreN X0.here hx rfl (hb hby at_3) rfl (l' := #[.val (.int x0), .val (.int x1), .val (.int (x1 &&& (3 : Int32))), .unset, .unset, .unset, .unset]) rfl k) ?_
  show own_G p e below s (own_Q0 n0) 0 0 (s₁.setTop (mkF m 4 #[.val (.int x0), .val (.int x1), .val (.int (x1 &&& (3 : Int32))), .unset, .unset, .unset, .unset] []))
  suffices own_n_md : ∀ md : Int32, md = (x1 &&& (3 : Int32)) → own_G p e below s (own_Q0 n0) 0 0 (s₁.setTop (mkF m 4 #[.val (.int x0), .val (.int x1), .val (.int md), .unset, .unset, .unset, .unset] [])) from own_n_md _ rfl
  intro md h_md
  have J57 : ∀ (c : Int32), own_G p e below s (own_Q0 n0) 0 0 (s₁.setTop (mkF m 57 #[.val (.int x0), .val (.int x1), .val (.int md), .val (.int c), .unset, .unset, .unset] [])) := by
    intro c
    have J90 : ∀ (b ex : Int32) (hex : ex = own_res c), own_G p e below s (own_Q0 n0) 0 0 (s₁.setTop (mkF m 90 #[.val (.int x0), .val (.int x1), .val (.int md), .val (.int c), .val (.int b), .val (.int ex), .unset] [])) := by
      intro b ex hex
      refine own_go (fun t k => XS.iloadN X0.here hx rfl (hb hby at_90) rfl k) ?_
      show own_G p e below s (own_Q0 n0) 0 0 (s₁.setTop (mkF m 91 #[.val (.int x0), .val (.int x1), .val (.int md), .val (.int c), .val (.int b), .val (.int ex), .unset] [(.int c)]))
      obtain ⟨_, _, ⟨T101, L101, k101, n101⟩, -, X101, ⟨Lc101, hQ101, l101, y101, z101⟩, st101⟩ := Jvm.LawKit.callS X0 hx (y := (⟨"com/example/lean_executor/leanexecutor/RunningLimit", "resolve", "(I)I"⟩ : MethodName)) hown (mvT hZ (hw _ (List.mem_of_getElem? (i := 1) rfl))) (mvT hZ (hw _ (List.mem_of_getElem? (i := 2) rfl))) (mvT hZ (hw _ (List.mem_of_getElem? (i := 3) rfl))) (mvT hZ (hw _ (List.mem_of_getElem? (i := 4) rfl))) (by decide) (backOf (W := 0) (rm1 l Z a0 hw [] c h0) hZ (hw _ (List.mem_of_getElem? (i := 4) rfl)) (hw _ (List.mem_of_getElem? (i := 3) rfl)) (by decide) (by decide)) (g := (mkF m 91 #[.val (.int x0), .val (.int x1), .val (.int md), .val (.int c), .val (.int b), .val (.int ex), .unset] [(.int c)])) rfl (by rw [hml]; rfl) (argsL := [(.int c)]) (rest := []) (lenOf pd1 rfl) rfl (by show 2 * 0 + _ ≤ _; exact Nat.le_of_eq rfl) (hb hby at_91) (fun _ _ => ⟨rfl, e0, (by decide : 0 + 0 ≤ _), (by decide : 0 + 0 ≤ _)⟩)
      dsimp only [Pt.U, Pt.locs, Pt.cells, Pt.slots] at X101 l101 y101 z101 st101 hQ101
      subst l101 y101 z101
      obtain ⟨rfl, rfl, e101⟩ := hQ101
      refine own_go (st101) ?_
      show own_G p e below s (own_Q0 n0) 0 0 (T101.setTop (mkF m 94 #[.val (.int x0), .val (.int x1), .val (.int md), .val (.int c), .val (.int b), .val (.int ex), .unset] [(.int (own_res c))]))
      refine own_go (fun t k => XS.istore X101.here hx rfl (hb hby at_94) rfl (l' := #[.val (.int x0), .val (.int x1), .val (.int md), .val (.int c), .val (.int b), .val (.int ex), .val (.int (own_res c))]) rfl k) ?_
      show own_G p e below s (own_Q0 n0) 0 0 (T101.setTop (mkF m 96 #[.val (.int x0), .val (.int x1), .val (.int md), .val (.int c), .val (.int b), .val (.int ex), .val (.int (own_res c))] []))
      refine own_go (fun t k => XS.iload X101.here hx rfl (hb hby at_96) rfl k) ?_
      show own_G p e below s (own_Q0 n0) 0 0 (T101.setTop (mkF m 98 #[.val (.int x0), .val (.int x1), .val (.int md), .val (.int c), .val (.int b), .val (.int ex), .val (.int (own_res c))] [(.int (own_res c))]))
      refine own_go (fun t k => XS.iload X101.here hx rfl (hb hby at_98) rfl k) ?_
      show own_G p e below s (own_Q0 n0) 0 0 (T101.setTop (mkF m 100 #[.val (.int x0), .val (.int x1), .val (.int md), .val (.int c), .val (.int b), .val (.int ex), .val (.int (own_res c))] [(.int ex), (.int (own_res c))]))
      refine own_go (fun t k => XS.icmpNo X101.here hx rfl (hb hby at_100) rfl (XT.ii_ne_f hex.symm) k) ?_
      show own_G p e below s (own_Q0 n0) 0 0 (T101.setTop (mkF m 103 #[.val (.int x0), .val (.int x1), .val (.int md), .val (.int c), .val (.int b), .val (.int ex), .val (.int (own_res c))] []))
      refine own_go (fun t k => XS.iload X101.here hx rfl (hb hby at_103) rfl k) ?_
      show own_G p e below s (own_Q0 n0) 0 0 (T101.setTop (mkF m 105 #[.val (.int x0), .val (.int x1), .val (.int md), .val (.int c), .val (.int b), .val (.int ex), .val (.int (own_res c))] [(.int (own_res c))]))
      obtain ⟨_, _, ⟨T102, L102, k102, n102⟩, -, X102, ⟨Lc102, hQ102, l102, y102, z102⟩, st102⟩ := Jvm.LawKit.callS X101 hx (y := (⟨"com/example/lean_executor/leanexecutor/RunningLimit", "resolve", "(I)I"⟩ : MethodName)) hown (mvT hZ (hw _ (List.mem_of_getElem? (i := 1) rfl))) (mvT hZ (hw _ (List.mem_of_getElem? (i := 2) rfl))) (mvT hZ (hw _ (List.mem_of_getElem? (i := 3) rfl))) (mvT hZ (hw _ (List.mem_of_getElem? (i := 4) rfl))) (by decide) (backOf (W := 0) (rm1 l Z a0 hw [] (own_res c) h0) hZ (hw _ (List.mem_of_getElem? (i := 4) rfl)) (hw _ (List.mem_of_getElem? (i := 3) rfl)) (by decide) (by decide)) (g := (mkF m 105 #[.val (.int x0), .val (.int x1), .val (.int md), .val (.int c), .val (.int b), .val (.int ex), .val (.int (own_res c))] [(.int (own_res c))])) rfl (by rw [hml]; rfl) (argsL := [(.int (own_res c))]) (rest := []) (lenOf pd1 rfl) rfl (by show 2 * 0 + _ ≤ _; exact Nat.le_of_eq rfl) (hb hby at_105) (fun _ _ => ⟨rfl, e101, (by decide : 0 + 0 ≤ _), (by decide : 0 + 0 ≤ _)⟩)
      dsimp only [Pt.U, Pt.locs, Pt.cells, Pt.slots] at X102 l102 y102 z102 st102 hQ102
      subst l102 y102 z102
      obtain ⟨rfl, rfl, e102⟩ := hQ102
      refine own_go (st102) ?_
      show own_G p e below s (own_Q0 n0) 0 0 (T102.setTop (mkF m 108 #[.val (.int x0), .val (.int x1), .val (.int md), .val (.int c), .val (.int b), .val (.int ex), .val (.int (own_res c))] [(.int (own_res (own_res c)))]))
      refine own_go (fun t k => XS.iload X102.here hx rfl (hb hby at_108) rfl k) ?_
      show own_G p e below s (own_Q0 n0) 0 0 (T102.setTop (mkF m 110 #[.val (.int x0), .val (.int x1), .val (.int md), .val (.int c), .val (.int b), .val (.int ex), .val (.int (own_res c))] [(.int (own_res c)), (.int (own_res (own_res c)))]))
      refine own_go (fun t k => XS.icmpNo X102.here hx rfl (hb hby at_110) rfl (XT.ii_ne_f (own_res_idem c)) k) ?_
      show own_G p e below s (own_Q0 n0) 0 0 (T102.setTop (mkF m 113 #[.val (.int x0), .val (.int x1), .val (.int md), .val (.int c), .val (.int b), .val (.int ex), .val (.int (own_res c))] []))
      refine own_go (fun t k => XS.iconst X102.here hx rfl (hb hby at_113) k) ?_
      show own_G p e below s (own_Q0 n0) 0 0 (T102.setTop (mkF m 114 #[.val (.int x0), .val (.int x1), .val (.int md), .val (.int c), .val (.int b), .val (.int ex), .val (.int (own_res c))] [(.int (1 : Int32))]))
      refine own_go (fun t k => XS.goto X102.here hx rfl (pc0 := 114) (pc' := 118) rfl (hb hby at_114) (by decide) (by decide) k) ?_
      show own_G p e below s (own_Q0 n0) 0 0 (T102.setTop (mkF m 118 #[.val (.int x0), .val (.int x1), .val (.int md), .val (.int c), .val (.int b), .val (.int ex), .val (.int (own_res c))] [(.int (1 : Int32))]))
      exact own_leave X102 (some (.int (1 : Int32))) (fun h => by rw [Bd.returns] at h; cases h) Bd.notSynchronized (fun fs hr => retN X102 hx (t := .boolean) Bd.returns (by simp) (hb hby at_118) hr) ⟨rfl, (Fr.app (Fr.app (Fr.nil n0) (Fr.nil n0)) (Fr.nil n0))⟩ (by decide) (by decide)
    refine own_go (fun t k => XS.iloadN X0.here hx rfl (hb hby at_57) rfl k) ?_
    show own_G p e below s (own_Q0 n0) 0 0 (s₁.setTop (mkF m 58 #[.val (.int x0), .val (.int x1), .val (.int md), .val (.int c), .unset, .unset, .unset] [(.int c)]))
    refine own_go (fun t k => XS.bipush X0.here hx rfl (hb hby at_58) k) ?_
    show own_G p e below s (own_Q0 n0) 0 0 (s₁.setTop (mkF m 60 #[.val (.int x0), .val (.int x1), .val (.int md), .val (.int c), .unset, .unset, .unset] [(.int (16 : Int32)), (.int c)]))
    refine own_go (fun t k => XT.iushr X0.here hx rfl (hb hby at_60) rfl k) ?_
    show own_G p e below s (own_Q0 n0) 0 0 (s₁.setTop (mkF m 61 #[.val (.int x0), .val (.int x1), .val (.int md), .val (.int c), .unset, .unset, .unset] [(.int (XT.ushr c (16 : Int32)))]))
    by_cases h1 : (XT.ushr c (16 : Int32)) = (0 : Int32)
    · skip
      refine own_go (fun t k => XS.ifNo X0.here hx rfl (hb hby at_61) rfl (XT.i0_ne_f h1) k) ?_
      show own_G p e below s (own_Q0 n0) 0 0 (s₁.setTop (mkF m 64 #[.val (.int x0), .val (.int x1), .val (.int md), .val (.int c), .unset, .unset, .unset] []))
      refine own_go (fun t k => XS.iloadN X0.here hx rfl (hb hby at_64) rfl k) ?_
      show own_G p e below s (own_Q0 n0) 0 0 (s₁.setTop (mkF m 65 #[.val (.int x0), .val (.int x1), .val (.int md), .val (.int c), .unset, .unset, .unset] [(.int c)]))
      refine own_go (X0.ldcInt hx hown (mvT hZ (hw _ (List.mem_of_getElem? (i := 6) rfl))) (g := (mkF m 65 #[.val (.int x0), .val (.int x1), .val (.int md), .val (.int c), .unset, .unset, .unset] [(.int c)])) rfl (hb hby at_65)) ?_
      show own_G p e below s (own_Q0 n0) 0 0 (s₁.setTop (mkF m 67 #[.val (.int x0), .val (.int x1), .val (.int md), .val (.int c), .unset, .unset, .unset] [(.int (65535 : Int32)), (.int c)]))
      by_cases h2 : c = (65535 : Int32)
      · skip
        refine own_go (fun t k => XS.icmpYes X0.here hx rfl (pc0 := 67) (pc' := 74) rfl (hb hby at_67) rfl (XT.ii_eq_t h2) (by decide) (by decide) k) ?_
        show own_G p e below s (own_Q0 n0) 0 0 (s₁.setTop (mkF m 74 #[.val (.int x0), .val (.int x1), .val (.int md), .val (.int c), .unset, .unset, .unset] []))
        refine own_go (fun t k => XS.iconst X0.here hx rfl (hb hby at_74) k) ?_
        show own_G p e below s (own_Q0 n0) 0 0 (s₁.setTop (mkF m 75 #[.val (.int x0), .val (.int x1), .val (.int md), .val (.int c), .unset, .unset, .unset] [(.int (0 : Int32))]))
        refine own_go (fun t k => XS.istore X0.here hx rfl (hb hby at_75) rfl (l' := #[.val (.int x0), .val (.int x1), .val (.int md), .val (.int c), .val (.int (0 : Int32)), .unset, .unset]) rfl k) ?_
        show own_G p e below s (own_Q0 n0) 0 0 (s₁.setTop (mkF m 77 #[.val (.int x0), .val (.int x1), .val (.int md), .val (.int c), .val (.int (0 : Int32)), .unset, .unset] []))
        refine own_go (fun t k => XS.iload X0.here hx rfl (hb hby at_77) rfl k) ?_
        show own_G p e below s (own_Q0 n0) 0 0 (s₁.setTop (mkF m 79 #[.val (.int x0), .val (.int x1), .val (.int md), .val (.int c), .val (.int (0 : Int32)), .unset, .unset] [(.int (0 : Int32))]))
        refine own_go (fun t k => XS.ifYes X0.here hx rfl (pc0 := 79) (pc' := 86) rfl (hb hby at_79) rfl (XT.i0_eq_t rfl) (by decide) (by decide) k) ?_
        show own_G p e below s (own_Q0 n0) 0 0 (s₁.setTop (mkF m 86 #[.val (.int x0), .val (.int x1), .val (.int md), .val (.int c), .val (.int (0 : Int32)), .unset, .unset] []))
        refine own_go (fun t k => XS.bipush X0.here hx rfl (hb hby at_86) k) ?_
        show own_G p e below s (own_Q0 n0) 0 0 (s₁.setTop (mkF m 88 #[.val (.int x0), .val (.int x1), .val (.int md), .val (.int c), .val (.int (0 : Int32)), .unset, .unset] [(.int (10 : Int32))]))
        refine own_go (fun t k => XS.istore X0.here hx rfl (hb hby at_88) rfl (l' := #[.val (.int x0), .val (.int x1), .val (.int md), .val (.int c), .val (.int (0 : Int32)), .val (.int (10 : Int32)), .unset]) rfl k) ?_
        show own_G p e below s (own_Q0 n0) 0 0 (s₁.setTop (mkF m 90 #[.val (.int x0), .val (.int x1), .val (.int md), .val (.int c), .val (.int (0 : Int32)), .val (.int (10 : Int32)), .unset] []))
        exact J90 _ _ (own_res_65535 h2)
      · skip
        refine own_go (fun t k => XS.icmpNo X0.here hx rfl (hb hby at_67) rfl (XT.ii_eq_f h2) k) ?_
        show own_G p e below s (own_Q0 n0) 0 0 (s₁.setTop (mkF m 70 #[.val (.int x0), .val (.int x1), .val (.int md), .val (.int c), .unset, .unset, .unset] []))
        refine own_go (fun t k => XS.iconst X0.here hx rfl (hb hby at_70) k) ?_
        show own_G p e below s (own_Q0 n0) 0 0 (s₁.setTop (mkF m 71 #[.val (.int x0), .val (.int x1), .val (.int md), .val (.int c), .unset, .unset, .unset] [(.int (1 : Int32))]))
        refine own_go (fun t k => XS.goto X0.here hx rfl (pc0 := 71) (pc' := 75) rfl (hb hby at_71) (by decide) (by decide) k) ?_
        show own_G p e below s (own_Q0 n0) 0 0 (s₁.setTop (mkF m 75 #[.val (.int x0), .val (.int x1), .val (.int md), .val (.int c), .unset, .unset, .unset] [(.int (1 : Int32))]))
        refine own_go (fun t k => XS.istore X0.here hx rfl (hb hby at_75) rfl (l' := #[.val (.int x0), .val (.int x1), .val (.int md), .val (.int c), .val (.int (1 : Int32)), .unset, .unset]) rfl k) ?_
        show own_G p e below s (own_Q0 n0) 0 0 (s₁.setTop (mkF m 77 #[.val (.int x0), .val (.int x1), .val (.int md), .val (.int c), .val (.int (1 : Int32)), .unset, .unset] []))
        refine own_go (fun t k => XS.iload X0.here hx rfl (hb hby at_77) rfl k) ?_
        show own_G p e below s (own_Q0 n0) 0 0 (s₁.setTop (mkF m 79 #[.val (.int x0), .val (.int x1), .val (.int md), .val (.int c), .val (.int (1 : Int32)), .unset, .unset] [(.int (1 : Int32))]))
        refine own_go (fun t k => XS.ifNo X0.here hx rfl (hb hby at_79) rfl (XT.i0_eq_f (by decide)) k) ?_
        show own_G p e below s (own_Q0 n0) 0 0 (s₁.setTop (mkF m 82 #[.val (.int x0), .val (.int x1), .val (.int md), .val (.int c), .val (.int (1 : Int32)), .unset, .unset] []))
        refine own_go (fun t k => XS.iloadN X0.here hx rfl (hb hby at_82) rfl k) ?_
        show own_G p e below s (own_Q0 n0) 0 0 (s₁.setTop (mkF m 83 #[.val (.int x0), .val (.int x1), .val (.int md), .val (.int c), .val (.int (1 : Int32)), .unset, .unset] [(.int c)]))
        refine own_go (fun t k => XS.goto X0.here hx rfl (pc0 := 83) (pc' := 88) rfl (hb hby at_83) (by decide) (by decide) k) ?_
        show own_G p e below s (own_Q0 n0) 0 0 (s₁.setTop (mkF m 88 #[.val (.int x0), .val (.int x1), .val (.int md), .val (.int c), .val (.int (1 : Int32)), .unset, .unset] [(.int c)]))
        refine own_go (fun t k => XS.istore X0.here hx rfl (hb hby at_88) rfl (l' := #[.val (.int x0), .val (.int x1), .val (.int md), .val (.int c), .val (.int (1 : Int32)), .val (.int c), .unset]) rfl k) ?_
        show own_G p e below s (own_Q0 n0) 0 0 (s₁.setTop (mkF m 90 #[.val (.int x0), .val (.int x1), .val (.int md), .val (.int c), .val (.int (1 : Int32)), .val (.int c), .unset] []))
        exact J90 _ _ (own_res_low h1 h2)
    · skip
      refine own_go (fun t k => XS.ifYes X0.here hx rfl (pc0 := 61) (pc' := 74) rfl (hb hby at_61) rfl (XT.i0_ne_t h1) (by decide) (by decide) k) ?_
      show own_G p e below s (own_Q0 n0) 0 0 (s₁.setTop (mkF m 74 #[.val (.int x0), .val (.int x1), .val (.int md), .val (.int c), .unset, .unset, .unset] []))
      refine own_go (fun t k => XS.iconst X0.here hx rfl (hb hby at_74) k) ?_
      show own_G p e below s (own_Q0 n0) 0 0 (s₁.setTop (mkF m 75 #[.val (.int x0), .val (.int x1), .val (.int md), .val (.int c), .unset, .unset, .unset] [(.int (0 : Int32))]))
      refine own_go (fun t k => XS.istore X0.here hx rfl (hb hby at_75) rfl (l' := #[.val (.int x0), .val (.int x1), .val (.int md), .val (.int c), .val (.int (0 : Int32)), .unset, .unset]) rfl k) ?_
      show own_G p e below s (own_Q0 n0) 0 0 (s₁.setTop (mkF m 77 #[.val (.int x0), .val (.int x1), .val (.int md), .val (.int c), .val (.int (0 : Int32)), .unset, .unset] []))
      refine own_go (fun t k => XS.iload X0.here hx rfl (hb hby at_77) rfl k) ?_
      show own_G p e below s (own_Q0 n0) 0 0 (s₁.setTop (mkF m 79 #[.val (.int x0), .val (.int x1), .val (.int md), .val (.int c), .val (.int (0 : Int32)), .unset, .unset] [(.int (0 : Int32))]))
      refine own_go (fun t k => XS.ifYes X0.here hx rfl (pc0 := 79) (pc' := 86) rfl (hb hby at_79) rfl (XT.i0_eq_t rfl) (by decide) (by decide) k) ?_
      show own_G p e below s (own_Q0 n0) 0 0 (s₁.setTop (mkF m 86 #[.val (.int x0), .val (.int x1), .val (.int md), .val (.int c), .val (.int (0 : Int32)), .unset, .unset] []))
      refine own_go (fun t k => XS.bipush X0.here hx rfl (hb hby at_86) k) ?_
      show own_G p e below s (own_Q0 n0) 0 0 (s₁.setTop (mkF m 88 #[.val (.int x0), .val (.int x1), .val (.int md), .val (.int c), .val (.int (0 : Int32)), .unset, .unset] [(.int (10 : Int32))]))
      refine own_go (fun t k => XS.istore X0.here hx rfl (hb hby at_88) rfl (l' := #[.val (.int x0), .val (.int x1), .val (.int md), .val (.int c), .val (.int (0 : Int32)), .val (.int (10 : Int32)), .unset]) rfl k) ?_
      show own_G p e below s (own_Q0 n0) 0 0 (s₁.setTop (mkF m 90 #[.val (.int x0), .val (.int x1), .val (.int md), .val (.int c), .val (.int (0 : Int32)), .val (.int (10 : Int32)), .unset] []))
      exact J90 _ _ (own_res_high h1)
  refine own_go (fun t k => XS.iloadN X0.here hx rfl (hb hby at_4) rfl k) ?_
  show own_G p e below s (own_Q0 n0) 0 0 (s₁.setTop (mkF m 5 #[.val (.int x0), .val (.int x1), .val (.int md), .unset, .unset, .unset, .unset] [(.int md)]))
  by_cases h1 : md = (0 : Int32)
  · skip
    refine own_go (fun t k => XS.ifNo X0.here hx rfl (hb hby at_5) rfl (XT.i0_ne_f h1) k) ?_
    show own_G p e below s (own_Q0 n0) 0 0 (s₁.setTop (mkF m 8 #[.val (.int x0), .val (.int x1), .val (.int md), .unset, .unset, .unset, .unset] []))
    refine own_go (fun t k => XS.iloadN X0.here hx rfl (hb hby at_8) rfl k) ?_
    show own_G p e below s (own_Q0 n0) 0 0 (s₁.setTop (mkF m 9 #[.val (.int x0), .val (.int x1), .val (.int md), .unset, .unset, .unset, .unset] [(.int x0)]))
    refine own_go (fun t k => XS.istoreN X0.here hx rfl (hb hby at_9) rfl (l' := #[.val (.int x0), .val (.int x1), .val (.int md), .val (.int x0), .unset, .unset, .unset]) rfl k) ?_
    show own_G p e below s (own_Q0 n0) 0 0 (s₁.setTop (mkF m 10 #[.val (.int x0), .val (.int x1), .val (.int md), .val (.int x0), .unset, .unset, .unset] []))
    refine own_go (fun t k => XS.goto X0.here hx rfl (pc0 := 10) (pc' := 57) rfl (hb hby at_10) (by decide) (by decide) k) ?_
    show own_G p e below s (own_Q0 n0) 0 0 (s₁.setTop (mkF m 57 #[.val (.int x0), .val (.int x1), .val (.int md), .val (.int x0), .unset, .unset, .unset] []))
    exact J57 _
  · skip
    refine own_go (fun t k => XS.ifYes X0.here hx rfl (pc0 := 5) (pc' := 13) rfl (hb hby at_5) rfl (XT.i0_ne_t h1) (by decide) (by decide) k) ?_
    show own_G p e below s (own_Q0 n0) 0 0 (s₁.setTop (mkF m 13 #[.val (.int x0), .val (.int x1), .val (.int md), .unset, .unset, .unset, .unset] []))
    refine own_go (fun t k => XS.iloadN X0.here hx rfl (hb hby at_13) rfl k) ?_
    show own_G p e below s (own_Q0 n0) 0 0 (s₁.setTop (mkF m 14 #[.val (.int x0), .val (.int x1), .val (.int md), .unset, .unset, .unset, .unset] [(.int md)]))
    refine own_go (fun t k => XS.iconst X0.here hx rfl (hb hby at_14) k) ?_
    show own_G p e below s (own_Q0 n0) 0 0 (s₁.setTop (mkF m 15 #[.val (.int x0), .val (.int x1), .val (.int md), .unset, .unset, .unset, .unset] [(.int (1 : Int32)), (.int md)]))
    by_cases h2 : md = (1 : Int32)
    · skip
      refine own_go (fun t k => XS.icmpNo X0.here hx rfl (hb hby at_15) rfl (XT.ii_ne_f h2) k) ?_
      show own_G p e below s (own_Q0 n0) 0 0 (s₁.setTop (mkF m 18 #[.val (.int x0), .val (.int x1), .val (.int md), .unset, .unset, .unset, .unset] []))
      refine own_go (fun t k => XS.bipush X0.here hx rfl (hb hby at_18) k) ?_
      show own_G p e below s (own_Q0 n0) 0 0 (s₁.setTop (mkF m 20 #[.val (.int x0), .val (.int x1), .val (.int md), .unset, .unset, .unset, .unset] [(.int (-2 : Int32))]))
      refine own_go (fun t k => XS.iloadN X0.here hx rfl (hb hby at_20) rfl k) ?_
      show own_G p e below s (own_Q0 n0) 0 0 (s₁.setTop (mkF m 21 #[.val (.int x0), .val (.int x1), .val (.int md), .unset, .unset, .unset, .unset] [(.int x0), (.int (-2 : Int32))]))
      refine own_go (fun t k => XS.iconst X0.here hx rfl (hb hby at_21) k) ?_
      show own_G p e below s (own_Q0 n0) 0 0 (s₁.setTop (mkF m 22 #[.val (.int x0), .val (.int x1), .val (.int md), .unset, .unset, .unset, .unset] [(.int (3 : Int32)), (.int x0), (.int (-2 : Int32))]))
      refine own_go (fun t k => XS.iand X0.here hx rfl (hb hby at_22) rfl k) ?_
      show own_G p e below s (own_Q0 n0) 0 0 (s₁.setTop (mkF m 23 #[.val (.int x0), .val (.int x1), .val (.int md), .unset, .unset, .unset, .unset] [(.int (x0 &&& (3 : Int32))), (.int (-2 : Int32))]))
      refine own_go (fun t k => XS.iadd X0.here hx rfl (hb hby at_23) rfl k) ?_
      show own_G p e below s (own_Q0 n0) 0 0 (s₁.setTop (mkF m 24 #[.val (.int x0), .val (.int x1), .val (.int md), .unset, .unset, .unset, .unset] [(.int ((-2 : Int32) + (x0 &&& (3 : Int32))))]))
      refine own_go (fun t k => XS.istoreN X0.here hx rfl (hb hby at_24) rfl (l' := #[.val (.int x0), .val (.int x1), .val (.int md), .val (.int ((-2 : Int32) + (x0 &&& (3 : Int32)))), .unset, .unset, .unset]) rfl k) ?_
      show own_G p e below s (own_Q0 n0) 0 0 (s₁.setTop (mkF m 25 #[.val (.int x0), .val (.int x1), .val (.int md), .val (.int ((-2 : Int32) + (x0 &&& (3 : Int32)))), .unset, .unset, .unset] []))
      refine own_go (fun t k => XS.goto X0.here hx rfl (pc0 := 25) (pc' := 57) rfl (hb hby at_25) (by decide) (by decide) k) ?_
      show own_G p e below s (own_Q0 n0) 0 0 (s₁.setTop (mkF m 57 #[.val (.int x0), .val (.int x1), .val (.int md), .val (.int ((-2 : Int32) + (x0 &&& (3 : Int32)))), .unset, .unset, .unset] []))
      exact J57 _
    · skip
      refine own_go (fun t k => XS.icmpYes X0.here hx rfl (pc0 := 15) (pc' := 28) rfl (hb hby at_15) rfl (XT.ii_ne_t h2) (by decide) (by decide) k) ?_
      show own_G p e below s (own_Q0 n0) 0 0 (s₁.setTop (mkF m 28 #[.val (.int x0), .val (.int x1), .val (.int md), .unset, .unset, .unset, .unset] []))
      refine own_go (fun t k => XS.iloadN X0.here hx rfl (hb hby at_28) rfl k) ?_
      show own_G p e below s (own_Q0 n0) 0 0 (s₁.setTop (mkF m 29 #[.val (.int x0), .val (.int x1), .val (.int md), .unset, .unset, .unset, .unset] [(.int md)]))
      refine own_go (fun t k => XS.iconst X0.here hx rfl (hb hby at_29) k) ?_
      show own_G p e below s (own_Q0 n0) 0 0 (s₁.setTop (mkF m 30 #[.val (.int x0), .val (.int x1), .val (.int md), .unset, .unset, .unset, .unset] [(.int (2 : Int32)), (.int md)]))
      by_cases h3 : md = (2 : Int32)
      · skip
        refine own_go (fun t k => XS.icmpNo X0.here hx rfl (hb hby at_30) rfl (XT.ii_ne_f h3) k) ?_
        show own_G p e below s (own_Q0 n0) 0 0 (s₁.setTop (mkF m 33 #[.val (.int x0), .val (.int x1), .val (.int md), .unset, .unset, .unset, .unset] []))
        refine own_go (X0.ldcInt hx hown (mvT hZ (hw _ (List.mem_of_getElem? (i := 7) rfl))) (g := (mkF m 33 #[.val (.int x0), .val (.int x1), .val (.int md), .unset, .unset, .unset, .unset] [])) rfl (hb hby at_33)) ?_
        show own_G p e below s (own_Q0 n0) 0 0 (s₁.setTop (mkF m 35 #[.val (.int x0), .val (.int x1), .val (.int md), .unset, .unset, .unset, .unset] [(.int (65532 : Int32))]))
        refine own_go (fun t k => XS.iloadN X0.here hx rfl (hb hby at_35) rfl k) ?_
        show own_G p e below s (own_Q0 n0) 0 0 (s₁.setTop (mkF m 36 #[.val (.int x0), .val (.int x1), .val (.int md), .unset, .unset, .unset, .unset] [(.int x0), (.int (65532 : Int32))]))
        refine own_go (fun t k => XS.iconst X0.here hx rfl (hb hby at_36) k) ?_
        show own_G p e below s (own_Q0 n0) 0 0 (s₁.setTop (mkF m 37 #[.val (.int x0), .val (.int x1), .val (.int md), .unset, .unset, .unset, .unset] [(.int (3 : Int32)), (.int x0), (.int (65532 : Int32))]))
        refine own_go (fun t k => XS.iand X0.here hx rfl (hb hby at_37) rfl k) ?_
        show own_G p e below s (own_Q0 n0) 0 0 (s₁.setTop (mkF m 38 #[.val (.int x0), .val (.int x1), .val (.int md), .unset, .unset, .unset, .unset] [(.int (x0 &&& (3 : Int32))), (.int (65532 : Int32))]))
        refine own_go (fun t k => XS.iadd X0.here hx rfl (hb hby at_38) rfl k) ?_
        show own_G p e below s (own_Q0 n0) 0 0 (s₁.setTop (mkF m 39 #[.val (.int x0), .val (.int x1), .val (.int md), .unset, .unset, .unset, .unset] [(.int ((65532 : Int32) + (x0 &&& (3 : Int32))))]))
        refine own_go (fun t k => XS.istoreN X0.here hx rfl (hb hby at_39) rfl (l' := #[.val (.int x0), .val (.int x1), .val (.int md), .val (.int ((65532 : Int32) + (x0 &&& (3 : Int32)))), .unset, .unset, .unset]) rfl k) ?_
        show own_G p e below s (own_Q0 n0) 0 0 (s₁.setTop (mkF m 40 #[.val (.int x0), .val (.int x1), .val (.int md), .val (.int ((65532 : Int32) + (x0 &&& (3 : Int32)))), .unset, .unset, .unset] []))
        refine own_go (fun t k => XS.goto X0.here hx rfl (pc0 := 40) (pc' := 57) rfl (hb hby at_40) (by decide) (by decide) k) ?_
        show own_G p e below s (own_Q0 n0) 0 0 (s₁.setTop (mkF m 57 #[.val (.int x0), .val (.int x1), .val (.int md), .val (.int ((65532 : Int32) + (x0 &&& (3 : Int32)))), .unset, .unset, .unset] []))
        exact J57 _
      · skip
        refine own_go (fun t k => XS.icmpYes X0.here hx rfl (pc0 := 30) (pc' := 43) rfl (hb hby at_30) rfl (XT.ii_ne_t h3) (by decide) (by decide) k) ?_
        show own_G p e below s (own_Q0 n0) 0 0 (s₁.setTop (mkF m 43 #[.val (.int x0), .val (.int x1), .val (.int md), .unset, .unset, .unset, .unset] []))
        refine own_go (fun t k => XS.iloadN X0.here hx rfl (hb hby at_43) rfl k) ?_
        show own_G p e below s (own_Q0 n0) 0 0 (s₁.setTop (mkF m 44 #[.val (.int x0), .val (.int x1), .val (.int md), .unset, .unset, .unset, .unset] [(.int x0)]))
        refine own_go (fun t k => XS.iconst X0.here hx rfl (hb hby at_44) k) ?_
        show own_G p e below s (own_Q0 n0) 0 0 (s₁.setTop (mkF m 45 #[.val (.int x0), .val (.int x1), .val (.int md), .unset, .unset, .unset, .unset] [(.int (1 : Int32)), (.int x0)]))
        refine own_go (fun t k => XS.iand X0.here hx rfl (hb hby at_45) rfl k) ?_
        show own_G p e below s (own_Q0 n0) 0 0 (s₁.setTop (mkF m 46 #[.val (.int x0), .val (.int x1), .val (.int md), .unset, .unset, .unset, .unset] [(.int (x0 &&& (1 : Int32)))]))
        by_cases h4 : (x0 &&& (1 : Int32)) = (0 : Int32)
        · skip
          refine own_go (fun t k => XS.ifNo X0.here hx rfl (hb hby at_46) rfl (XT.i0_ne_f h4) k) ?_
          show own_G p e below s (own_Q0 n0) 0 0 (s₁.setTop (mkF m 49 #[.val (.int x0), .val (.int x1), .val (.int md), .unset, .unset, .unset, .unset] []))
          refine own_go (X0.ldcInt hx hown (mvT hZ (hw _ (List.mem_of_getElem? (i := 0) rfl))) (g := (mkF m 49 #[.val (.int x0), .val (.int x1), .val (.int md), .unset, .unset, .unset, .unset] [])) rfl (hb hby at_49)) ?_
          show own_G p e below s (own_Q0 n0) 0 0 (s₁.setTop (mkF m 51 #[.val (.int x0), .val (.int x1), .val (.int md), .unset, .unset, .unset, .unset] [(.int (-2147483648 : Int32))]))
          refine own_go (fun t k => XS.goto X0.here hx rfl (pc0 := 51) (pc' := 56) rfl (hb hby at_51) (by decide) (by decide) k) ?_
          show own_G p e below s (own_Q0 n0) 0 0 (s₁.setTop (mkF m 56 #[.val (.int x0), .val (.int x1), .val (.int md), .unset, .unset, .unset, .unset] [(.int (-2147483648 : Int32))]))
          refine own_go (fun t k => XS.istoreN X0.here hx rfl (hb hby at_56) rfl (l' := #[.val (.int x0), .val (.int x1), .val (.int md), .val (.int (-2147483648 : Int32)), .unset, .unset, .unset]) rfl k) ?_
          show own_G p e below s (own_Q0 n0) 0 0 (s₁.setTop (mkF m 57 #[.val (.int x0), .val (.int x1), .val (.int md), .val (.int (-2147483648 : Int32)), .unset, .unset, .unset] []))
          exact J57 _
        · skip
          refine own_go (fun t k => XS.ifYes X0.here hx rfl (pc0 := 46) (pc' := 54) rfl (hb hby at_46) rfl (XT.i0_ne_t h4) (by decide) (by decide) k) ?_
          show own_G p e below s (own_Q0 n0) 0 0 (s₁.setTop (mkF m 54 #[.val (.int x0), .val (.int x1), .val (.int md), .unset, .unset, .unset, .unset] []))
          refine own_go (X0.ldcInt hx hown (mvT hZ (hw _ (List.mem_of_getElem? (i := 8) rfl))) (g := (mkF m 54 #[.val (.int x0), .val (.int x1), .val (.int md), .unset, .unset, .unset, .unset] [])) rfl (hb hby at_54)) ?_
          show own_G p e below s (own_Q0 n0) 0 0 (s₁.setTop (mkF m 56 #[.val (.int x0), .val (.int x1), .val (.int md), .unset, .unset, .unset, .unset] [(.int (2147483647 : Int32))]))
          refine own_go (fun t k => XS.istoreN X0.here hx rfl (hb hby at_56) rfl (l' := #[.val (.int x0), .val (.int x1), .val (.int md), .val (.int (2147483647 : Int32)), .unset, .unset, .unset]) rfl k) ?_
          show own_G p e below s (own_Q0 n0) 0 0 (s₁.setTop (mkF m 57 #[.val (.int x0), .val (.int x1), .val (.int md), .val (.int (2147483647 : Int32)), .unset, .unset, .unset] []))
          exact J57 _
set_option maxRecDepth 65536 in
set_option maxHeartbeats 40000000 in
theorem comes_1 {Post : Tables → Env → Array Value → State → Outcome → State → Prop} (hpost : ∀ tb e args s v u, (limb_1_1.after args s (.returned v) u = true ∧ limb_1_2.after args s (.returned v) u = true ∧ True) → FrameEnd s (.returned v) u (Jvm.fieldLocs frame_1_writes args s ++ Jvm.arrayLocs frame_1_arrays args s ++ Jvm.staticLocs frame_1_statics s) 0 0 → Post tb e args s (.returned v) u) :
    ArmFor flags0 classFile x code maxLocals ret World_1 tables_1 room_1 Calls_1 rest_1 Pre_1 Post := by
  intro l hfl _ _ p e ha hc hk s m args below hf hA hF happ hP
  obtain ⟨hcalls, hrest, hpre⟩ := hP
  obtain ⟨-, -, -, hnamed, -, -, -, hat⟩ := (Spec.applies_iff hf).mp happ
  obtain ⟨hg, hn⟩ := and_e (Cond.before_iff.mp (show (Jvm.Cond.and given_1 narrow_1).before args s = true from hpre))
  obtain ⟨h1, r0⟩ := and_e hg
  obtain ⟨k0, r1⟩ := and_e r0
  obtain ⟨w0, w1, rfl⟩ : ∃ w0 w1 : Value, args = #[w0, w1] := by
    have hs : args.size = 2 := by simpa [Cond.value, given_1] using h1
    obtain ⟨L⟩ := args
    match L, hs with
    | [w0, w1], _ => exact ⟨w0, w1, rfl⟩
  have hw := fun d (hd : d ∈ tables_1) => atoms_spec (ws := Jvm.Cond.code x code maxLocals ret :: tables_1) hat d (List.mem_cons_of_mem _ hd)
  obtain ⟨i0, e0⟩ := is_v k0
  obtain rfl : w0 = (.int i0) := Option.some.inj e0
  obtain ⟨i1, e1⟩ := is_v r1
  obtain rfl : w1 = (.int i1) := Option.some.inj e1
  obtain ⟨n, o, h1, h2, h3, _, L, rfl, ⟨rfl, N⟩, hq⟩ := rm0 l s _ hw tables_1 i0 i1 s.heap s.heap.size (Nat.le_refl _)  p e ha hc hk s m _ below hf ((Spec.applies_iff_loose hf).mp happ).1 ⟨rfl, State.Warmed39.refl s, rfl⟩ trivial
  refine ⟨n, _, h1, h2, h3, hpost _ _ _ _ _ _ ⟨Cond.after_iff.mpr rfl, Cond.after_iff.mpr (eq_i res_at (Term.int_eval (1)) rfl), trivial⟩ ⟨hq.1, hq.2.1, (hq.2.2.sift fun y hy => Or.inr (N y hy)).mono (by decide) (by decide)⟩⟩
theorem main_1_1 : Claimed_1_1 := comes_1 fun _ _ _ _ _ _ h hF => ⟨h.1, hF⟩
theorem main_1_2 : Claimed_1_2 := comes_1 fun _ _ _ _ _ _ h hF => ⟨h.2.1, hF⟩
end Jvm.Pilot.@@N@@
namespace Jvm.Pilot.@@N@@
open Jvm Jvm.ClassFile Sem Op Lib Jvm.Free Jvm.Stand Jvm.Pilot.@@N@@.Jvm.D
/-! MADE BY PROGRAM (witnessworld.py) out of the Statement's table words and the real class files: 7 classes; the members and pool entries that the words name. The judged class is class 1, her method 1. -/
namespace start1
open Jvm.ClassFile
def u (s : String) : CpInfo := .utf8 (stringToUtf16 s)
/-- a pool by its gaps: so many unusable entries, then the entry; so many at the end -/
def gap : Nat → List CpInfo → List CpInfo
  | 0, r => r
  | n + 1, r => .unusable :: gap n r
def poolList (es : List (Nat × CpInfo)) (last : Nat) : List CpInfo := es.foldr (fun e r => gap e.1 (e.2 :: r)) (gap last [])
def pool (es : List (Nat × CpInfo)) (last : Nat) : Array CpInfo := ⟨poolList es last⟩
def fileOf (pool : Array CpInfo) (this : Nat) (attrs : Array Attribute := #[]) (ms : Array MethodInfo := #[]) (fl : Nat := 33) (sup : Nat := 0) (ifs : Array Nat := #[]) (fds : Array FieldInfo := #[]) : ClassFile where
  minorVersion := 0
  majorVersion := 65
  constantPool := pool
  accessFlags := fl
  thisClass := this
  superClass := sup
  interfaces := ifs
  fields := fds
  methods := ms
  attributes := attrs
def plain (name : String) (sup : Option ClassId) : Class where
  name := name
  kind := .ordinary
  loader := none
  accessFlags := 33
  super := sup
  interfaces := #[]
  cf := none
  fields := #[]
  methods := #[]
  instanceTypes := #[]
  staticTypes := #[]
  resolved := #[]
  callSites := []
  init := .initialized
  statics := none
  mirror := none

def pool0 : Array CpInfo := pool [(5, u "<init>"), (0, u "()V"), (1, .class_ 10), (1, u "java/lang/Object")] 113

def k0m0 : Method := { name := "<init>", desc := "()V", sig := { parameters := [], returnType := none }, accessFlags := 1, code := none }
/-- java/lang/Object -/
def k0 : Class := { plain "java/lang/Object" none with
  accessFlags := 33
  interfaces := #[]
  cf := some (fileOf pool0 8 #[] #[{ accessFlags := 1, nameIndex := 5, descriptorIndex := 6, attributes := #[] }] 33 0 #[] #[])
  fields := #[]
  methods := #[k0m0]
  instanceTypes := #[]
  staticTypes := #[]
  resolved := Array.replicate 124 none
  statics := none }

def pool1 : Array CpInfo := pool [(2, .class_ 4), (1, u "java/lang/Object"), (0, u "<init>"), (0, u "()V"), (0, .integer 65532), (2, .integer 2147483648), (0, .integer 2147483647), (0, .integer 65535), (0, .methodref 14 15), (0, .class_ 16), (0, .nameAndType 17 18), (0, u "com/example/lean_executor/leanexecutor/RunningLimit"), (0, u "resolve"), (0, u "(I)I"), (0, .class_ 20), (0, u "com/example/lean_executor/leanexecutor/RunningLimitResolvePinLaw"), (2, u "law"), (0, u "(II)Z")] 3

def k1m0 : Method := { name := "<init>", desc := "()V", sig := { parameters := [], returnType := none }, accessFlags := 2, code := none }
def k1c1 : Code := { maxStack := 3, maxLocals := 7, code := code, exceptionTable := #[], attributes := #[] }
def k1m1 : Method := { name := "law", desc := "(II)Z", sig := { parameters := [.int, .int], returnType := some .boolean }, accessFlags := 9, code := some k1c1 }
/-- com/example/lean_executor/leanexecutor/RunningLimitResolvePinLaw -/
def k1 : Class := { plain "com/example/lean_executor/leanexecutor/RunningLimitResolvePinLaw" (some 0) with
  accessFlags := 49
  interfaces := #[]
  cf := some (fileOf pool1 19 #[] #[{ accessFlags := 2, nameIndex := 5, descriptorIndex := 6, attributes := #[] }, { accessFlags := 9, nameIndex := 23, descriptorIndex := 24, attributes := #[] }] 49 2 #[] #[])
  fields := #[]
  methods := #[k1m0, k1m1]
  instanceTypes := #[]
  staticTypes := #[]
  resolved := Array.replicate 28 none
  statics := none }

def pool2 : Array CpInfo := pool [(2, .class_ 4), (1, u "java/lang/Object"), (0, u "<init>"), (0, u "()V"), (0, .class_ 8), (0, u "com/example/lean_executor/leanexecutor/RunningLimit"), (0, .integer 65534), (0, u "DEFAULT"), (0, u "I"), (2, u "MIN"), (1, u "MAX"), (2, u "resolve"), (0, u "(I)I")] 3

def k2m0 : Method := { name := "<init>", desc := "()V", sig := { parameters := [], returnType := none }, accessFlags := 2, code := none }
def k2c1 : Code := { maxStack := 2, maxLocals := 2, code := prog_7_method_2_code, exceptionTable := #[], attributes := #[] }
def k2m1 : Method := { name := "resolve", desc := "(I)I", sig := { parameters := [.int], returnType := some .int }, accessFlags := 9, code := some k2c1 }
/-- com/example/lean_executor/leanexecutor/RunningLimit -/
def k2 : Class := { plain "com/example/lean_executor/leanexecutor/RunningLimit" (some 0) with
  accessFlags := 49
  interfaces := #[]
  cf := some (fileOf pool2 7 #[] #[{ accessFlags := 2, nameIndex := 5, descriptorIndex := 6, attributes := #[] }, { accessFlags := 9, nameIndex := 19, descriptorIndex := 20, attributes := #[] }] 49 2 #[] #[{ accessFlags := 25, nameIndex := 10, descriptorIndex := 11, attributes := #[] }, { accessFlags := 25, nameIndex := 14, descriptorIndex := 11, attributes := #[] }, { accessFlags := 25, nameIndex := 16, descriptorIndex := 11, attributes := #[] }])
  fields := #[{ name := "DEFAULT", type := .int, accessFlags := 25, slot := 0, constantValue := 0 }, { name := "MIN", type := .int, accessFlags := 25, slot := 1, constantValue := 0 }, { name := "MAX", type := .int, accessFlags := 25, slot := 2, constantValue := 0 }]
  methods := #[k2m0, k2m1]
  instanceTypes := #[]
  staticTypes := #[.int, .int, .int]
  resolved := Array.replicate 24 none
  statics := none }

def pool3 : Array CpInfo := pool [(1, u "java/lang/Cloneable"), (0, .class_ 1), (0, u "java/lang/Object"), (0, .class_ 3)] 3

/-- java/lang/Cloneable -/
def k3 : Class := { plain "java/lang/Cloneable" (some 0) with
  accessFlags := 1537
  interfaces := #[]
  cf := some (fileOf pool3 2 #[] #[] 1537 4 #[] #[])
  fields := #[]
  methods := #[]
  instanceTypes := #[]
  staticTypes := #[]
  resolved := Array.replicate 8 none
  statics := none }

def pool4 : Array CpInfo := pool [(1, u "java/io/Serializable"), (0, .class_ 1), (0, u "java/lang/Object"), (0, .class_ 3)] 3

/-- java/io/Serializable -/
def k4 : Class := { plain "java/io/Serializable" (some 0) with
  accessFlags := 1537
  interfaces := #[]
  cf := some (fileOf pool4 2 #[] #[] 1537 4 #[] #[])
  fields := #[]
  methods := #[]
  instanceTypes := #[]
  staticTypes := #[]
  resolved := Array.replicate 8 none
  statics := none }

/-- the primitive byte -/
def k5 : Class := { plain "byte" none with kind := .primitive 'B', accessFlags := 0x411 }
/-- [B -/
def k6 : Class := { plain "[B" (some 0) with kind := .array 5 .byte, interfaces := #[3, 4], accessFlags := 1041 }

def heap : Heap := #[]
def classes : Array Class := #[k0, k1, k2, k3, k4, k5, k6]
def interned : List (Array UInt16 × Addr) := []
def slotsUsed : Nat := 0
def theMethod : MethodId := ⟨1, 1⟩
def args0 : Array Value := #[.int 5, .int 3]
def aboutOver (below : List Frame) : State where
  vm := { classes := classes, interned := interned.toArray }
  heap := heap
  slotsUsed := slotsUsed
  threads := #[{ frames := .invoking theMethod args0 :: below }]
def below0 : List Frame := [.native { method := ⟨0, 0⟩, args := #[] }]
def about1 : State := aboutOver below0
def p0 : Program := .bare "" "" ""
def e0 : Env := launch0.env 0 0 0
theorem w_frames : about1.frames = Frame.invoking theMethod args0 :: below0 := rfl
set_option maxRecDepth 65536 in
theorem w_args : argsFit about1.vm theMethod args0 = true := by decide +kernel
set_option maxRecDepth 65536 in
theorem w_heap : heapFits about1 = true := by decide +kernel
set_option maxRecDepth 65536 in
theorem w_runnable : about1.curStatus? = some .runnable := by decide +kernel
set_option maxRecDepth 65536 in
theorem w_alone : about1.alone = true := by decide +kernel
set_option maxRecDepth 65536 in
theorem w_named : about1.methodNamed? x = some theMethod := by decide +kernel
set_option maxRecDepth 65536 in
theorem w_hears : about1.hears theMethod below0 = true := by decide +kernel
set_option maxRecDepth 65536 in
theorem w_ripe : about1.ripe theMethod args0 below0 = true := by decide +kernel
theorem w_running : about1.status = .running := rfl
set_option maxRecDepth 65536 in
theorem w_room : about1.hasRoom e0.platform room_1 = true :=
  launch0.hasRoom_least _ room_1 (by decide +kernel) (by decide +kernel) (by decide +kernel) (by decide +kernel) (by decide +kernel) (by decide +kernel)
theorem allAtoms_all (ts : List Jvm.Cond) (a : Array Jvm.Value) (st : Jvm.State) : (allAtoms ts).before a st = ts.all (fun c => c.before a st) := by
  induction ts with
  | nil => rfl
  | cons c t ih =>
    show (Jvm.Cond.and c (allAtoms t)).before a st = _
    rw [Jvm.Cond.before_and, ih, List.all_cons]
def words1 : List Jvm.Cond := Jvm.Cond.code x code maxLocals ret :: tables_1
/-- a 'code' word, met by the world's own term for the bytes: nothing is compared byte by byte -/
theorem code_word {y : MethodName} {bytes : ByteArray} {mx : Nat} {rt : Option FieldType} {a : Array Value} {s : State} {m : MethodId} {meth : Method} {c : Code} (h1 : s.methodNamed? y = some m) (h2 : s.vm.method? m = some meth) (h3 : meth.code = some c) (h4 : c.code = bytes)
    (h5 : (c.maxLocals == mx && c.exceptionTable.isEmpty && decide (c.maxStack ≤ mostOperands) && decide (meth.sig.returnType = rt) && !meth.locks && decide (parseMethodDescriptor y.desc = some meth.sig)) = true) : (Jvm.Cond.code y bytes mx rt).before a s = true := by
  simp only [Bool.and_eq_true, beq_iff_eq, Bool.not_eq_true', decide_eq_true_eq] at h5
  obtain ⟨⟨⟨⟨⟨g1, g2⟩, g3⟩, g4⟩, g5⟩, g6⟩ := h5
  simp [Cond.before, Cond.holds, Cond.value, h1, h2, h3, h4, g1, g2, g3, g4, g5, g6]
def isCode : Jvm.Cond → Bool
  | .code _ _ _ _ => true
  | _ => false
theorem all_split {L : List Jvm.Cond} {P : Jvm.Cond → Bool} (h1 : L.all (fun c => isCode c || P c) = true) (h2 : ∀ c ∈ L.filter isCode, P c = true) : L.all P = true := by
  refine List.all_eq_true.mpr fun c hc => ?_
  have h := List.all_eq_true.mp h1 c hc
  rcases Bool.eq_false_or_eq_true (isCode c) with hi | hi
  · exact h2 c (List.mem_filter.mpr ⟨hc, hi⟩)
  · simpa [hi] using h
set_option maxRecDepth 65536 in
theorem w_c0 : (Jvm.Cond.code x code maxLocals ret).before args0 about1 = true := code_word (m := ⟨1, 1⟩) (meth := k1m1) (c := k1c1) (by decide +kernel) rfl rfl rfl (by decide +kernel)
set_option maxRecDepth 65536 in
theorem w_c1 : (Jvm.Cond.code ({ cls := "com/example/lean_executor/leanexecutor/RunningLimit", name := "resolve", desc := "(I)I" } : Jvm.MethodName) prog_7_method_2_code (2 : Nat) (Option.some Jvm.ClassFile.FieldType.int)).before args0 about1 = true := code_word (m := ⟨2, 1⟩) (meth := k2m1) (c := k2c1) (by decide +kernel) rfl rfl rfl (by decide +kernel)
def codes1 : List Jvm.Cond := [Jvm.Cond.code x code maxLocals ret, Jvm.Cond.code ({ cls := "com/example/lean_executor/leanexecutor/RunningLimit", name := "resolve", desc := "(I)I" } : Jvm.MethodName) prog_7_method_2_code (2 : Nat) (Option.some Jvm.ClassFile.FieldType.int)]
set_option maxRecDepth 65536 in
theorem codes_eq : words1.filter isCode = codes1 := rfl
theorem w_codes : ∀ c ∈ words1.filter isCode, c.before args0 about1 = true := by
  rw [codes_eq]
  intro c hc
  simp only [codes1, List.mem_cons, List.not_mem_nil, or_false] at hc
  rcases hc with rfl | rfl
  · exact w_c0
  · exact w_c1
set_option maxRecDepth 65536 in
theorem w_t1 : words1.all (fun c => isCode c || c.before args0 about1) = true := by decide +kernel
theorem w_tables : (allAtoms (Jvm.Cond.code x code maxLocals ret :: tables_1)).before args0 about1 = true := by
  rw [allAtoms_all]
  show words1.all (fun c => c.before args0 about1) = true
  refine all_split ?_ w_codes
  rw [w_t1]
set_option maxRecDepth 65536 in
theorem w_case : (Jvm.Cond.and given_1 narrow_1).before args0 about1 = true := by decide +kernel
theorem w_applies : (headSpec (Jvm.Cond.code x code maxLocals ret :: tables_1) room_1).applies x e0.platform about1 = true :=
  (Spec.applies_iff w_frames).mpr ⟨w_running, w_runnable, w_alone, w_named, w_hears, w_ripe, w_room, w_tables⟩
theorem atStart : AtStart classFile x code maxLocals ret World_1 tables_1 room_1 Calls_1 rest_1 Pre_1 launch0 p0 e0 about1 theMethod args0 below0 :=
  ⟨lists_1, trivial, launch0.admits_env _ _ _, launch0.least_env, fairChoices_fair.cas, fairChoices_fair.clock, w_frames, w_args, w_heap, w_applies, trivial, trivial, w_case⟩
end start1
theorem witness_1 : WitnessClaimed_1 := ⟨start1.p0, start1.e0, start1.about1, start1.theMethod, start1.args0, start1.below0, start1.atStart⟩
end Jvm.Pilot.@@N@@
