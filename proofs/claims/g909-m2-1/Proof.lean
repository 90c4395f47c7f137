import JvmDerived
import JvmDerived.Pilot.@@N@@Statement
import JvmDerived.Pilot.@@N@@Code
set_option linter.unusedVariables false
set_option linter.unusedSimpArgs false
namespace Jvm.RoadKit
open Sem ClassFile Op Lib Jvm.Stand Jvm.Free Jvm.LawKit
section New
variable {p : Program} {l : Launch} {e : Env} {R : Room} {s : State} {m : MethodId} {args : Array Value} {below : List Frame} {meth : Method} {c : Code} {T : State} {locs : List Loc} {cells slots : Nat}
theorem retI (X : Stand p l e R s m args below meth c T locs cells slots) (hx : p.tables.exec = Jvm.exec) {pc : Nat} {Ls : Array Slot} {z : Int32} {rest : List Value} (hret : meth.sig.returnType = some .int) (hd : decode c.code pc = .ok (.ireturn, 1)) {fs : List Frame}
    (hl : ∀ (f : JFrame) (acts : List Action), f.method = m → f.locked = none → f.entered = [] → (doReturn e (T.setTop f) acts (some (.int z))).1 = T.setFrames fs) : Steps p.tables e below (T.setTop (mkF m pc Ls (.int z :: rest))) (T.setFrames fs) := by
  have hm' : T.vm.method? m = some meth := X.method'
  have hn : narrow .int (.int z) = .int z := rfl
  show Steps p.tables e below (T.setTop { method := m, pc := pc, locals := Ls, stack := _ :: rest, locked := none }) _
  jvm_step X.here [X.here.top, hx, hd, hm', hret, hn]
  first | (intro acts; rw [hl _ acts rfl rfl rfl]) | rw [hl _ _ rfl rfl rfl]
  exact Steps.refl _
end New
end Jvm.RoadKit
namespace Jvm.Pilot.@@N@@
open Jvm Jvm.ClassFile Sem Op Lib Jvm.Free Jvm.Stand Jvm.LawKit Jvm.RoadKit Bundle Jvm.Pilot.@@N@@.Jvm.D
/-- what a walk that stands at A still owes -/
def own_G (p : Program) (e : Env) (below : List Frame) (s : State) (Q : Option Value → Heap → List Loc → Prop) (rc rs : Nat) (A : State) : Prop :=
  ∃ s₂ o, Steps p.tables e below A s₂ ∧ s₂.status = .running ∧ Ended s₂ below o ∧ ∃ v L, o = .returned v ∧ Q v s₂.heap L ∧ FrameEnd s o s₂ L rc rs
theorem own_go {p : Program} {e : Env} {below : List Frame} {s : State} {Q : Option Value → Heap → List Loc → Prop} {rc rs : Nat} {A B : State} (st : ∀ t, Steps p.tables e below B t → Steps p.tables e below A t) (k : own_G p e below s Q rc rs B) : own_G p e below s Q rc rs A := by
  obtain ⟨s₂, o, h, r⟩ := k
  exact ⟨s₂, o, st _ h, r⟩
theorem own_leave {p : Program} {l : Launch} {e : Env} {R : Room} {s : State} {m : MethodId} {args : Array Value} {below : List Frame} {meth : Method} {c : Code} {T : State} {locs : List Loc} {cells slots : Nat} {Q : Option Value → Heap → List Loc → Prop} {rc rs : Nat} {g : JFrame} (X : Stand p l e R s m args below meth c T locs cells slots) (v : Option Value) (hv : meth.sig.returnType = none → v = none) (hlk : meth.locks = false)
    (st : ∀ fs, (∀ (f : JFrame) (acts : List Action), f.method = m → f.locked = none → f.entered = [] → (doReturn e (T.setTop f) acts v).1 = T.setFrames fs) → Steps p.tables e below (T.setTop g) (T.setFrames fs)) (hQ : Q v T.heap locs) (hc : cells ≤ rc) (hs : slots ≤ rs) : own_G p e below s Q rc rs (T.setTop g) := by
  obtain ⟨fs, hr, hrun, hended, hW, hsame⟩ := X.leave (v := v) hv hlk
  exact ⟨_, _, st fs hr, hrun, hended, _, _, rfl, hQ, ⟨_, rfl⟩, hW, hsame.mono hc hs⟩
def own_max (a b : Int32) : Int32 := if a < b then b else a
/-- what pages answers -/
def own_pages (r : Int64) (z : Int32) : Int64 := if r = 0 then 0 else (r - 1) / z.toInt64 + 1
theorem own_size_pos (s : Int32) : 1 ≤ (own_max 1 (s &&& (2147483647 : Int32))).toInt := by
  have z1 : (1 : Int32).toInt = 1 := by decide
  by_cases h : (1 : Int32) < (s &&& (2147483647 : Int32))
  · rw [show own_max 1 (s &&& (2147483647 : Int32)) = (s &&& (2147483647 : Int32)) from if_pos h]
    rw [Int32.lt_iff_toInt_lt] at h; omega
  · rw [show own_max 1 (s &&& (2147483647 : Int32)) = 1 from if_neg h]; decide
theorem own_rows_nn (r : Int64) : 0 ≤ (r &&& (9223372036854775807 : Int64)).toInt := by
  have e1 : (9223372036854775807 : Int64).toBitVec.toNat = 9223372036854775807 := by decide
  have h1 : (r &&& (9223372036854775807 : Int64)).toBitVec.toNat ≤ 9223372036854775807 := by
    rw [Int64.toBitVec_and, BitVec.toNat_and, e1]; exact Nat.and_le_right
  show 0 ≤ (r &&& (9223372036854775807 : Int64)).toBitVec.toInt
  rw [BitVec.toInt_eq_toNat_cond]
  split <;> omega
theorem own_i64_div {x y : Int64} (hx : 0 ≤ x.toInt) (hy : 1 ≤ y.toInt) : (x / y).toInt = x.toInt / y.toInt := by
  have b1 := x.toInt_lt
  rw [Int64.toInt_div]
  rw [Int.tdiv_eq_ediv_of_nonneg hx]
  have h1 : 0 ≤ x.toInt / y.toInt := Int.ediv_nonneg hx (by omega)
  have h2 : x.toInt / y.toInt ≤ x.toInt := Int.ediv_le_self _ hx
  exact Int.bmod_eq_of_le (by omega) (by omega)
theorem own_i64_add {x y : Int64} (h1 : -(2 ^ 63) ≤ x.toInt + y.toInt) (h2 : x.toInt + y.toInt < 2 ^ 63) : (x + y).toInt = x.toInt + y.toInt := by
  rw [Int64.toInt_add]; exact Int.bmod_eq_of_le (by omega) (by omega)
theorem own_i64_sub {x y : Int64} (h1 : -(2 ^ 63) ≤ x.toInt - y.toInt) (h2 : x.toInt - y.toInt < 2 ^ 63) : (x - y).toInt = x.toInt - y.toInt := by
  rw [Int64.toInt_sub]; exact Int.bmod_eq_of_le (by omega) (by omega)
theorem own_i64_mul {x y : Int64} (h1 : -(2 ^ 63) ≤ x.toInt * y.toInt) (h2 : x.toInt * y.toInt < 2 ^ 63) : (x * y).toInt = x.toInt * y.toInt := by
  rw [Int64.toInt_mul]; exact Int.bmod_eq_of_le (by omega) (by omega)
theorem own_rem {x y : Int64} (hx : 0 ≤ x.toInt) (hy : 1 ≤ y.toInt) : (x - (x / y) * y).toInt = x.toInt % y.toInt := by
  have b1 := x.toInt_lt
  have d := own_i64_div hx hy
  have m1 := Int.emod_nonneg x.toInt (b := y.toInt) (by omega)
  have m2 := Int.mul_ediv_add_emod x.toInt y.toInt
  have m3 : x.toInt / y.toInt * y.toInt = y.toInt * (x.toInt / y.toInt) := Int.mul_comm _ _
  have q : ((x / y) * y).toInt = x.toInt / y.toInt * y.toInt := by
    rw [own_i64_mul, d]
    · rw [d]
      have : 0 ≤ x.toInt / y.toInt * y.toInt := Int.mul_nonneg (Int.ediv_nonneg hx (by omega)) (by omega)
      omega
    · rw [d]; omega
  have q2 : 0 ≤ x.toInt / y.toInt * y.toInt := Int.mul_nonneg (Int.ediv_nonneg hx (by omega)) (by omega)
  rw [own_i64_sub, q]
  · omega
  · rw [q]; omega
  · rw [q]; omega
theorem own_pages_val {r : Int64} {z : Int32} (hr : 0 ≤ r.toInt) (hz : 1 ≤ z.toInt) (h : ¬ r = 0) : ((r - 1) / z.toInt64 + 1).toInt = (r.toInt - 1) / z.toInt + 1 := by
  have b1 := r.toInt_lt
  have o1 : (1 : Int64).toInt = 1 := by decide
  have o0 : (0 : Int64).toInt = 0 := by decide
  rw [← Int64.toInt_inj, o0] at h
  have zz : z.toInt64.toInt = z.toInt := Int32.toInt_toInt64 z
  have s1 : (r - 1).toInt = r.toInt - 1 := by rw [own_i64_sub, o1] <;> rw [o1] <;> omega
  have d : ((r - 1) / z.toInt64).toInt = (r.toInt - 1) / z.toInt := by rw [own_i64_div (by omega) (by omega), s1, zz]
  have h1 : 0 ≤ (r.toInt - 1) / z.toInt := Int.ediv_nonneg (by omega) (by omega)
  have h2 : (r.toInt - 1) / z.toInt ≤ r.toInt - 1 := Int.ediv_le_self _ (by omega)
  rw [own_i64_add, d, o1] <;> rw [d, o1] <;> omega
theorem own_pages_0 {r : Int64} {z : Int32} (hr : 0 ≤ r.toInt) (hz : 1 ≤ z.toInt) (h : (r - (r / z.toInt64) * z.toInt64) = (0 : Int64)) : own_pages r z = r / z.toInt64 := by
  have o0 : (0 : Int64).toInt = 0 := by decide
  have zz : z.toInt64.toInt = z.toInt := Int32.toInt_toInt64 z
  have hm : r.toInt % z.toInt = 0 := by
    have := own_rem (x := r) (y := z.toInt64) hr (by omega)
    rw [h, o0, zz] at this; exact this.symm
  have dq : (r / z.toInt64).toInt = r.toInt / z.toInt := by rw [own_i64_div hr (by omega), zz]
  apply Int64.toInt_inj.mp
  rw [dq]
  by_cases h0 : r = 0
  · rw [show own_pages r z = 0 from if_pos h0, h0, o0]; simp
  · rw [show own_pages r z = (r - 1) / z.toInt64 + 1 from if_neg h0, own_pages_val hr hz h0]
    rw [← Int64.toInt_inj, o0] at h0
    have e := Int.mul_ediv_add_emod r.toInt z.toInt
    rw [hm, Int.add_zero] at e
    generalize r.toInt / z.toInt = q at *
    have e2 : r.toInt - 1 = (z.toInt - 1) + z.toInt * (q - 1) := by rw [Int.mul_sub, e]; omega
    rw [e2, Int.add_mul_ediv_left _ _ (by omega), Int.ediv_eq_zero_of_lt (by omega) (by omega)]; omega
theorem own_pages_1 {r : Int64} {z : Int32} (hr : 0 ≤ r.toInt) (hz : 1 ≤ z.toInt) (h : ¬ (r - (r / z.toInt64) * z.toInt64) = (0 : Int64)) : own_pages r z = r / z.toInt64 + 1 := by
  have b1 := r.toInt_lt
  have o0 : (0 : Int64).toInt = 0 := by decide
  have o1 : (1 : Int64).toInt = 1 := by decide
  have zz : z.toInt64.toInt = z.toInt := Int32.toInt_toInt64 z
  have hm : ¬ r.toInt % z.toInt = 0 := by
    have := own_rem (x := r) (y := z.toInt64) hr (by omega)
    rw [← Int64.toInt_inj, this, o0, zz] at h; exact h
  have dq : (r / z.toInt64).toInt = r.toInt / z.toInt := by rw [own_i64_div hr (by omega), zz]
  have q1 : 0 ≤ r.toInt / z.toInt := Int.ediv_nonneg hr (by omega)
  have q2 : r.toInt / z.toInt ≤ r.toInt := Int.ediv_le_self _ hr
  have h0 : ¬ r = 0 := fun q => hm (by rw [q, o0]; simp)
  have m1 := Int.emod_nonneg r.toInt (b := z.toInt) (by omega)
  have m2 := Int.emod_lt_of_pos r.toInt (b := z.toInt) (by omega)
  have e := Int.mul_ediv_add_emod r.toInt z.toInt
  have lt : r.toInt / z.toInt + 1 < 2 ^ 63 := by
    have h5 : r.toInt / z.toInt ≤ r.toInt := q2
    have h6 : 1 * (r.toInt / z.toInt) ≤ z.toInt * (r.toInt / z.toInt) := Int.mul_le_mul_of_nonneg_right hz q1
    omega
  apply Int64.toInt_inj.mp
  rw [show own_pages r z = (r - 1) / z.toInt64 + 1 from if_neg h0, own_pages_val hr hz h0]
  rw [own_i64_add (by rw [dq, o1]; omega) (by rw [dq, o1]; exact lt), dq, o1]
  generalize r.toInt / z.toInt = q at *
  generalize r.toInt % z.toInt = t at *
  have e2 : r.toInt - 1 = (t - 1) + z.toInt * q := by omega
  rw [e2, Int.add_mul_ediv_left _ _ (by omega), Int.ediv_eq_zero_of_lt (by omega) (by omega)]; omega
theorem d1_0 : decode jdk_29_method_65_code 0 = .ok (.iload_n 0, 1) := by decide +kernel
theorem d1_1 : decode jdk_29_method_65_code 1 = .ok (.iload_n 1, 1) := by decide +kernel
theorem d1_2 : decode jdk_29_method_65_code 2 = .ok (.if_icmp .lt 7, 3) := by decide +kernel
theorem d1_5 : decode jdk_29_method_65_code 5 = .ok (.iload_n 0, 1) := by decide +kernel
theorem d1_6 : decode jdk_29_method_65_code 6 = .ok (.goto 4, 3) := by decide +kernel
theorem d1_9 : decode jdk_29_method_65_code 9 = .ok (.iload_n 1, 1) := by decide +kernel
theorem d1_10 : decode jdk_29_method_65_code 10 = .ok (.ireturn, 1) := by decide +kernel
theorem d2_0 : decode prog_79_method_1_code 0 = .ok (.aload_n 0, 1) := by decide +kernel
theorem d2_1 : decode prog_79_method_1_code 1 = .ok (.invokespecial 1, 3) := by decide +kernel
theorem d2_4 : decode prog_79_method_1_code 4 = .ok (.lload_n 1, 1) := by decide +kernel
theorem d2_5 : decode prog_79_method_1_code 5 = .ok (.lconst 0, 1) := by decide +kernel
theorem d2_6 : decode prog_79_method_1_code 6 = .ok (.lcmp, 1) := by decide +kernel
theorem d2_7 : decode prog_79_method_1_code 7 = .ok (.ifCond .ge 17, 3) := by decide +kernel
theorem d2_24 : decode prog_79_method_1_code 24 = .ok (.aload_n 0, 1) := by decide +kernel
theorem d2_25 : decode prog_79_method_1_code 25 = .ok (.lload_n 1, 1) := by decide +kernel
theorem d2_26 : decode prog_79_method_1_code 26 = .ok (.putfield 16, 3) := by decide +kernel
theorem d2_29 : decode prog_79_method_1_code 29 = .ok (.return_, 1) := by decide +kernel
theorem d3_0 : decode jdk_30_method_1_code 0 = .ok (.aload_n 0, 1) := by decide +kernel
theorem d3_1 : decode jdk_30_method_1_code 1 = .ok (.invokespecial 1, 3) := by decide +kernel
theorem d3_4 : decode jdk_30_method_1_code 4 = .ok (.return_, 1) := by decide +kernel
theorem d5_0 : decode prog_79_method_2_code 0 = .ok (.iload_n 1, 1) := by decide +kernel
theorem d5_1 : decode prog_79_method_2_code 1 = .ok (.invokestatic 22, 3) := by decide +kernel
theorem d5_4 : decode prog_79_method_2_code 4 = .ok (.aload_n 0, 1) := by decide +kernel
theorem d5_5 : decode prog_79_method_2_code 5 = .ok (.getfield 16, 3) := by decide +kernel
theorem d5_8 : decode prog_79_method_2_code 8 = .ok (.lconst 0, 1) := by decide +kernel
theorem d5_9 : decode prog_79_method_2_code 9 = .ok (.lcmp, 1) := by decide +kernel
theorem d5_10 : decode prog_79_method_2_code 10 = .ok (.ifCond .ne 7, 3) := by decide +kernel
theorem d5_13 : decode prog_79_method_2_code 13 = .ok (.lconst 0, 1) := by decide +kernel
theorem d5_14 : decode prog_79_method_2_code 14 = .ok (.goto 14, 3) := by decide +kernel
theorem d5_17 : decode prog_79_method_2_code 17 = .ok (.aload_n 0, 1) := by decide +kernel
theorem d5_18 : decode prog_79_method_2_code 18 = .ok (.getfield 16, 3) := by decide +kernel
theorem d5_21 : decode prog_79_method_2_code 21 = .ok (.lconst 1, 1) := by decide +kernel
theorem d5_22 : decode prog_79_method_2_code 22 = .ok (.lsub, 1) := by decide +kernel
theorem d5_23 : decode prog_79_method_2_code 23 = .ok (.iload_n 1, 1) := by decide +kernel
theorem d5_24 : decode prog_79_method_2_code 24 = .ok (.i2l, 1) := by decide +kernel
theorem d5_25 : decode prog_79_method_2_code 25 = .ok (.ldiv, 1) := by decide +kernel
theorem d5_26 : decode prog_79_method_2_code 26 = .ok (.lconst 1, 1) := by decide +kernel
theorem d5_27 : decode prog_79_method_2_code 27 = .ok (.ladd, 1) := by decide +kernel
theorem d5_28 : decode prog_79_method_2_code 28 = .ok (.lreturn, 1) := by decide +kernel
theorem d6_0 : decode prog_40_method_2_code 0 = .ok (.iload_n 0, 1) := by decide +kernel
theorem d6_1 : decode prog_40_method_2_code 1 = .ok (.iconst 1, 1) := by decide +kernel
theorem d6_2 : decode prog_40_method_2_code 2 = .ok (.if_icmp .ge 17, 3) := by decide +kernel
theorem d6_19 : decode prog_40_method_2_code 19 = .ok (.return_, 1) := by decide +kernel
theorem d7_0 : decode prog_79_method_6_code 0 = .ok (.aload_n 0, 1) := by decide +kernel
theorem d7_1 : decode prog_79_method_6_code 1 = .ok (.getfield 16, 3) := by decide +kernel
theorem d7_4 : decode prog_79_method_6_code 4 = .ok (.lreturn, 1) := by decide +kernel
theorem pf1 : plainFor (⟨"java/lang/Math", "max", "(II)I"⟩ : MethodName) = true := by decide +kernel
theorem pd1 : parseMethodDescriptor "(II)I" = some ⟨[.int, .int], some .int⟩ := by decide +kernel
theorem ef1 (m : MethodId) (x0 : Int32) (x1 : Int32) : entryFrame m #[(.int x0), (.int x1)] 2 = mkF m 0 #[.val (.int x0), .val (.int x1)] [] := by first | (simp [entryFrame, mkF, argsToLocals, Value.category]; done) | rfl
def own_Q1 (a1 b1 : Int32) (h0 : Heap) (v : Option Value) (h : Heap) (L : List Loc) : Prop := v = some (.int (own_max a1 b1)) ∧ L = [] ∧ h = h0
set_option maxRecDepth 65536 in
set_option maxHeartbeats 40000000 in
theorem rm1 (l : Launch) (Z : State) (a0 : Array Value) (hw : ∀ d ∈ tables_1, d.before a0 Z = true) (ws : List Jvm.Cond) (a1 b1 : Int32) (h0 : Heap) :
    MetFree l (⟨"java/lang/Math", "max", "(II)I"⟩ : MethodName) (head1 (Jvm.Cond.code (⟨"java/lang/Math", "max", "(II)I"⟩ : MethodName) jdk_29_method_65_code 2 (some .int) :: ws) ({ frames := 0, cells := 0, slots := 0, locals := 0 } : Room)) (fun a U => a = #[(.int a1), (.int b1)] ∧ Z.Warmed39 U.vm ∧ U.heap = h0) (fun _ _ _ _ _ => True) (fun _ U o U' => ∃ v L, o = .returned v ∧ own_Q1 a1 b1 h0 v U'.heap L ∧ FrameEnd U o U' L ({ frames := 0, cells := 0, slots := 0, locals := 0 } : Room).cells ({ frames := 0, cells := 0, slots := 0, locals := 0 } : Room).slots) := by
  refine MetFree.of_bodySF pf1 hisR ?_
  intro p e s m args below meth c s₁ Bd hml0 hP hK
  obtain ⟨rfl, hZ, hh⟩ := hP
  have hx := Bd.exec
  have hby := Bd.bytes
  have hml : c.maxLocals = 2 := hml0
  have hown : s.vm.findClass "java/lang/Math" = some m.cls := findClass_of_methodNamed Bd.named
  have hnm := (name_of_methodNamed Bd.named Bd.method).1
  have X0 : Stand p l e ({ frames := 0, cells := 0, slots := 0, locals := 0 } : Room) s m #[(.int a1), (.int b1)] below meth c s₁ [] 0 0 := Stand.of_body Bd
  have e0 : s₁.heap = h0 := by rw [← hh, Bd.state]; rfl
  refine (show own_G p e below s (own_Q1 a1 b1 h0) 0 0 (s₁.setTop (entryFrame m #[(.int a1), (.int b1)] 2)) → _ from fun k => k) ?_
  refine own_go (fun t k => castTop (ef1 m a1 b1) k) ?_
  show own_G p e below s (own_Q1 a1 b1 h0) 0 0 (s₁.setTop (mkF m 0 #[.val (.int a1), .val (.int b1)] []))
  refine own_go (fun t k => XS.iloadN X0.here hx rfl (hb hby d1_0) rfl k) ?_
  show own_G p e below s (own_Q1 a1 b1 h0) 0 0 (s₁.setTop (mkF m 1 #[.val (.int a1), .val (.int b1)] [(.int a1)]))
  refine own_go (fun t k => XS.iloadN X0.here hx rfl (hb hby d1_1) rfl k) ?_
  show own_G p e below s (own_Q1 a1 b1 h0) 0 0 (s₁.setTop (mkF m 2 #[.val (.int a1), .val (.int b1)] [(.int b1), (.int a1)]))
  by_cases h1 : a1 < b1
  · skip
    refine own_go (fun t k => XS.icmpYes X0.here hx rfl (pc0 := 2) (pc' := 9) rfl (hb hby d1_2) rfl (XT.ii_lt_t h1) (by decide) (by decide) k) ?_
    show own_G p e below s (own_Q1 a1 b1 h0) 0 0 (s₁.setTop (mkF m 9 #[.val (.int a1), .val (.int b1)] []))
    refine own_go (fun t k => XS.iloadN X0.here hx rfl (hb hby d1_9) rfl k) ?_
    show own_G p e below s (own_Q1 a1 b1 h0) 0 0 (s₁.setTop (mkF m 10 #[.val (.int a1), .val (.int b1)] [(.int b1)]))
    exact own_leave X0 (some (.int b1)) (fun h => by rw [Bd.returns] at h; cases h) Bd.notSynchronized (fun fs hr => retI X0 hx Bd.returns (hb hby d1_10) hr) ⟨congrArg (fun z => some (Value.int z)) (if_pos h1).symm, rfl, e0⟩ (by decide) (by decide)
  · skip
    refine own_go (fun t k => XS.icmpNo X0.here hx rfl (hb hby d1_2) rfl (XT.ii_lt_f h1) k) ?_
    show own_G p e below s (own_Q1 a1 b1 h0) 0 0 (s₁.setTop (mkF m 5 #[.val (.int a1), .val (.int b1)] []))
    refine own_go (fun t k => XS.iloadN X0.here hx rfl (hb hby d1_5) rfl k) ?_
    show own_G p e below s (own_Q1 a1 b1 h0) 0 0 (s₁.setTop (mkF m 6 #[.val (.int a1), .val (.int b1)] [(.int a1)]))
    refine own_go (fun t k => XS.goto X0.here hx rfl (pc0 := 6) (pc' := 10) rfl (hb hby d1_6) (by decide) (by decide) k) ?_
    show own_G p e below s (own_Q1 a1 b1 h0) 0 0 (s₁.setTop (mkF m 10 #[.val (.int a1), .val (.int b1)] [(.int a1)]))
    exact own_leave X0 (some (.int a1)) (fun h => by rw [Bd.returns] at h; cases h) Bd.notSynchronized (fun fs hr => retI X0 hx Bd.returns (hb hby d1_10) hr) ⟨congrArg (fun z => some (Value.int z)) (if_neg h1).symm, rfl, e0⟩ (by decide) (by decide)
theorem pf3 : plainFor (⟨"java/lang/Record", "<init>", "()V"⟩ : MethodName) = true := by decide +kernel
theorem pd3 : parseMethodDescriptor "()V" = some ⟨[], none⟩ := by decide +kernel
theorem ef3 (m : MethodId) (x0 : Addr) : entryFrame m #[(.ref x0)] 1 = mkF m 0 #[.val (.ref x0)] [] := by first | (simp [entryFrame, mkF, argsToLocals, Value.category]; done) | rfl
def own_Q3 (h0 : Heap) (v : Option Value) (h : Heap) (L : List Loc) : Prop := v = none ∧ L = [] ∧ h = h0
set_option maxRecDepth 65536 in
set_option maxHeartbeats 40000000 in
theorem rm3 (l : Launch) (Z : State) (a0 : Array Value) (hw : ∀ d ∈ tables_1, d.before a0 Z = true) (ws : List Jvm.Cond) (a1 : Addr) (h0 : Heap) :
    MetFree l (⟨"java/lang/Record", "<init>", "()V"⟩ : MethodName) (head1 (Jvm.Cond.code (⟨"java/lang/Record", "<init>", "()V"⟩ : MethodName) jdk_30_method_1_code 1 none :: ws) ({ frames := 1, cells := 0, slots := 0, locals := 12 } : Room)) (fun a U => a = #[(.ref a1)] ∧ Z.Warmed39 U.vm ∧ U.heap = h0) (fun _ _ _ _ _ => True) (fun _ U o U' => ∃ v L, o = .returned v ∧ own_Q3 h0 v U'.heap L ∧ FrameEnd U o U' L ({ frames := 1, cells := 0, slots := 0, locals := 12 } : Room).cells ({ frames := 1, cells := 0, slots := 0, locals := 12 } : Room).slots) := by
  refine MetFree.of_bodySF pf3 hisR ?_
  intro p e s m args below meth c s₁ Bd hml0 hP hK
  obtain ⟨rfl, hZ, hh⟩ := hP
  have hx := Bd.exec
  have hby := Bd.bytes
  have hml : c.maxLocals = 1 := hml0
  have hown : s.vm.findClass "java/lang/Record" = some m.cls := findClass_of_methodNamed Bd.named
  have hnm := (name_of_methodNamed Bd.named Bd.method).1
  have X0 : Stand p l e ({ frames := 1, cells := 0, slots := 0, locals := 12 } : Room) s m #[(.ref a1)] below meth c s₁ [] 0 0 := Stand.of_body Bd
  have e0 : s₁.heap = h0 := by rw [← hh, Bd.state]; rfl
  refine (show own_G p e below s (own_Q3 h0) 0 0 (s₁.setTop (entryFrame m #[(.ref a1)] 1)) → _ from fun k => k) ?_
  refine own_go (fun t k => castTop (ef3 m a1) k) ?_
  show own_G p e below s (own_Q3 h0) 0 0 (s₁.setTop (mkF m 0 #[.val (.ref a1)] []))
  refine own_go (fun t k => XS.aloadN X0.here hx rfl (hb hby d3_0) rfl rfl k) ?_
  show own_G p e below s (own_Q3 h0) 0 0 (s₁.setTop (mkF m 1 #[.val (.ref a1)] [(.ref a1)]))
  obtain ⟨T101, X101, e101, st101⟩ := initO X0 hx hZ hown (hw _ (List.mem_of_getElem? (i := 17) rfl)) (hw _ (List.mem_of_getElem? (i := 18) rfl)) (hw _ (List.mem_of_getElem? (i := 19) rfl)) e0 (g := (mkF m 1 #[.val (.ref a1)] [(.ref a1)])) rfl (by rw [hml]; rfl) rfl (hb hby d3_1) (by decide) (W := 0) (by show 2 * 0 + _ ≤ _; exact Nat.le_of_eq rfl) (by decide)
  refine own_go st101 ?_
  show own_G p e below s (own_Q3 h0) 0 0 (T101.setTop (mkF m 4 #[.val (.ref a1)] []))
  exact own_leave X101 none (fun _ => rfl) Bd.notSynchronized (fun fs hr => X101.returnOut hx Bd.returns (hb hby d3_4) hr) ⟨rfl, rfl, e101⟩ (by decide) (by decide)
theorem pn2 : plainName "com/example/pagetools/pagetools/Total" = true := by first | (simp [plainName, overriddenIn]; done) | decide +kernel
theorem pd2 : parseMethodDescriptor "(J)V" = some ⟨[.long], none⟩ := by decide +kernel
theorem ef2 (m : MethodId) (x0 : Addr) (x1 : Int64) : entryFrame m #[(.ref x0), (.long x1)] 3 = mkF m 0 #[.val (.ref x0), .val (.long x1), .second] [] := by first | (simp [entryFrame, mkF, argsToLocals, Value.category]; done) | rfl
def own_Q2 (Z : State) (a1 : Addr) (r1 : Int64) (h0 : Heap) (n0 : Nat) (v : Option Value) (h : Heap) (L : List Loc) : Prop := v = none ∧ Fr n0 L ∧ Keep h0 h [a1] ∧ Exa Z h a1 "com/example/pagetools/pagetools/Total" ∧ Fld Z h a1 "com/example/pagetools/pagetools/Total" "rows" "J" (.long r1)
set_option maxRecDepth 65536 in
set_option maxHeartbeats 40000000 in
theorem rm2 (l : Launch) (Z : State) (a0 : Array Value) (hw : ∀ d ∈ tables_1, d.before a0 Z = true) (ws : List Jvm.Cond) (a1 : Addr) (r1 : Int64) (h0 : Heap) (n0 : Nat) (Z0 : n0 ≤ h0.size) (F0 : Fld Z h0 a1 "com/example/pagetools/pagetools/Total" "rows" "J" (.long (0 : Int64))) (E0 : Exa Z h0 a1 "com/example/pagetools/pagetools/Total") (g0 : n0 ≤ a1) (hr : ¬ r1 < (0 : Int64)) :
    MetFree l (⟨"com/example/pagetools/pagetools/Total", "<init>", "(J)V"⟩ : MethodName) (head1 (Jvm.Cond.code (⟨"com/example/pagetools/pagetools/Total", "<init>", "(J)V"⟩ : MethodName) prog_79_method_1_code 3 none :: ws) ({ frames := 2, cells := 0, slots := 0, locals := 24 } : Room)) (fun a U => a = #[(.ref a1), (.long r1)] ∧ Z.Warmed39 U.vm ∧ U.heap = h0) (fun _ _ _ _ _ => True) (fun _ U o U' => ∃ v L, o = .returned v ∧ own_Q2 Z a1 r1 h0 n0 v U'.heap L ∧ FrameEnd U o U' L ({ frames := 2, cells := 0, slots := 0, locals := 24 } : Room).cells ({ frames := 2, cells := 0, slots := 0, locals := 24 } : Room).slots) := by
  refine MetFree.of_bodySF (plainFor_of_name pn2) hisR ?_
  intro p e s m args below meth c s₁ Bd hml0 hP hK
  obtain ⟨rfl, hZ, hh⟩ := hP
  have hx := Bd.exec
  have hby := Bd.bytes
  have hml : c.maxLocals = 3 := hml0
  have hown : s.vm.findClass "com/example/pagetools/pagetools/Total" = some m.cls := findClass_of_methodNamed Bd.named
  have hnm := (name_of_methodNamed Bd.named Bd.method).1
  have X0 : Stand p l e ({ frames := 2, cells := 0, slots := 0, locals := 24 } : Room) s m #[(.ref a1), (.long r1)] below meth c s₁ [] 0 0 := Stand.of_body Bd
  have e0 : s₁.heap = h0 := by rw [← hh, Bd.state]; rfl
  refine (show own_G p e below s (own_Q2 Z a1 r1 h0 n0) 0 0 (s₁.setTop (entryFrame m #[(.ref a1), (.long r1)] 3)) → _ from fun k => k) ?_
  refine own_go (fun t k => castTop (ef2 m a1 r1) k) ?_
  show own_G p e below s (own_Q2 Z a1 r1 h0 n0) 0 0 (s₁.setTop (mkF m 0 #[.val (.ref a1), .val (.long r1), .second] []))
  refine own_go (fun t k => XS.aloadN X0.here hx rfl (hb hby d2_0) rfl rfl k) ?_
  show own_G p e below s (own_Q2 Z a1 r1 h0 n0) 0 0 (s₁.setTop (mkF m 1 #[.val (.ref a1), .val (.long r1), .second] [(.ref a1)]))
  obtain ⟨_, _, ⟨T102, L102, k102, n102⟩, -, X102, ⟨Lc102, hQ102, l102, y102, z102⟩, st102⟩ := X0.specialBack hx (y := (⟨"java/lang/Record", "<init>", "()V"⟩ : MethodName)) rfl hown (mvT hZ (hw _ (List.mem_of_getElem? (i := 12) rfl))) (mvT hZ (hw _ (List.mem_of_getElem? (i := 13) rfl))) (mvT hZ (hw _ (List.mem_of_getElem? (i := 16) rfl))) (by decide) (backOf (W := 0) (rm3 l Z a0 hw [] a1 h0) hZ (hw _ (List.mem_of_getElem? (i := 16) rfl)) (hw _ (List.mem_of_getElem? (i := 15) rfl)) (by decide) (by decide)) (g := (mkF m 1 #[.val (.ref a1), .val (.long r1), .second] [(.ref a1)])) rfl (by rw [hml]; rfl) (Steps.refl _) (a := a1) (argsL := []) (rest := []) (lenOf pd3 rfl) rfl (by show 2 * 0 + _ ≤ _; exact Nat.le_of_eq rfl) (hb hby d2_1) (fun _ _ => ⟨rfl, e0, (by decide : 0 + 0 ≤ _), (by decide : 0 + 0 ≤ _)⟩)
  dsimp only [Pt.U, Pt.locs, Pt.cells, Pt.slots] at X102 l102 y102 z102 st102 hQ102
  subst l102 y102 z102
  obtain ⟨rfl, rfl, e102⟩ := hQ102
  refine own_go (fun t k => st102.trans k) ?_
  show own_G p e below s (own_Q2 Z a1 r1 h0 n0) 0 0 (T102.setTop (mkF m 4 #[.val (.ref a1), .val (.long r1), .second] []))
  refine own_go (fun t k => XT.lloadN X102.here hx rfl (hb hby d2_4) rfl k) ?_
  show own_G p e below s (own_Q2 Z a1 r1 h0 n0) 0 0 (T102.setTop (mkF m 5 #[.val (.ref a1), .val (.long r1), .second] [(.long r1)]))
  refine own_go (fun t k => XT.lconst X102.here hx rfl (hb hby d2_5) k) ?_
  show own_G p e below s (own_Q2 Z a1 r1 h0 n0) 0 0 (T102.setTop (mkF m 6 #[.val (.ref a1), .val (.long r1), .second] [(.long (0 : Int64)), (.long r1)]))
  refine own_go (fun t k => XT.lcmp X102.here hx rfl (hb hby d2_6) rfl k) ?_
  show own_G p e below s (own_Q2 Z a1 r1 h0 n0) 0 0 (T102.setTop (mkF m 7 #[.val (.ref a1), .val (.long r1), .second] [(.int (XT.cmpL r1 (0 : Int64)))]))
  refine own_go (fun t k => XS.ifYes X102.here hx rfl (pc0 := 7) (pc' := 24) rfl (hb hby d2_7) rfl (XT.ll_ge_t hr) (by decide) (by decide) k) ?_
  show own_G p e below s (own_Q2 Z a1 r1 h0 n0) 0 0 (T102.setTop (mkF m 24 #[.val (.ref a1), .val (.long r1), .second] []))
  refine own_go (fun t k => XS.aloadN X102.here hx rfl (hb hby d2_24) rfl rfl k) ?_
  show own_G p e below s (own_Q2 Z a1 r1 h0 n0) 0 0 (T102.setTop (mkF m 25 #[.val (.ref a1), .val (.long r1), .second] [(.ref a1)]))
  refine own_go (fun t k => XT.lloadN X102.here hx rfl (hb hby d2_25) rfl k) ?_
  show own_G p e below s (own_Q2 Z a1 r1 h0 n0) 0 0 (T102.setTop (mkF m 26 #[.val (.ref a1), .val (.long r1), .second] [(.long r1), (.ref a1)]))
  obtain ⟨T103, h103, X103, e103, W103, st103⟩ := putF X102 hx hZ hown (host := "") (Or.inl (hw _ (List.mem_of_getElem? (i := 20) rfl))) Via.refl e102 F0 E0 (Or.inr ⟨(hw _ (List.mem_of_getElem? (i := 21) rfl)), rfl, hnm⟩) (hw _ (List.mem_of_getElem? (i := 7) rfl)) (ty := .long) (by decide) rfl rfl (g := (mkF m 26 #[.val (.ref a1), .val (.long r1), .second] [(.long r1), (.ref a1)])) rfl rfl (hb hby d2_26)
  refine own_go st103 ?_
  show own_G p e below s (own_Q2 Z a1 r1 h0 n0) 0 0 (T103.setTop (mkF m 29 #[.val (.ref a1), .val (.long r1), .second] []))
  have N1 := Fr.snoc X103 (Fr.nil n0) g0
  exact own_leave X103 none (fun _ => rfl) Bd.notSynchronized (fun fs hr => X103.returnOut hx Bd.returns (hb hby d2_29) hr) (by rw [e103]; exact ⟨rfl, N1, ((Keep.refl _ _).wr W103 (Or.inl (List.mem_of_getElem? (i := 0) rfl))), E0.wr W103, F0.same W103⟩) (by decide) (by decide)
theorem pn6 : plainName "com/example/pagetools/pagetools/Page" = true := by first | (simp [plainName, overriddenIn]; done) | decide +kernel
theorem pd6 : parseMethodDescriptor "(I)V" = some ⟨[.int], none⟩ := by decide +kernel
theorem ef6 (m : MethodId) (x0 : Int32) : entryFrame m #[(.int x0)] 1 = mkF m 0 #[.val (.int x0)] [] := by first | (simp [entryFrame, mkF, argsToLocals, Value.category]; done) | rfl
set_option maxRecDepth 65536 in
set_option maxHeartbeats 40000000 in
theorem rm6 (l : Launch) (Z : State) (a0 : Array Value) (hw : ∀ d ∈ tables_1, d.before a0 Z = true) (ws : List Jvm.Cond) (z1 : Int32) (h0 : Heap) (hz : ¬ z1 < (1 : Int32)) :
    MetFree l (⟨"com/example/pagetools/pagetools/Page", "requirePageSize", "(I)V"⟩ : MethodName) (head1 (Jvm.Cond.code (⟨"com/example/pagetools/pagetools/Page", "requirePageSize", "(I)V"⟩ : MethodName) prog_40_method_2_code 1 none :: ws) ({ frames := 0, cells := 0, slots := 0, locals := 0 } : Room)) (fun a U => a = #[(.int z1)] ∧ Z.Warmed39 U.vm ∧ U.heap = h0) (fun _ _ _ _ _ => True) (fun _ U o U' => ∃ v L, o = .returned v ∧ own_Q3 h0 v U'.heap L ∧ FrameEnd U o U' L ({ frames := 0, cells := 0, slots := 0, locals := 0 } : Room).cells ({ frames := 0, cells := 0, slots := 0, locals := 0 } : Room).slots) := by
  refine MetFree.of_bodySF (plainFor_of_name pn6) hisR ?_
  intro p e s m args below meth c s₁ Bd hml0 hP hK
  obtain ⟨rfl, hZ, hh⟩ := hP
  have hx := Bd.exec
  have hby := Bd.bytes
  have hml : c.maxLocals = 1 := hml0
  have hown : s.vm.findClass "com/example/pagetools/pagetools/Page" = some m.cls := findClass_of_methodNamed Bd.named
  have hnm := (name_of_methodNamed Bd.named Bd.method).1
  have X0 : Stand p l e ({ frames := 0, cells := 0, slots := 0, locals := 0 } : Room) s m #[(.int z1)] below meth c s₁ [] 0 0 := Stand.of_body Bd
  have e0 : s₁.heap = h0 := by rw [← hh, Bd.state]; rfl
  refine (show own_G p e below s (own_Q3 h0) 0 0 (s₁.setTop (entryFrame m #[(.int z1)] 1)) → _ from fun k => k) ?_
  refine own_go (fun t k => castTop (ef6 m z1) k) ?_
  show own_G p e below s (own_Q3 h0) 0 0 (s₁.setTop (mkF m 0 #[.val (.int z1)] []))
  refine own_go (fun t k => XS.iloadN X0.here hx rfl (hb hby d6_0) rfl k) ?_
  show own_G p e below s (own_Q3 h0) 0 0 (s₁.setTop (mkF m 1 #[.val (.int z1)] [(.int z1)]))
  refine own_go (fun t k => XS.iconst X0.here hx rfl (hb hby d6_1) k) ?_
  show own_G p e below s (own_Q3 h0) 0 0 (s₁.setTop (mkF m 2 #[.val (.int z1)] [(.int (1 : Int32)), (.int z1)]))
  refine own_go (fun t k => XS.icmpYes X0.here hx rfl (pc0 := 2) (pc' := 19) rfl (hb hby d6_2) rfl (XT.ii_ge_t hz) (by decide) (by decide) k) ?_
  show own_G p e below s (own_Q3 h0) 0 0 (s₁.setTop (mkF m 19 #[.val (.int z1)] []))
  exact own_leave X0 none (fun _ => rfl) Bd.notSynchronized (fun fs hr => X0.returnOut hx Bd.returns (hb hby d6_19) hr) ⟨rfl, rfl, e0⟩ (by decide) (by decide)
theorem pd5 : parseMethodDescriptor "(I)J" = some ⟨[.int], some .long⟩ := by decide +kernel
theorem ef5 (m : MethodId) (x0 : Addr) (x1 : Int32) : entryFrame m #[(.ref x0), (.int x1)] 2 = mkF m 0 #[.val (.ref x0), .val (.int x1)] [] := by first | (simp [entryFrame, mkF, argsToLocals, Value.category]; done) | rfl
def own_Q5 (r1 : Int64) (z1 : Int32) (h0 : Heap) (v : Option Value) (h : Heap) (L : List Loc) : Prop := v = some (.long (own_pages r1 z1)) ∧ L = [] ∧ h = h0
set_option maxRecDepth 65536 in
set_option maxHeartbeats 40000000 in
theorem rm5 (l : Launch) (Z : State) (a0 : Array Value) (hw : ∀ d ∈ tables_1, d.before a0 Z = true) (ws : List Jvm.Cond) (a1 : Addr) (z1 : Int32) (r1 : Int64) (h0 : Heap) (F0 : Fld Z h0 a1 "com/example/pagetools/pagetools/Total" "rows" "J" (.long r1)) (hz : ¬ z1 < (1 : Int32)) (hz0 : z1.toInt64 ≠ 0) :
    MetFree l (⟨"com/example/pagetools/pagetools/Total", "pages", "(I)J"⟩ : MethodName) (head1 (Jvm.Cond.code (⟨"com/example/pagetools/pagetools/Total", "pages", "(I)J"⟩ : MethodName) prog_79_method_2_code 2 (some .long) :: ws) ({ frames := 1, cells := 0, slots := 0, locals := 12 } : Room)) (fun a U => a = #[(.ref a1), (.int z1)] ∧ Z.Warmed39 U.vm ∧ U.heap = h0) (fun _ _ _ _ _ => True) (fun _ U o U' => ∃ v L, o = .returned v ∧ own_Q5 r1 z1 h0 v U'.heap L ∧ FrameEnd U o U' L ({ frames := 1, cells := 0, slots := 0, locals := 12 } : Room).cells ({ frames := 1, cells := 0, slots := 0, locals := 12 } : Room).slots) := by
  refine MetFree.of_bodySF (plainFor_of_name pn2) hisR ?_
  intro p e s m args below meth c s₁ Bd hml0 hP hK
  obtain ⟨rfl, hZ, hh⟩ := hP
  have hx := Bd.exec
  have hby := Bd.bytes
  have hml : c.maxLocals = 2 := hml0
  have hown : s.vm.findClass "com/example/pagetools/pagetools/Total" = some m.cls := findClass_of_methodNamed Bd.named
  have hnm := (name_of_methodNamed Bd.named Bd.method).1
  have X0 : Stand p l e ({ frames := 1, cells := 0, slots := 0, locals := 12 } : Room) s m #[(.ref a1), (.int z1)] below meth c s₁ [] 0 0 := Stand.of_body Bd
  have e0 : s₁.heap = h0 := by rw [← hh, Bd.state]; rfl
  refine (show own_G p e below s (own_Q5 r1 z1 h0) 0 0 (s₁.setTop (entryFrame m #[(.ref a1), (.int z1)] 2)) → _ from fun k => k) ?_
  refine own_go (fun t k => castTop (ef5 m a1 z1) k) ?_
  show own_G p e below s (own_Q5 r1 z1 h0) 0 0 (s₁.setTop (mkF m 0 #[.val (.ref a1), .val (.int z1)] []))
  refine own_go (fun t k => XS.iloadN X0.here hx rfl (hb hby d5_0) rfl k) ?_
  show own_G p e below s (own_Q5 r1 z1 h0) 0 0 (s₁.setTop (mkF m 1 #[.val (.ref a1), .val (.int z1)] [(.int z1)]))
  obtain ⟨_, _, ⟨T104, L104, k104, n104⟩, -, X104, ⟨Lc104, hQ104, l104, y104, z104⟩, st104⟩ := Jvm.LawKit.callS X0 hx (y := (⟨"com/example/pagetools/pagetools/Page", "requirePageSize", "(I)V"⟩ : MethodName)) hown (mvT hZ (hw _ (List.mem_of_getElem? (i := 27) rfl))) (mvT hZ (hw _ (List.mem_of_getElem? (i := 28) rfl))) (mvT hZ (hw _ (List.mem_of_getElem? (i := 29) rfl))) (mvT hZ (hw _ (List.mem_of_getElem? (i := 30) rfl))) (by decide) (backOf (W := 0) (rm6 l Z a0 hw [] z1 h0 hz) hZ (hw _ (List.mem_of_getElem? (i := 30) rfl)) (hw _ (List.mem_of_getElem? (i := 29) rfl)) (by decide) (by decide)) (g := (mkF m 1 #[.val (.ref a1), .val (.int z1)] [(.int z1)])) rfl (by rw [hml]; rfl) (argsL := [(.int z1)]) (rest := []) (lenOf pd6 rfl) rfl (by show 2 * 0 + _ ≤ _; exact Nat.le_of_eq rfl) (hb hby d5_1) (fun _ _ => ⟨rfl, e0, (by decide : 0 + 0 ≤ _), (by decide : 0 + 0 ≤ _)⟩)
  dsimp only [Pt.U, Pt.locs, Pt.cells, Pt.slots] at X104 l104 y104 z104 st104 hQ104
  subst l104 y104 z104
  obtain ⟨rfl, rfl, e104⟩ := hQ104
  refine own_go (st104) ?_
  show own_G p e below s (own_Q5 r1 z1 h0) 0 0 (T104.setTop (mkF m 4 #[.val (.ref a1), .val (.int z1)] []))
  refine own_go (fun t k => XS.aloadN X104.here hx rfl (hb hby d5_4) rfl rfl k) ?_
  show own_G p e below s (own_Q5 r1 z1 h0) 0 0 (T104.setTop (mkF m 5 #[.val (.ref a1), .val (.int z1)] [(.ref a1)]))
  obtain ⟨T105, X105, e105, st105⟩ := getF X104 hx hZ hown (host := "") (Or.inl (hw _ (List.mem_of_getElem? (i := 20) rfl))) Via.refl e104 F0 (g := (mkF m 5 #[.val (.ref a1), .val (.int z1)] [(.ref a1)])) rfl rfl (hb hby d5_5)
  refine own_go st105 ?_
  show own_G p e below s (own_Q5 r1 z1 h0) 0 0 (T105.setTop (mkF m 8 #[.val (.ref a1), .val (.int z1)] [(.long r1)]))
  refine own_go (fun t k => XT.lconst X105.here hx rfl (hb hby d5_8) k) ?_
  show own_G p e below s (own_Q5 r1 z1 h0) 0 0 (T105.setTop (mkF m 9 #[.val (.ref a1), .val (.int z1)] [(.long (0 : Int64)), (.long r1)]))
  refine own_go (fun t k => XT.lcmp X105.here hx rfl (hb hby d5_9) rfl k) ?_
  show own_G p e below s (own_Q5 r1 z1 h0) 0 0 (T105.setTop (mkF m 10 #[.val (.ref a1), .val (.int z1)] [(.int (XT.cmpL r1 (0 : Int64)))]))
  by_cases h1 : r1 = (0 : Int64)
  · skip
    refine own_go (fun t k => XS.ifNo X105.here hx rfl (hb hby d5_10) rfl (XT.ll_ne_f h1) k) ?_
    show own_G p e below s (own_Q5 r1 z1 h0) 0 0 (T105.setTop (mkF m 13 #[.val (.ref a1), .val (.int z1)] []))
    refine own_go (fun t k => XT.lconst X105.here hx rfl (hb hby d5_13) k) ?_
    show own_G p e below s (own_Q5 r1 z1 h0) 0 0 (T105.setTop (mkF m 14 #[.val (.ref a1), .val (.int z1)] [(.long (0 : Int64))]))
    refine own_go (fun t k => XS.goto X105.here hx rfl (pc0 := 14) (pc' := 28) rfl (hb hby d5_14) (by decide) (by decide) k) ?_
    show own_G p e below s (own_Q5 r1 z1 h0) 0 0 (T105.setTop (mkF m 28 #[.val (.ref a1), .val (.int z1)] [(.long (0 : Int64))]))
    exact own_leave X105 (some (.long (0 : Int64))) (fun h => by rw [Bd.returns] at h; cases h) Bd.notSynchronized (fun fs hr => X105.lreturnOut hx Bd.returns (hb hby d5_28) hr) ⟨congrArg (fun z => some (Value.long z)) (if_pos h1).symm, rfl, e105⟩ (by decide) (by decide)
  · skip
    refine own_go (fun t k => XS.ifYes X105.here hx rfl (pc0 := 10) (pc' := 17) rfl (hb hby d5_10) rfl (XT.ll_ne_t h1) (by decide) (by decide) k) ?_
    show own_G p e below s (own_Q5 r1 z1 h0) 0 0 (T105.setTop (mkF m 17 #[.val (.ref a1), .val (.int z1)] []))
    refine own_go (fun t k => XS.aloadN X105.here hx rfl (hb hby d5_17) rfl rfl k) ?_
    show own_G p e below s (own_Q5 r1 z1 h0) 0 0 (T105.setTop (mkF m 18 #[.val (.ref a1), .val (.int z1)] [(.ref a1)]))
    obtain ⟨T106, X106, e106, st106⟩ := getF X105 hx hZ hown (host := "") (Or.inl (hw _ (List.mem_of_getElem? (i := 20) rfl))) Via.refl e105 F0 (g := (mkF m 18 #[.val (.ref a1), .val (.int z1)] [(.ref a1)])) rfl rfl (hb hby d5_18)
    refine own_go st106 ?_
    show own_G p e below s (own_Q5 r1 z1 h0) 0 0 (T106.setTop (mkF m 21 #[.val (.ref a1), .val (.int z1)] [(.long r1)]))
    refine own_go (fun t k => XT.lconst X106.here hx rfl (hb hby d5_21) k) ?_
    show own_G p e below s (own_Q5 r1 z1 h0) 0 0 (T106.setTop (mkF m 22 #[.val (.ref a1), .val (.int z1)] [(.long (1 : Int64)), (.long r1)]))
    refine own_go (fun t k => XT.lsub X106.here hx rfl (hb hby d5_22) rfl k) ?_
    show own_G p e below s (own_Q5 r1 z1 h0) 0 0 (T106.setTop (mkF m 23 #[.val (.ref a1), .val (.int z1)] [(.long (r1 - (1 : Int64)))]))
    refine own_go (fun t k => XS.iloadN X106.here hx rfl (hb hby d5_23) rfl k) ?_
    show own_G p e below s (own_Q5 r1 z1 h0) 0 0 (T106.setTop (mkF m 24 #[.val (.ref a1), .val (.int z1)] [(.int z1), (.long (r1 - (1 : Int64)))]))
    refine own_go (fun t k => XT.i2l X106.here hx rfl (hb hby d5_24) rfl k) ?_
    show own_G p e below s (own_Q5 r1 z1 h0) 0 0 (T106.setTop (mkF m 25 #[.val (.ref a1), .val (.int z1)] [(.long z1.toInt64), (.long (r1 - (1 : Int64)))]))
    refine own_go (fun t k => XT.ldiv X106.here hx rfl (hb hby d5_25) rfl hz0 k) ?_
    show own_G p e below s (own_Q5 r1 z1 h0) 0 0 (T106.setTop (mkF m 26 #[.val (.ref a1), .val (.int z1)] [(.long ((r1 - (1 : Int64)) / z1.toInt64))]))
    refine own_go (fun t k => XT.lconst X106.here hx rfl (hb hby d5_26) k) ?_
    show own_G p e below s (own_Q5 r1 z1 h0) 0 0 (T106.setTop (mkF m 27 #[.val (.ref a1), .val (.int z1)] [(.long (1 : Int64)), (.long ((r1 - (1 : Int64)) / z1.toInt64))]))
    refine own_go (fun t k => XT.ladd X106.here hx rfl (hb hby d5_27) rfl k) ?_
    show own_G p e below s (own_Q5 r1 z1 h0) 0 0 (T106.setTop (mkF m 28 #[.val (.ref a1), .val (.int z1)] [(.long (((r1 - (1 : Int64)) / z1.toInt64) + (1 : Int64)))]))
    exact own_leave X106 (some (.long (((r1 - (1 : Int64)) / z1.toInt64) + (1 : Int64)))) (fun h => by rw [Bd.returns] at h; cases h) Bd.notSynchronized (fun fs hr => X106.lreturnOut hx Bd.returns (hb hby d5_28) hr) ⟨congrArg (fun z => some (Value.long z)) (if_neg h1).symm, rfl, e106⟩ (by decide) (by decide)
theorem pd7 : parseMethodDescriptor "()J" = some ⟨[], some .long⟩ := by decide +kernel
theorem ef7 (m : MethodId) (x0 : Addr) : entryFrame m #[(.ref x0)] 1 = mkF m 0 #[.val (.ref x0)] [] := by first | (simp [entryFrame, mkF, argsToLocals, Value.category]; done) | rfl
def own_Q7 (r1 : Int64) (h0 : Heap) (v : Option Value) (h : Heap) (L : List Loc) : Prop := v = some (.long r1) ∧ L = [] ∧ h = h0
set_option maxRecDepth 65536 in
set_option maxHeartbeats 40000000 in
theorem rm7 (l : Launch) (Z : State) (a0 : Array Value) (hw : ∀ d ∈ tables_1, d.before a0 Z = true) (ws : List Jvm.Cond) (a1 : Addr) (r1 : Int64) (h0 : Heap) (F0 : Fld Z h0 a1 "com/example/pagetools/pagetools/Total" "rows" "J" (.long r1)) :
    MetFree l (⟨"com/example/pagetools/pagetools/Total", "rows", "()J"⟩ : MethodName) (head1 (Jvm.Cond.code (⟨"com/example/pagetools/pagetools/Total", "rows", "()J"⟩ : MethodName) prog_79_method_6_code 1 (some .long) :: ws) ({ frames := 0, cells := 0, slots := 0, locals := 0 } : Room)) (fun a U => a = #[(.ref a1)] ∧ Z.Warmed39 U.vm ∧ U.heap = h0) (fun _ _ _ _ _ => True) (fun _ U o U' => ∃ v L, o = .returned v ∧ own_Q7 r1 h0 v U'.heap L ∧ FrameEnd U o U' L ({ frames := 0, cells := 0, slots := 0, locals := 0 } : Room).cells ({ frames := 0, cells := 0, slots := 0, locals := 0 } : Room).slots) := by
  refine MetFree.of_bodySF (plainFor_of_name pn2) hisR ?_
  intro p e s m args below meth c s₁ Bd hml0 hP hK
  obtain ⟨rfl, hZ, hh⟩ := hP
  have hx := Bd.exec
  have hby := Bd.bytes
  have hml : c.maxLocals = 1 := hml0
  have hown : s.vm.findClass "com/example/pagetools/pagetools/Total" = some m.cls := findClass_of_methodNamed Bd.named
  have hnm := (name_of_methodNamed Bd.named Bd.method).1
  have X0 : Stand p l e ({ frames := 0, cells := 0, slots := 0, locals := 0 } : Room) s m #[(.ref a1)] below meth c s₁ [] 0 0 := Stand.of_body Bd
  have e0 : s₁.heap = h0 := by rw [← hh, Bd.state]; rfl
  refine (show own_G p e below s (own_Q7 r1 h0) 0 0 (s₁.setTop (entryFrame m #[(.ref a1)] 1)) → _ from fun k => k) ?_
  refine own_go (fun t k => castTop (ef7 m a1) k) ?_
  show own_G p e below s (own_Q7 r1 h0) 0 0 (s₁.setTop (mkF m 0 #[.val (.ref a1)] []))
  refine own_go (fun t k => XS.aloadN X0.here hx rfl (hb hby d7_0) rfl rfl k) ?_
  show own_G p e below s (own_Q7 r1 h0) 0 0 (s₁.setTop (mkF m 1 #[.val (.ref a1)] [(.ref a1)]))
  obtain ⟨T107, X107, e107, st107⟩ := getF X0 hx hZ hown (host := "") (Or.inl (hw _ (List.mem_of_getElem? (i := 20) rfl))) Via.refl e0 F0 (g := (mkF m 1 #[.val (.ref a1)] [(.ref a1)])) rfl rfl (hb hby d7_1)
  refine own_go st107 ?_
  show own_G p e below s (own_Q7 r1 h0) 0 0 (T107.setTop (mkF m 4 #[.val (.ref a1)] [(.long r1)]))
  exact own_leave X107 (some (.long r1)) (fun h => by rw [Bd.returns] at h; cases h) Bd.notSynchronized (fun fs hr => X107.lreturnOut hx Bd.returns (hb hby d7_4) hr) ⟨rfl, rfl, e107⟩ (by decide) (by decide)
theorem pn0 : plainName "com/example/pagetools/pagetools/TotalPagesPinLaw" = true := by first | (simp [plainName, overriddenIn]; done) | decide +kernel
theorem ef0 (m : MethodId) (x0 : Int64) (x1 : Int32) : entryFrame m #[(.long x0), (.int x1)] maxLocals = mkF m 0 #[.val (.long x0), .second, .val (.int x1), .unset, .unset, .unset, .unset, .unset, .unset, .unset, .unset, .unset, .unset, .unset, .unset] [] := by first | (simp [entryFrame, mkF, argsToLocals, Value.category, maxLocals]; done) | rfl
def own_Q0 (n0 : Nat) (v : Option Value) (h : Heap) (L : List Loc) : Prop := v = some (.int 1) ∧ Fr n0 L
set_option maxRecDepth 65536 in
set_option maxHeartbeats 40000000 in
theorem rm0 (l : Launch) (Z : State) (a0 : Array Value) (hw : ∀ d ∈ tables_1, d.before a0 Z = true) (ws : List Jvm.Cond) (x0 : Int64) (x1 : Int32) (h0 : Heap) (n0 : Nat) (Z0 : n0 ≤ h0.size) :
    MetFree l x (head1 (Jvm.Cond.code x code maxLocals ret :: ws) room_1) (fun a U => a = #[(.long x0), (.int x1)] ∧ Z.Warmed39 U.vm ∧ U.heap = h0) (fun _ _ _ _ _ => True) (fun _ U o U' => ∃ v L, o = .returned v ∧ own_Q0 n0 v U'.heap L ∧ FrameEnd U o U' L 16 128) := by
  refine MetFree.of_bodySF (plainFor_of_name pn0) hisR ?_
  intro p e s m args below meth c s₁ Bd hml0 hP hK
  obtain ⟨rfl, hZ, hh⟩ := hP
  have hx := Bd.exec
  have hby := Bd.bytes
  have hml : c.maxLocals = 15 := hml0
  have hown : s.vm.findClass "com/example/pagetools/pagetools/TotalPagesPinLaw" = some m.cls := findClass_of_methodNamed Bd.named
  have hnm := (name_of_methodNamed Bd.named Bd.method).1
  have X0 : Stand p l e room_1 s m #[(.long x0), (.int x1)] below meth c s₁ [] 0 0 := Stand.of_body Bd
  have e0 : s₁.heap = h0 := by rw [← hh, Bd.state]; rfl
  refine (show own_G p e below s (own_Q0 n0) 16 128 (s₁.setTop (entryFrame m #[(.long x0), (.int x1)] maxLocals)) → _ from fun k => k) ?_
  refine own_go (fun t k => castTop (ef0 m x0 x1) k) ?_
  show own_G p e below s (own_Q0 n0) 16 128 (s₁.setTop (mkF m 0 #[.val (.long x0), .second, .val (.int x1), .unset, .unset, .unset, .unset, .unset, .unset, .unset, .unset, .unset, .unset, .unset, .unset] []))
  refine own_go (fun t k => XT.lloadN X0.here hx rfl (hb hby at_0) rfl k) ?_
  show own_G p e below s (own_Q0 n0) 16 128 (s₁.setTop (mkF m 1 #[.val (.long x0), .second, .val (.int x1), .unset, .unset, .unset, .unset, .unset, .unset, .unset, .unset, .unset, .unset, .unset, .unset] [(.long x0)]))
  refine own_go (X0.ldc2Long hx hown (mvT hZ (hw _ (List.mem_of_getElem? (i := 0) rfl))) (g := (mkF m 1 #[.val (.long x0), .second, .val (.int x1), .unset, .unset, .unset, .unset, .unset, .unset, .unset, .unset, .unset, .unset, .unset, .unset] [(.long x0)])) rfl (hb hby at_1)) ?_
  show own_G p e below s (own_Q0 n0) 16 128 (s₁.setTop (mkF m 4 #[.val (.long x0), .second, .val (.int x1), .unset, .unset, .unset, .unset, .unset, .unset, .unset, .unset, .unset, .unset, .unset, .unset] [(.long (9223372036854775807 : Int64)), (.long x0)]))
  refine own_go (fun t k => XT.land X0.here hx rfl (hb hby at_4) rfl k) ?_
  show own_G p e below s (own_Q0 n0) 16 128 (s₁.setTop (mkF m 5 #[.val (.long x0), .second, .val (.int x1), .unset, .unset, .unset, .unset, .unset, .unset, .unset, .unset, .unset, .unset, .unset, .unset] [(.long (x0 &&& (9223372036854775807 : Int64)))]))
  refine own_go (fun t k => XT.lstoreN X0.here hx rfl (hb hby at_5) rfl (l' := #[.val (.long x0), .second, .val (.int x1), .val (.long (x0 &&& (9223372036854775807 : Int64))), .second, .unset, .unset, .unset, .unset, .unset, .unset, .unset, .unset, .unset, .unset]) rfl k) ?_
  show own_G p e below s (own_Q0 n0) 16 128 (s₁.setTop (mkF m 6 #[.val (.long x0), .second, .val (.int x1), .val (.long (x0 &&& (9223372036854775807 : Int64))), .second, .unset, .unset, .unset, .unset, .unset, .unset, .unset, .unset, .unset, .unset] []))
  suffices own_n_r : ∀ r : Int64, r = (x0 &&& (9223372036854775807 : Int64)) → own_G p e below s (own_Q0 n0) 16 128 (s₁.setTop (mkF m 6 #[.val (.long x0), .second, .val (.int x1), .val (.long r), .second, .unset, .unset, .unset, .unset, .unset, .unset, .unset, .unset, .unset, .unset] [])) from own_n_r _ rfl
  intro r h_r
  refine own_go (fun t k => XS.iconst X0.here hx rfl (hb hby at_6) k) ?_
  show own_G p e below s (own_Q0 n0) 16 128 (s₁.setTop (mkF m 7 #[.val (.long x0), .second, .val (.int x1), .val (.long r), .second, .unset, .unset, .unset, .unset, .unset, .unset, .unset, .unset, .unset, .unset] [(.int (1 : Int32))]))
  refine own_go (fun t k => XS.iloadN X0.here hx rfl (hb hby at_7) rfl k) ?_
  show own_G p e below s (own_Q0 n0) 16 128 (s₁.setTop (mkF m 8 #[.val (.long x0), .second, .val (.int x1), .val (.long r), .second, .unset, .unset, .unset, .unset, .unset, .unset, .unset, .unset, .unset, .unset] [(.int x1), (.int (1 : Int32))]))
  refine own_go (X0.ldcInt hx hown (mvT hZ (hw _ (List.mem_of_getElem? (i := 1) rfl))) (g := (mkF m 8 #[.val (.long x0), .second, .val (.int x1), .val (.long r), .second, .unset, .unset, .unset, .unset, .unset, .unset, .unset, .unset, .unset, .unset] [(.int x1), (.int (1 : Int32))])) rfl (hb hby at_8)) ?_
  show own_G p e below s (own_Q0 n0) 16 128 (s₁.setTop (mkF m 10 #[.val (.long x0), .second, .val (.int x1), .val (.long r), .second, .unset, .unset, .unset, .unset, .unset, .unset, .unset, .unset, .unset, .unset] [(.int (2147483647 : Int32)), (.int x1), (.int (1 : Int32))]))
  refine own_go (fun t k => XS.iand X0.here hx rfl (hb hby at_10) rfl k) ?_
  show own_G p e below s (own_Q0 n0) 16 128 (s₁.setTop (mkF m 11 #[.val (.long x0), .second, .val (.int x1), .val (.long r), .second, .unset, .unset, .unset, .unset, .unset, .unset, .unset, .unset, .unset, .unset] [(.int (x1 &&& (2147483647 : Int32))), (.int (1 : Int32))]))
  obtain ⟨_, _, ⟨T108, L108, k108, n108⟩, -, X108, ⟨Lc108, hQ108, l108, y108, z108⟩, st108⟩ := Jvm.LawKit.callS X0 hx (y := (⟨"java/lang/Math", "max", "(II)I"⟩ : MethodName)) hown (mvT hZ (hw _ (List.mem_of_getElem? (i := 2) rfl))) (mvT hZ (hw _ (List.mem_of_getElem? (i := 3) rfl))) (mvT hZ (hw _ (List.mem_of_getElem? (i := 4) rfl))) (mvT hZ (hw _ (List.mem_of_getElem? (i := 5) rfl))) (by decide) (backOf (W := 0) (rm1 l Z a0 hw [] (1 : Int32) (x1 &&& (2147483647 : Int32)) h0) hZ (hw _ (List.mem_of_getElem? (i := 5) rfl)) (hw _ (List.mem_of_getElem? (i := 4) rfl)) (by decide) (by decide)) (g := (mkF m 11 #[.val (.long x0), .second, .val (.int x1), .val (.long r), .second, .unset, .unset, .unset, .unset, .unset, .unset, .unset, .unset, .unset, .unset] [(.int (x1 &&& (2147483647 : Int32))), (.int (1 : Int32))])) rfl (by rw [hml]; rfl) (argsL := [(.int (1 : Int32)), (.int (x1 &&& (2147483647 : Int32)))]) (rest := []) (lenOf pd1 rfl) rfl (by show 2 * 0 + _ ≤ _; exact Nat.le_of_eq rfl) (hb hby at_11) (fun _ _ => ⟨rfl, e0, (by decide : 0 + 0 ≤ _), (by decide : 0 + 0 ≤ _)⟩)
  dsimp only [Pt.U, Pt.locs, Pt.cells, Pt.slots] at X108 l108 y108 z108 st108 hQ108
  subst l108 y108 z108
  obtain ⟨rfl, rfl, e108⟩ := hQ108
  refine own_go (st108) ?_
  show own_G p e below s (own_Q0 n0) 16 128 (T108.setTop (mkF m 14 #[.val (.long x0), .second, .val (.int x1), .val (.long r), .second, .unset, .unset, .unset, .unset, .unset, .unset, .unset, .unset, .unset, .unset] [(.int (own_max (1 : Int32) (x1 &&& (2147483647 : Int32))))]))
  refine own_go (fun t k => XS.istore X108.here hx rfl (hb hby at_14) rfl (l' := #[.val (.long x0), .second, .val (.int x1), .val (.long r), .second, .val (.int (own_max (1 : Int32) (x1 &&& (2147483647 : Int32)))), .unset, .unset, .unset, .unset, .unset, .unset, .unset, .unset, .unset]) rfl k) ?_
  show own_G p e below s (own_Q0 n0) 16 128 (T108.setTop (mkF m 16 #[.val (.long x0), .second, .val (.int x1), .val (.long r), .second, .val (.int (own_max (1 : Int32) (x1 &&& (2147483647 : Int32)))), .unset, .unset, .unset, .unset, .unset, .unset, .unset, .unset, .unset] []))
  suffices own_n_z : ∀ z : Int32, z = own_max (1 : Int32) (x1 &&& (2147483647 : Int32)) → own_G p e below s (own_Q0 n0) 16 128 (T108.setTop (mkF m 16 #[.val (.long x0), .second, .val (.int x1), .val (.long r), .second, .val (.int z), .unset, .unset, .unset, .unset, .unset, .unset, .unset, .unset, .unset] [])) from own_n_z _ rfl
  intro z h_z
  have hr : 0 ≤ r.toInt := by rw [h_r]; exact own_rows_nn x0
  have hz : 1 ≤ z.toInt := by rw [h_z]; exact own_size_pos x1
  have hr0 : ¬ r < (0 : Int64) := by rw [Int64.lt_iff_toInt_lt, show (0 : Int64).toInt = 0 from by decide]; omega
  have hz1 : ¬ z < (1 : Int32) := by rw [Int32.lt_iff_toInt_lt, show (1 : Int32).toInt = 1 from by decide]; omega
  have hz0 : z.toInt64 ≠ 0 := fun q => by have q2 := congrArg Int64.toInt q; rw [Int32.toInt_toInt64, show (0 : Int64).toInt = 0 from by decide] at q2; omega
  obtain ⟨T109, h109, X109, e109, E109, A109, D109, -, st109⟩ := newO X108 hx hZ hown (hw _ (List.mem_of_getElem? (i := 6) rfl)) (hw _ (List.mem_of_getElem? (i := 7) rfl)) (hw _ (List.mem_of_getElem? (i := 8) rfl)) e108 (g := (mkF m 16 #[.val (.long x0), .second, .val (.int x1), .val (.long r), .second, .val (.int z), .unset, .unset, .unset, .unset, .unset, .unset, .unset, .unset, .unset] [])) rfl (hb hby at_16) (by decide) (by decide)
  obtain ⟨a3, g109⟩ : ∃ z, z = h0.size := ⟨_, rfl⟩
  rw [← g109] at A109 D109 st109
  refine own_go st109 ?_
  show own_G p e below s (own_Q0 n0) 16 128 (T109.setTop (mkF m 19 #[.val (.long x0), .second, .val (.int x1), .val (.long r), .second, .val (.int z), .unset, .unset, .unset, .unset, .unset, .unset, .unset, .unset, .unset] [(.ref a3)]))
  have F1 : Fld Z h109 a3 "com/example/pagetools/pagetools/Total" "rows" "J" (.long (0 : Int64)) := (D109 (Or.inr (hw _ (List.mem_of_getElem? (i := 21) rfl))) (ty := .long) (by decide))
  have Z1 : n0 ≤ h109.size := Nat.le_trans Z0 E109.1
  have g3 : n0 ≤ a3 := Nat.le_trans Z0 (Nat.le_of_eq g109.symm)
  refine own_go (fun t k => XS.dup X109.here hx rfl (hb hby at_19) rfl rfl k) ?_
  show own_G p e below s (own_Q0 n0) 16 128 (T109.setTop (mkF m 20 #[.val (.long x0), .second, .val (.int x1), .val (.long r), .second, .val (.int z), .unset, .unset, .unset, .unset, .unset, .unset, .unset, .unset, .unset] [(.ref a3), (.ref a3)]))
  refine own_go (fun t k => XT.lloadN X109.here hx rfl (hb hby at_20) rfl k) ?_
  show own_G p e below s (own_Q0 n0) 16 128 (T109.setTop (mkF m 21 #[.val (.long x0), .second, .val (.int x1), .val (.long r), .second, .val (.int z), .unset, .unset, .unset, .unset, .unset, .unset, .unset, .unset, .unset] [(.long r), (.ref a3), (.ref a3)]))
  obtain ⟨_, _, ⟨T110, L110, k110, n110⟩, -, X110, ⟨Lc110, hQ110, l110, y110, z110⟩, st110⟩ := X109.specialBack hx (y := (⟨"com/example/pagetools/pagetools/Total", "<init>", "(J)V"⟩ : MethodName)) rfl hown (mvT hZ (hw _ (List.mem_of_getElem? (i := 9) rfl))) (mvT hZ (hw _ (List.mem_of_getElem? (i := 10) rfl))) (mvT hZ (hw _ (List.mem_of_getElem? (i := 11) rfl))) (by decide) (backOf (W := 1) (rm2 l Z a0 hw [] a3 r h109 n0 Z1 F1 A109 g3 hr0) hZ (hw _ (List.mem_of_getElem? (i := 11) rfl)) (hw _ (List.mem_of_getElem? (i := 8) rfl)) (by decide) (by decide)) (g := (mkF m 21 #[.val (.long x0), .second, .val (.int x1), .val (.long r), .second, .val (.int z), .unset, .unset, .unset, .unset, .unset, .unset, .unset, .unset, .unset] [(.long r), (.ref a3), (.ref a3)])) rfl (by rw [hml]; rfl) (Steps.refl _) (a := a3) (argsL := [(.long r)]) (rest := [(.ref a3)]) (lenOf pd2 rfl) rfl (by show 2 * 0 + _ ≤ _; exact Nat.le_of_eq rfl) (hb hby at_21) (fun _ _ => ⟨rfl, e109, (by decide : 1 + 0 ≤ _), (by decide : 1 + 0 ≤ _)⟩)
  dsimp only [Pt.U, Pt.locs, Pt.cells, Pt.slots] at X110 l110 y110 z110 st110 hQ110
  subst l110 y110 z110
  obtain ⟨rfl, N4, K4, E4, F4⟩ := hQ110
  refine own_go (fun t k => st110.trans k) ?_
  show own_G p e below s (own_Q0 n0) 16 128 (T110.setTop (mkF m 24 #[.val (.long x0), .second, .val (.int x1), .val (.long r), .second, .val (.int z), .unset, .unset, .unset, .unset, .unset, .unset, .unset, .unset, .unset] [(.ref a3)]))
  refine own_go (fun t k => XS.astore X110.here hx rfl (hb hby at_24) rfl rfl (l' := #[.val (.long x0), .second, .val (.int x1), .val (.long r), .second, .val (.int z), .val (.ref a3), .unset, .unset, .unset, .unset, .unset, .unset, .unset, .unset]) rfl k) ?_
  show own_G p e below s (own_Q0 n0) 16 128 (T110.setTop (mkF m 26 #[.val (.long x0), .second, .val (.int x1), .val (.long r), .second, .val (.int z), .val (.ref a3), .unset, .unset, .unset, .unset, .unset, .unset, .unset, .unset] []))
  refine own_go (fun t k => XS.aload X110.here hx rfl (hb hby at_26) rfl rfl k) ?_
  show own_G p e below s (own_Q0 n0) 16 128 (T110.setTop (mkF m 28 #[.val (.long x0), .second, .val (.int x1), .val (.long r), .second, .val (.int z), .val (.ref a3), .unset, .unset, .unset, .unset, .unset, .unset, .unset, .unset] [(.ref a3)]))
  refine own_go (fun t k => XS.iload X110.here hx rfl (hb hby at_28) rfl k) ?_
  show own_G p e below s (own_Q0 n0) 16 128 (T110.setTop (mkF m 30 #[.val (.long x0), .second, .val (.int x1), .val (.long r), .second, .val (.int z), .val (.ref a3), .unset, .unset, .unset, .unset, .unset, .unset, .unset, .unset] [(.int z), (.ref a3)]))
  obtain ⟨cq111, kq111, q111a, q111b, q111c⟩ := isOf hZ rfl E4
  obtain ⟨_, _, ⟨T111, L111, k111, n111⟩, -, X111, ⟨Lc111, hQ111, l111, y111, z111⟩, st111⟩ := X110.virtualBack hx (y := (⟨"com/example/pagetools/pagetools/Total", "pages", "(I)J"⟩ : MethodName)) (z := (⟨"com/example/pagetools/pagetools/Total", "pages", "(I)J"⟩ : MethodName)) hown (mvT hZ (hw _ (List.mem_of_getElem? (i := 22) rfl))) (mvT hZ (hw _ (List.mem_of_getElem? (i := 23) rfl))) (notFace_of_selects (args := #[]) (mvT hZ (hw _ (List.mem_of_getElem? (i := 25) rfl)))) (mvT hZ (hw _ (List.mem_of_getElem? (i := 25) rfl))) (mvT hZ (hw _ (List.mem_of_getElem? (i := 24) rfl))) (by decide) (backOf (W := 0) (rm5 l Z a0 hw [] a3 z r T110.heap F4 hz1 hz0) hZ (hw _ (List.mem_of_getElem? (i := 26) rfl)) (hw _ (List.mem_of_getElem? (i := 8) rfl)) (by decide) (by decide)) q111a q111c (g := (mkF m 30 #[.val (.long x0), .second, .val (.int x1), .val (.long r), .second, .val (.int z), .val (.ref a3), .unset, .unset, .unset, .unset, .unset, .unset, .unset, .unset] [(.int z), (.ref a3)])) rfl (by rw [hml]; rfl) (Steps.refl _) (argsL := [(.int z)]) (rest := []) (lenOf pd5 rfl) rfl (by show 2 * 0 + _ ≤ _; exact Nat.le_of_eq rfl) (hb hby at_30) (fun _ _ => ⟨rfl, rfl, (by decide : 1 + 0 ≤ _), (by decide : 1 + 0 ≤ _)⟩)
  dsimp only [Pt.U, Pt.locs, Pt.cells, Pt.slots] at X111 l111 y111 z111 st111 hQ111
  subst l111 y111 z111
  obtain ⟨rfl, rfl, e111⟩ := hQ111
  refine own_go (fun t k => st111.trans k) ?_
  show own_G p e below s (own_Q0 n0) 16 128 (T111.setTop (mkF m 33 #[.val (.long x0), .second, .val (.int x1), .val (.long r), .second, .val (.int z), .val (.ref a3), .unset, .unset, .unset, .unset, .unset, .unset, .unset, .unset] [(.long (own_pages r z))]))
  refine own_go (fun t k => XT.lstore X111.here hx rfl (hb hby at_33) rfl (l' := #[.val (.long x0), .second, .val (.int x1), .val (.long r), .second, .val (.int z), .val (.ref a3), .val (.long (own_pages r z)), .second, .unset, .unset, .unset, .unset, .unset, .unset]) rfl k) ?_
  show own_G p e below s (own_Q0 n0) 16 128 (T111.setTop (mkF m 35 #[.val (.long x0), .second, .val (.int x1), .val (.long r), .second, .val (.int z), .val (.ref a3), .val (.long (own_pages r z)), .second, .unset, .unset, .unset, .unset, .unset, .unset] []))
  refine own_go (fun t k => XT.lloadN X111.here hx rfl (hb hby at_35) rfl k) ?_
  show own_G p e below s (own_Q0 n0) 16 128 (T111.setTop (mkF m 36 #[.val (.long x0), .second, .val (.int x1), .val (.long r), .second, .val (.int z), .val (.ref a3), .val (.long (own_pages r z)), .second, .unset, .unset, .unset, .unset, .unset, .unset] [(.long r)]))
  refine own_go (fun t k => XS.iload X111.here hx rfl (hb hby at_36) rfl k) ?_
  show own_G p e below s (own_Q0 n0) 16 128 (T111.setTop (mkF m 38 #[.val (.long x0), .second, .val (.int x1), .val (.long r), .second, .val (.int z), .val (.ref a3), .val (.long (own_pages r z)), .second, .unset, .unset, .unset, .unset, .unset, .unset] [(.int z), (.long r)]))
  refine own_go (fun t k => XT.i2l X111.here hx rfl (hb hby at_38) rfl k) ?_
  show own_G p e below s (own_Q0 n0) 16 128 (T111.setTop (mkF m 39 #[.val (.long x0), .second, .val (.int x1), .val (.long r), .second, .val (.int z), .val (.ref a3), .val (.long (own_pages r z)), .second, .unset, .unset, .unset, .unset, .unset, .unset] [(.long z.toInt64), (.long r)]))
  refine own_go (fun t k => XT.ldiv X111.here hx rfl (hb hby at_39) rfl hz0 k) ?_
  show own_G p e below s (own_Q0 n0) 16 128 (T111.setTop (mkF m 40 #[.val (.long x0), .second, .val (.int x1), .val (.long r), .second, .val (.int z), .val (.ref a3), .val (.long (own_pages r z)), .second, .unset, .unset, .unset, .unset, .unset, .unset] [(.long (r / z.toInt64))]))
  refine own_go (fun t k => XT.lstore X111.here hx rfl (hb hby at_40) rfl (l' := #[.val (.long x0), .second, .val (.int x1), .val (.long r), .second, .val (.int z), .val (.ref a3), .val (.long (own_pages r z)), .second, .val (.long (r / z.toInt64)), .second, .unset, .unset, .unset, .unset]) rfl k) ?_
  show own_G p e below s (own_Q0 n0) 16 128 (T111.setTop (mkF m 42 #[.val (.long x0), .second, .val (.int x1), .val (.long r), .second, .val (.int z), .val (.ref a3), .val (.long (own_pages r z)), .second, .val (.long (r / z.toInt64)), .second, .unset, .unset, .unset, .unset] []))
  refine own_go (fun t k => XT.lloadN X111.here hx rfl (hb hby at_42) rfl k) ?_
  show own_G p e below s (own_Q0 n0) 16 128 (T111.setTop (mkF m 43 #[.val (.long x0), .second, .val (.int x1), .val (.long r), .second, .val (.int z), .val (.ref a3), .val (.long (own_pages r z)), .second, .val (.long (r / z.toInt64)), .second, .unset, .unset, .unset, .unset] [(.long r)]))
  refine own_go (fun t k => XS.iload X111.here hx rfl (hb hby at_43) rfl k) ?_
  show own_G p e below s (own_Q0 n0) 16 128 (T111.setTop (mkF m 45 #[.val (.long x0), .second, .val (.int x1), .val (.long r), .second, .val (.int z), .val (.ref a3), .val (.long (own_pages r z)), .second, .val (.long (r / z.toInt64)), .second, .unset, .unset, .unset, .unset] [(.int z), (.long r)]))
  refine own_go (fun t k => XT.i2l X111.here hx rfl (hb hby at_45) rfl k) ?_
  show own_G p e below s (own_Q0 n0) 16 128 (T111.setTop (mkF m 46 #[.val (.long x0), .second, .val (.int x1), .val (.long r), .second, .val (.int z), .val (.ref a3), .val (.long (own_pages r z)), .second, .val (.long (r / z.toInt64)), .second, .unset, .unset, .unset, .unset] [(.long z.toInt64), (.long r)]))
  refine own_go (fun t k => XT.lrem X111.here hx rfl (hb hby at_46) rfl hz0 k) ?_
  show own_G p e below s (own_Q0 n0) 16 128 (T111.setTop (mkF m 47 #[.val (.long x0), .second, .val (.int x1), .val (.long r), .second, .val (.int z), .val (.ref a3), .val (.long (own_pages r z)), .second, .val (.long (r / z.toInt64)), .second, .unset, .unset, .unset, .unset] [(.long (r - (r / z.toInt64) * z.toInt64))]))
  refine own_go (fun t k => XT.lstore X111.here hx rfl (hb hby at_47) rfl (l' := #[.val (.long x0), .second, .val (.int x1), .val (.long r), .second, .val (.int z), .val (.ref a3), .val (.long (own_pages r z)), .second, .val (.long (r / z.toInt64)), .second, .val (.long (r - (r / z.toInt64) * z.toInt64)), .second, .unset, .unset]) rfl k) ?_
  show own_G p e below s (own_Q0 n0) 16 128 (T111.setTop (mkF m 49 #[.val (.long x0), .second, .val (.int x1), .val (.long r), .second, .val (.int z), .val (.ref a3), .val (.long (own_pages r z)), .second, .val (.long (r / z.toInt64)), .second, .val (.long (r - (r / z.toInt64) * z.toInt64)), .second, .unset, .unset] []))
  refine own_go (fun t k => XT.lload X111.here hx rfl (hb hby at_49) rfl k) ?_
  show own_G p e below s (own_Q0 n0) 16 128 (T111.setTop (mkF m 51 #[.val (.long x0), .second, .val (.int x1), .val (.long r), .second, .val (.int z), .val (.ref a3), .val (.long (own_pages r z)), .second, .val (.long (r / z.toInt64)), .second, .val (.long (r - (r / z.toInt64) * z.toInt64)), .second, .unset, .unset] [(.long (r - (r / z.toInt64) * z.toInt64))]))
  refine own_go (fun t k => XT.lconst X111.here hx rfl (hb hby at_51) k) ?_
  show own_G p e below s (own_Q0 n0) 16 128 (T111.setTop (mkF m 52 #[.val (.long x0), .second, .val (.int x1), .val (.long r), .second, .val (.int z), .val (.ref a3), .val (.long (own_pages r z)), .second, .val (.long (r / z.toInt64)), .second, .val (.long (r - (r / z.toInt64) * z.toInt64)), .second, .unset, .unset] [(.long (0 : Int64)), (.long (r - (r / z.toInt64) * z.toInt64))]))
  refine own_go (fun t k => XT.lcmp X111.here hx rfl (hb hby at_52) rfl k) ?_
  show own_G p e below s (own_Q0 n0) 16 128 (T111.setTop (mkF m 53 #[.val (.long x0), .second, .val (.int x1), .val (.long r), .second, .val (.int z), .val (.ref a3), .val (.long (own_pages r z)), .second, .val (.long (r / z.toInt64)), .second, .val (.long (r - (r / z.toInt64) * z.toInt64)), .second, .unset, .unset] [(.int (XT.cmpL (r - (r / z.toInt64) * z.toInt64) (0 : Int64)))]))
  have J67 : ∀ (ex : Int64) (hex : own_pages r z = ex), own_G p e below s (own_Q0 n0) 16 128 (T111.setTop (mkF m 67 #[.val (.long x0), .second, .val (.int x1), .val (.long r), .second, .val (.int z), .val (.ref a3), .val (.long (own_pages r z)), .second, .val (.long (r / z.toInt64)), .second, .val (.long (r - (r / z.toInt64) * z.toInt64)), .second, .val (.long ex), .second] [])) := by
    intro ex hex
    refine own_go (fun t k => XT.lload X111.here hx rfl (hb hby at_67) rfl k) ?_
    show own_G p e below s (own_Q0 n0) 16 128 (T111.setTop (mkF m 69 #[.val (.long x0), .second, .val (.int x1), .val (.long r), .second, .val (.int z), .val (.ref a3), .val (.long (own_pages r z)), .second, .val (.long (r / z.toInt64)), .second, .val (.long (r - (r / z.toInt64) * z.toInt64)), .second, .val (.long ex), .second] [(.long (own_pages r z))]))
    refine own_go (fun t k => XT.lload X111.here hx rfl (hb hby at_69) rfl k) ?_
    show own_G p e below s (own_Q0 n0) 16 128 (T111.setTop (mkF m 71 #[.val (.long x0), .second, .val (.int x1), .val (.long r), .second, .val (.int z), .val (.ref a3), .val (.long (own_pages r z)), .second, .val (.long (r / z.toInt64)), .second, .val (.long (r - (r / z.toInt64) * z.toInt64)), .second, .val (.long ex), .second] [(.long ex), (.long (own_pages r z))]))
    refine own_go (fun t k => XT.lcmp X111.here hx rfl (hb hby at_71) rfl k) ?_
    show own_G p e below s (own_Q0 n0) 16 128 (T111.setTop (mkF m 72 #[.val (.long x0), .second, .val (.int x1), .val (.long r), .second, .val (.int z), .val (.ref a3), .val (.long (own_pages r z)), .second, .val (.long (r / z.toInt64)), .second, .val (.long (r - (r / z.toInt64) * z.toInt64)), .second, .val (.long ex), .second] [(.int (XT.cmpL (own_pages r z) ex))]))
    refine own_go (fun t k => XS.ifNo X111.here hx rfl (hb hby at_72) rfl (XT.ll_ne_f hex) k) ?_
    show own_G p e below s (own_Q0 n0) 16 128 (T111.setTop (mkF m 75 #[.val (.long x0), .second, .val (.int x1), .val (.long r), .second, .val (.int z), .val (.ref a3), .val (.long (own_pages r z)), .second, .val (.long (r / z.toInt64)), .second, .val (.long (r - (r / z.toInt64) * z.toInt64)), .second, .val (.long ex), .second] []))
    refine own_go (fun t k => XS.aload X111.here hx rfl (hb hby at_75) rfl rfl k) ?_
    show own_G p e below s (own_Q0 n0) 16 128 (T111.setTop (mkF m 77 #[.val (.long x0), .second, .val (.int x1), .val (.long r), .second, .val (.int z), .val (.ref a3), .val (.long (own_pages r z)), .second, .val (.long (r / z.toInt64)), .second, .val (.long (r - (r / z.toInt64) * z.toInt64)), .second, .val (.long ex), .second] [(.ref a3)]))
    obtain ⟨cq112, kq112, q112a, q112b, q112c⟩ := isOf hZ e111 E4
    obtain ⟨_, _, ⟨T112, L112, k112, n112⟩, -, X112, ⟨Lc112, hQ112, l112, y112, z112⟩, st112⟩ := X111.virtualBack hx (y := (⟨"com/example/pagetools/pagetools/Total", "rows", "()J"⟩ : MethodName)) (z := (⟨"com/example/pagetools/pagetools/Total", "rows", "()J"⟩ : MethodName)) hown (mvT hZ (hw _ (List.mem_of_getElem? (i := 31) rfl))) (mvT hZ (hw _ (List.mem_of_getElem? (i := 32) rfl))) (notFace_of_selects (args := #[]) (mvT hZ (hw _ (List.mem_of_getElem? (i := 34) rfl)))) (mvT hZ (hw _ (List.mem_of_getElem? (i := 34) rfl))) (mvT hZ (hw _ (List.mem_of_getElem? (i := 33) rfl))) (by decide) (backOf (W := 0) (rm7 l Z a0 hw [] a3 r T110.heap F4) hZ (hw _ (List.mem_of_getElem? (i := 35) rfl)) (hw _ (List.mem_of_getElem? (i := 8) rfl)) (by decide) (by decide)) q112a q112c (g := (mkF m 77 #[.val (.long x0), .second, .val (.int x1), .val (.long r), .second, .val (.int z), .val (.ref a3), .val (.long (own_pages r z)), .second, .val (.long (r / z.toInt64)), .second, .val (.long (r - (r / z.toInt64) * z.toInt64)), .second, .val (.long ex), .second] [(.ref a3)])) rfl (by rw [hml]; rfl) (Steps.refl _) (argsL := []) (rest := []) (lenOf pd7 rfl) rfl (by show 2 * 0 + _ ≤ _; exact Nat.le_of_eq rfl) (hb hby at_77) (fun _ _ => ⟨rfl, e111, (by decide : 1 + 0 ≤ _), (by decide : 1 + 0 ≤ _)⟩)
    dsimp only [Pt.U, Pt.locs, Pt.cells, Pt.slots] at X112 l112 y112 z112 st112 hQ112
    subst l112 y112 z112
    obtain ⟨rfl, rfl, e112⟩ := hQ112
    refine own_go (fun t k => st112.trans k) ?_
    show own_G p e below s (own_Q0 n0) 16 128 (T112.setTop (mkF m 80 #[.val (.long x0), .second, .val (.int x1), .val (.long r), .second, .val (.int z), .val (.ref a3), .val (.long (own_pages r z)), .second, .val (.long (r / z.toInt64)), .second, .val (.long (r - (r / z.toInt64) * z.toInt64)), .second, .val (.long ex), .second] [(.long r)]))
    refine own_go (fun t k => XT.lloadN X112.here hx rfl (hb hby at_80) rfl k) ?_
    show own_G p e below s (own_Q0 n0) 16 128 (T112.setTop (mkF m 81 #[.val (.long x0), .second, .val (.int x1), .val (.long r), .second, .val (.int z), .val (.ref a3), .val (.long (own_pages r z)), .second, .val (.long (r / z.toInt64)), .second, .val (.long (r - (r / z.toInt64) * z.toInt64)), .second, .val (.long ex), .second] [(.long r), (.long r)]))
    refine own_go (fun t k => XT.lcmp X112.here hx rfl (hb hby at_81) rfl k) ?_
    show own_G p e below s (own_Q0 n0) 16 128 (T112.setTop (mkF m 82 #[.val (.long x0), .second, .val (.int x1), .val (.long r), .second, .val (.int z), .val (.ref a3), .val (.long (own_pages r z)), .second, .val (.long (r / z.toInt64)), .second, .val (.long (r - (r / z.toInt64) * z.toInt64)), .second, .val (.long ex), .second] [(.int (XT.cmpL r r))]))
    refine own_go (fun t k => XS.ifNo X112.here hx rfl (hb hby at_82) rfl (XT.ll_ne_f rfl) k) ?_
    show own_G p e below s (own_Q0 n0) 16 128 (T112.setTop (mkF m 85 #[.val (.long x0), .second, .val (.int x1), .val (.long r), .second, .val (.int z), .val (.ref a3), .val (.long (own_pages r z)), .second, .val (.long (r / z.toInt64)), .second, .val (.long (r - (r / z.toInt64) * z.toInt64)), .second, .val (.long ex), .second] []))
    refine own_go (fun t k => XS.iconst X112.here hx rfl (hb hby at_85) k) ?_
    show own_G p e below s (own_Q0 n0) 16 128 (T112.setTop (mkF m 86 #[.val (.long x0), .second, .val (.int x1), .val (.long r), .second, .val (.int z), .val (.ref a3), .val (.long (own_pages r z)), .second, .val (.long (r / z.toInt64)), .second, .val (.long (r - (r / z.toInt64) * z.toInt64)), .second, .val (.long ex), .second] [(.int (1 : Int32))]))
    refine own_go (fun t k => XS.goto X112.here hx rfl (pc0 := 86) (pc' := 90) rfl (hb hby at_86) (by decide) (by decide) k) ?_
    show own_G p e below s (own_Q0 n0) 16 128 (T112.setTop (mkF m 90 #[.val (.long x0), .second, .val (.int x1), .val (.long r), .second, .val (.int z), .val (.ref a3), .val (.long (own_pages r z)), .second, .val (.long (r / z.toInt64)), .second, .val (.long (r - (r / z.toInt64) * z.toInt64)), .second, .val (.long ex), .second] [(.int (1 : Int32))]))
    exact own_leave X112 (some (.int (1 : Int32))) (fun h => by rw [Bd.returns] at h; cases h) Bd.notSynchronized (fun fs hr => retN X112 hx (t := .boolean) Bd.returns (by simp) (hb hby at_90) hr) ⟨rfl, (Fr.app (Fr.app (Fr.app (Fr.app (Fr.nil n0) (Fr.nil n0)) N4) (Fr.nil n0)) (Fr.nil n0))⟩ (by decide) (by decide)
  by_cases h1 : (r - (r / z.toInt64) * z.toInt64) = (0 : Int64)
  · skip
    refine own_go (fun t k => XS.ifNo X111.here hx rfl (hb hby at_53) rfl (XT.ll_ne_f h1) k) ?_
    show own_G p e below s (own_Q0 n0) 16 128 (T111.setTop (mkF m 56 #[.val (.long x0), .second, .val (.int x1), .val (.long r), .second, .val (.int z), .val (.ref a3), .val (.long (own_pages r z)), .second, .val (.long (r / z.toInt64)), .second, .val (.long (r - (r / z.toInt64) * z.toInt64)), .second, .unset, .unset] []))
    refine own_go (fun t k => XT.lload X111.here hx rfl (hb hby at_56) rfl k) ?_
    show own_G p e below s (own_Q0 n0) 16 128 (T111.setTop (mkF m 58 #[.val (.long x0), .second, .val (.int x1), .val (.long r), .second, .val (.int z), .val (.ref a3), .val (.long (own_pages r z)), .second, .val (.long (r / z.toInt64)), .second, .val (.long (r - (r / z.toInt64) * z.toInt64)), .second, .unset, .unset] [(.long (r / z.toInt64))]))
    refine own_go (fun t k => XS.goto X111.here hx rfl (pc0 := 58) (pc' := 65) rfl (hb hby at_58) (by decide) (by decide) k) ?_
    show own_G p e below s (own_Q0 n0) 16 128 (T111.setTop (mkF m 65 #[.val (.long x0), .second, .val (.int x1), .val (.long r), .second, .val (.int z), .val (.ref a3), .val (.long (own_pages r z)), .second, .val (.long (r / z.toInt64)), .second, .val (.long (r - (r / z.toInt64) * z.toInt64)), .second, .unset, .unset] [(.long (r / z.toInt64))]))
    refine own_go (fun t k => XT.lstore X111.here hx rfl (hb hby at_65) rfl (l' := #[.val (.long x0), .second, .val (.int x1), .val (.long r), .second, .val (.int z), .val (.ref a3), .val (.long (own_pages r z)), .second, .val (.long (r / z.toInt64)), .second, .val (.long (r - (r / z.toInt64) * z.toInt64)), .second, .val (.long (r / z.toInt64)), .second]) rfl k) ?_
    show own_G p e below s (own_Q0 n0) 16 128 (T111.setTop (mkF m 67 #[.val (.long x0), .second, .val (.int x1), .val (.long r), .second, .val (.int z), .val (.ref a3), .val (.long (own_pages r z)), .second, .val (.long (r / z.toInt64)), .second, .val (.long (r - (r / z.toInt64) * z.toInt64)), .second, .val (.long (r / z.toInt64)), .second] []))
    exact J67 _ (own_pages_0 hr hz h1)
  · skip
    refine own_go (fun t k => XS.ifYes X111.here hx rfl (pc0 := 53) (pc' := 61) rfl (hb hby at_53) rfl (XT.ll_ne_t h1) (by decide) (by decide) k) ?_
    show own_G p e below s (own_Q0 n0) 16 128 (T111.setTop (mkF m 61 #[.val (.long x0), .second, .val (.int x1), .val (.long r), .second, .val (.int z), .val (.ref a3), .val (.long (own_pages r z)), .second, .val (.long (r / z.toInt64)), .second, .val (.long (r - (r / z.toInt64) * z.toInt64)), .second, .unset, .unset] []))
    refine own_go (fun t k => XT.lload X111.here hx rfl (hb hby at_61) rfl k) ?_
    show own_G p e below s (own_Q0 n0) 16 128 (T111.setTop (mkF m 63 #[.val (.long x0), .second, .val (.int x1), .val (.long r), .second, .val (.int z), .val (.ref a3), .val (.long (own_pages r z)), .second, .val (.long (r / z.toInt64)), .second, .val (.long (r - (r / z.toInt64) * z.toInt64)), .second, .unset, .unset] [(.long (r / z.toInt64))]))
    refine own_go (fun t k => XT.lconst X111.here hx rfl (hb hby at_63) k) ?_
    show own_G p e below s (own_Q0 n0) 16 128 (T111.setTop (mkF m 64 #[.val (.long x0), .second, .val (.int x1), .val (.long r), .second, .val (.int z), .val (.ref a3), .val (.long (own_pages r z)), .second, .val (.long (r / z.toInt64)), .second, .val (.long (r - (r / z.toInt64) * z.toInt64)), .second, .unset, .unset] [(.long (1 : Int64)), (.long (r / z.toInt64))]))
    refine own_go (fun t k => XT.ladd X111.here hx rfl (hb hby at_64) rfl k) ?_
    show own_G p e below s (own_Q0 n0) 16 128 (T111.setTop (mkF m 65 #[.val (.long x0), .second, .val (.int x1), .val (.long r), .second, .val (.int z), .val (.ref a3), .val (.long (own_pages r z)), .second, .val (.long (r / z.toInt64)), .second, .val (.long (r - (r / z.toInt64) * z.toInt64)), .second, .unset, .unset] [(.long ((r / z.toInt64) + (1 : Int64)))]))
    refine own_go (fun t k => XT.lstore X111.here hx rfl (hb hby at_65) rfl (l' := #[.val (.long x0), .second, .val (.int x1), .val (.long r), .second, .val (.int z), .val (.ref a3), .val (.long (own_pages r z)), .second, .val (.long (r / z.toInt64)), .second, .val (.long (r - (r / z.toInt64) * z.toInt64)), .second, .val (.long ((r / z.toInt64) + (1 : Int64))), .second]) rfl k) ?_
    show own_G p e below s (own_Q0 n0) 16 128 (T111.setTop (mkF m 67 #[.val (.long x0), .second, .val (.int x1), .val (.long r), .second, .val (.int z), .val (.ref a3), .val (.long (own_pages r z)), .second, .val (.long (r / z.toInt64)), .second, .val (.long (r - (r / z.toInt64) * z.toInt64)), .second, .val (.long ((r / z.toInt64) + (1 : Int64))), .second] []))
    exact J67 _ (own_pages_1 hr hz h1)
set_option maxRecDepth 65536 in
set_option maxHeartbeats 40000000 in
theorem comes_1 {Post : Tables → Env → Array Value → State → Outcome → State → Prop} (hpost : ∀ tb e args s v u, (limb_1_1.after args s (.returned v) u = true ∧ limb_1_2.after args s (.returned v) u = true ∧ True) → FrameEnd s (.returned v) u (Jvm.fieldLocs frame_1_writes args s ++ Jvm.arrayLocs frame_1_arrays args s ++ Jvm.staticLocs frame_1_statics s) 16 128 → Post tb e args s (.returned v) u) :
    ArmFor flags0 classFile x code maxLocals ret World_1 tables_1 room_1 Calls_1 rest_1 Pre_1 Post := by
  intro l hfl _ _ p e ha hc hk s m args below hf hA hF happ hP
  obtain ⟨hcalls, hrest, hpre⟩ := hP
  obtain ⟨-, -, -, hnamed, -, -, -, hat⟩ := (Spec.applies_iff hf).mp happ
  obtain ⟨hg, hn⟩ := and_e (Cond.before_iff.mp (show (Jvm.Cond.and given_1 narrow_1).before args s = true from hpre))
  obtain ⟨h1, r0⟩ := and_e hg
  obtain ⟨k0, r1⟩ := and_e r0
  obtain ⟨w0, w1, rfl⟩ : ∃ w0 w1 : Value, args = #[w0, w1] := by
    have hs : args.size = 2 := by simpa [Cond.value, given_1] using h1
    obtain ⟨L⟩ := args
    match L, hs with
    | [w0, w1], _ => exact ⟨w0, w1, rfl⟩
  have hw := fun d (hd : d ∈ tables_1) => atoms_spec (ws := Jvm.Cond.code x code maxLocals ret :: tables_1) hat d (List.mem_cons_of_mem _ hd)
  obtain ⟨i0, e0⟩ := isL_v k0
  obtain rfl : w0 = (.long i0) := Option.some.inj e0
  obtain ⟨i1, e1⟩ := is_v r1
  obtain rfl : w1 = (.int i1) := Option.some.inj e1
  obtain ⟨n, o, h1, h2, h3, _, L, rfl, ⟨rfl, N⟩, hq⟩ := rm0 l s _ hw tables_1 i0 i1 s.heap s.heap.size (Nat.le_refl _)  p e ha hc hk s m _ below hf ((Spec.applies_iff_loose hf).mp happ).1 ⟨rfl, State.Warmed39.refl s, rfl⟩ trivial
  refine ⟨n, _, h1, h2, h3, hpost _ _ _ _ _ _ ⟨Cond.after_iff.mpr rfl, Cond.after_iff.mpr (eq_i res_at (Term.int_eval (1)) rfl), trivial⟩ ⟨hq.1, hq.2.1, (hq.2.2.sift fun y hy => Or.inr (N y hy)).mono (by decide) (by decide)⟩⟩
theorem main_1_1 : Claimed_1_1 := comes_1 fun _ _ _ _ _ _ h hF => ⟨h.1, hF⟩
theorem main_1_2 : Claimed_1_2 := comes_1 fun _ _ _ _ _ _ h hF => ⟨h.2.1, hF⟩
end Jvm.Pilot.@@N@@
namespace Jvm.Pilot.@@N@@
open Jvm Jvm.ClassFile Sem Op Lib Jvm.Free Jvm.Stand Jvm.Pilot.@@N@@.Jvm.D
/-! MADE BY PROGRAM (witnessworld.py) out of the Statement's table words and the real class files: 12 classes; the members and pool entries that the words name. The judged class is class 1, her method 1. -/
namespace start1
open Jvm.ClassFile
def u (s : String) : CpInfo := .utf8 (stringToUtf16 s)
/-- a pool by its gaps: so many unusable entries, then the entry; so many at the end -/
def gap : Nat → List CpInfo → List CpInfo
  | 0, r => r
  | n + 1, r => .unusable :: gap n r
def poolList (es : List (Nat × CpInfo)) (last : Nat) : List CpInfo := es.foldr (fun e r => gap e.1 (e.2 :: r)) (gap last [])
def pool (es : List (Nat × CpInfo)) (last : Nat) : Array CpInfo := ⟨poolList es last⟩
def fileOf (pool : Array CpInfo) (this : Nat) (attrs : Array Attribute := #[]) (ms : Array MethodInfo := #[]) (fl : Nat := 33) (sup : Nat := 0) (ifs : Array Nat := #[]) (fds : Array FieldInfo := #[]) : ClassFile where
  minorVersion := 0
  majorVersion := 65
  constantPool := pool
  accessFlags := fl
  thisClass := this
  superClass := sup
  interfaces := ifs
  fields := fds
  methods := ms
  attributes := attrs
def plain (name : String) (sup : Option ClassId) : Class where
  name := name
  kind := .ordinary
  loader := none
  accessFlags := 33
  super := sup
  interfaces := #[]
  cf := none
  fields := #[]
  methods := #[]
  instanceTypes := #[]
  staticTypes := #[]
  resolved := #[]
  callSites := []
  init := .initialized
  statics := none
  mirror := none

def pool0 : Array CpInfo := pool [(5, u "<init>"), (0, u "()V"), (1, .class_ 10), (1, u "java/lang/Object")] 113

def k0c0 : Code := { maxStack := 0, maxLocals := 1, code := object_method_1_code, exceptionTable := #[], attributes := #[] }
def k0m0 : Method := { name := "<init>", desc := "()V", sig := { parameters := [], returnType := none }, accessFlags := 1, code := some k0c0 }
/-- java/lang/Object -/
def k0 : Class := { plain "java/lang/Object" none with
  accessFlags := 33
  interfaces := #[]
  cf := some (fileOf pool0 8 #[] #[{ accessFlags := 1, nameIndex := 5, descriptorIndex := 6, attributes := #[] }] 33 0 #[] #[])
  fields := #[]
  methods := #[k0m0]
  instanceTypes := #[]
  staticTypes := #[]
  resolved := Array.replicate 124 none
  statics := none }

def pool1 : Array CpInfo := pool [(2, .class_ 4), (1, u "java/lang/Object"), (0, u "<init>"), (0, u "()V"), (2, .long 9223372036854775807), (1, .integer 2147483647), (0, .methodref 13 14), (0, .class_ 15), (0, .nameAndType 16 17), (0, u "java/lang/Math"), (0, u "max"), (0, u "(II)I"), (0, .class_ 19), (0, u "com/example/pagetools/pagetools/Total"), (0, .methodref 18 21), (0, .nameAndType 5 22), (0, u "(J)V"), (0, .methodref 18 24), (0, .nameAndType 25 26), (0, u "pages"), (0, u "(I)J"), (0, .methodref 18 28), (0, .nameAndType 29 30), (0, u "rows"), (0, u "()J"), (0, .class_ 32), (0, u "com/example/pagetools/pagetools/TotalPagesPinLaw"), (2, u "law"), (0, u "(JI)Z")] 3

def k1m0 : Method := { name := "<init>", desc := "()V", sig := { parameters := [], returnType := none }, accessFlags := 1, code := none }
def k1c1 : Code := { maxStack := 4, maxLocals := 15, code := code, exceptionTable := #[], attributes := #[] }
def k1m1 : Method := { name := "law", desc := "(JI)Z", sig := { parameters := [.long, .int], returnType := some .boolean }, accessFlags := 9, code := some k1c1 }
/-- com/example/pagetools/pagetools/TotalPagesPinLaw -/
def k1 : Class := { plain "com/example/pagetools/pagetools/TotalPagesPinLaw" (some 0) with
  accessFlags := 49
  interfaces := #[]
  cf := some (fileOf pool1 31 #[] #[{ accessFlags := 1, nameIndex := 5, descriptorIndex := 6, attributes := #[] }, { accessFlags := 9, nameIndex := 35, descriptorIndex := 36, attributes := #[] }] 49 2 #[] #[])
  fields := #[]
  methods := #[k1m0, k1m1]
  instanceTypes := #[]
  staticTypes := #[]
  resolved := Array.replicate 40 none
  statics := none }

def pool2 : Array CpInfo := pool [(1, .class_ 2), (0, u "java/lang/Math"), (1, .class_ 6), (1, u "java/lang/Object"), (0, u "<init>"), (0, u "()V"), (89, .class_ 100), (1, u "java/lang/Math$RandomNumberGeneratorHolder"), (71, u "negativeZeroFloatBits"), (0, u "J"), (2, u "negativeZeroDoubleBits"), (21, u "max"), (46, u "$assertionsDisabled"), (0, u "Z"), (88, u "(II)I"), (2, u "twoToTheDoubleScaleDown"), (0, u "D"), (4, u "twoToTheDoubleScaleUp"), (9, u "E"), (3, u "PI"), (2, u "TAU"), (2, u "DEGREES_TO_RADIANS"), (0, u "RADIANS_TO_DEGREES")] 94

def k2m0 : Method := { name := "<init>", desc := "()V", sig := { parameters := [], returnType := none }, accessFlags := 2, code := none }
def k2c1 : Code := { maxStack := 2, maxLocals := 2, code := jdk_29_method_65_code, exceptionTable := #[], attributes := #[] }
def k2m1 : Method := { name := "max", desc := "(II)I", sig := { parameters := [.int, .int], returnType := some .int }, accessFlags := 9, code := some k2c1 }
/-- java/lang/Math -/
def k2 : Class := { plain "java/lang/Math" (some 0) with
  accessFlags := 49
  interfaces := #[]
  cf := some (fileOf pool2 1 #[.nestMembers #[98]] #[{ accessFlags := 2, nameIndex := 7, descriptorIndex := 8, attributes := #[] }, { accessFlags := 9, nameIndex := 198, descriptorIndex := 335, attributes := #[] }] 49 4 #[] #[{ accessFlags := 25, nameIndex := 354, descriptorIndex := 339, attributes := #[] }, { accessFlags := 25, nameIndex := 358, descriptorIndex := 339, attributes := #[] }, { accessFlags := 25, nameIndex := 361, descriptorIndex := 339, attributes := #[] }, { accessFlags := 26, nameIndex := 364, descriptorIndex := 339, attributes := #[] }, { accessFlags := 26, nameIndex := 365, descriptorIndex := 339, attributes := #[] }, { accessFlags := 26, nameIndex := 172, descriptorIndex := 173, attributes := #[] }, { accessFlags := 26, nameIndex := 176, descriptorIndex := 173, attributes := #[] }, { accessFlags := 8, nameIndex := 344, descriptorIndex := 339, attributes := #[] }, { accessFlags := 8, nameIndex := 338, descriptorIndex := 339, attributes := #[] }, { accessFlags := 4120, nameIndex := 245, descriptorIndex := 246, attributes := #[] }])
  fields := #[{ name := "E", type := .double, accessFlags := 25, slot := 0, constantValue := 0 }, { name := "PI", type := .double, accessFlags := 25, slot := 1, constantValue := 0 }, { name := "TAU", type := .double, accessFlags := 25, slot := 2, constantValue := 0 }, { name := "DEGREES_TO_RADIANS", type := .double, accessFlags := 26, slot := 3, constantValue := 0 }, { name := "RADIANS_TO_DEGREES", type := .double, accessFlags := 26, slot := 4, constantValue := 0 }, { name := "negativeZeroFloatBits", type := .long, accessFlags := 26, slot := 5, constantValue := 0 }, { name := "negativeZeroDoubleBits", type := .long, accessFlags := 26, slot := 6, constantValue := 0 }, { name := "twoToTheDoubleScaleUp", type := .double, accessFlags := 8, slot := 7, constantValue := 0 }, { name := "twoToTheDoubleScaleDown", type := .double, accessFlags := 8, slot := 8, constantValue := 0 }, { name := "$assertionsDisabled", type := .boolean, accessFlags := 4120, slot := 9, constantValue := 0 }]
  methods := #[k2m0, k2m1]
  instanceTypes := #[]
  staticTypes := #[.double, .double, .double, .double, .double, .long, .long, .double, .double, .boolean]
  resolved := Array.replicate 460 none
  statics := none }

def pool3 : Array CpInfo := pool [(1, .methodref 2 3), (0, .class_ 4), (0, .nameAndType 5 6), (0, u "java/lang/Object"), (0, u "<init>"), (0, u "()V"), (0, .class_ 8), (0, u "java/lang/Record")] 13

def k3c0 : Code := { maxStack := 1, maxLocals := 1, code := jdk_30_method_1_code, exceptionTable := #[], attributes := #[] }
def k3m0 : Method := { name := "<init>", desc := "()V", sig := { parameters := [], returnType := none }, accessFlags := 4, code := some k3c0 }
/-- java/lang/Record -/
def k3 : Class := { plain "java/lang/Record" (some 0) with
  accessFlags := 1057
  interfaces := #[]
  cf := some (fileOf pool3 7 #[] #[{ accessFlags := 4, nameIndex := 5, descriptorIndex := 6, attributes := #[] }] 1057 2 #[] #[])
  fields := #[]
  methods := #[k3m0]
  instanceTypes := #[]
  staticTypes := #[]
  resolved := Array.replicate 22 none
  statics := none }

def pool4 : Array CpInfo := pool [(1, .methodref 2 3), (0, .class_ 4), (0, .nameAndType 5 6), (0, u "java/lang/Record"), (0, u "<init>"), (0, u "()V"), (9, .fieldref 17 18), (0, .class_ 19), (0, .nameAndType 20 21), (0, u "com/example/pagetools/pagetools/Total"), (0, u "rows"), (0, u "J"), (0, .methodref 23 24), (0, .class_ 25), (0, .nameAndType 26 27), (0, u "com/example/pagetools/pagetools/Page"), (0, u "requirePageSize"), (0, u "(I)V"), (12, u "(J)V"), (4, u "pages"), (0, u "(I)J"), (3, u "()J")] 27

def k4c0 : Code := { maxStack := 4, maxLocals := 3, code := prog_79_method_1_code, exceptionTable := #[], attributes := #[] }
def k4m0 : Method := { name := "<init>", desc := "(J)V", sig := { parameters := [.long], returnType := none }, accessFlags := 1, code := some k4c0 }
def k4c1 : Code := { maxStack := 4, maxLocals := 2, code := prog_79_method_2_code, exceptionTable := #[], attributes := #[] }
def k4m1 : Method := { name := "pages", desc := "(I)J", sig := { parameters := [.int], returnType := some .long }, accessFlags := 1, code := some k4c1 }
def k4c2 : Code := { maxStack := 2, maxLocals := 1, code := prog_79_method_6_code, exceptionTable := #[], attributes := #[] }
def k4m2 : Method := { name := "rows", desc := "()J", sig := { parameters := [], returnType := some .long }, accessFlags := 1, code := some k4c2 }
/-- com/example/pagetools/pagetools/Total -/
def k4 : Class := { plain "com/example/pagetools/pagetools/Total" (some 3) with
  accessFlags := 49
  interfaces := #[]
  cf := some (fileOf pool4 17 #[] #[{ accessFlags := 1, nameIndex := 5, descriptorIndex := 40, attributes := #[] }, { accessFlags := 1, nameIndex := 45, descriptorIndex := 46, attributes := #[] }, { accessFlags := 1, nameIndex := 20, descriptorIndex := 50, attributes := #[] }] 49 2 #[] #[{ accessFlags := 18, nameIndex := 20, descriptorIndex := 21, attributes := #[] }])
  fields := #[{ name := "rows", type := .long, accessFlags := 18, slot := 0, constantValue := 0 }]
  methods := #[k4m0, k4m1, k4m2]
  instanceTypes := #[.long]
  staticTypes := #[]
  resolved := Array.replicate 78 none
  statics := none }

def pool5 : Array CpInfo := pool [(2, .class_ 4), (1, u "java/lang/Object"), (9, .class_ 16), (1, u "com/example/pagetools/pagetools/Page"), (0, u "rows"), (0, u "Ljava/util/List;"), (2, u "positions"), (2, u "readFrom"), (0, u "Lcom/example/pagetools/pagetools/Position;"), (2, u "hasPreviousPage"), (0, u "Z"), (2, u "hasNextPage"), (32, u "requirePageSize"), (0, u "(I)V")] 25

def k5c0 : Code := { maxStack := 3, maxLocals := 1, code := prog_40_method_2_code, exceptionTable := #[], attributes := #[] }
def k5m0 : Method := { name := "requirePageSize", desc := "(I)V", sig := { parameters := [.int], returnType := none }, accessFlags := 8, code := some k5c0 }
/-- com/example/pagetools/pagetools/Page -/
def k5 : Class := { plain "com/example/pagetools/pagetools/Page" (some 0) with
  accessFlags := 49
  interfaces := #[]
  cf := some (fileOf pool5 14 #[] #[{ accessFlags := 8, nameIndex := 65, descriptorIndex := 66, attributes := #[] }] 49 2 #[] #[{ accessFlags := 18, nameIndex := 17, descriptorIndex := 18, attributes := #[] }, { accessFlags := 18, nameIndex := 21, descriptorIndex := 18, attributes := #[] }, { accessFlags := 18, nameIndex := 24, descriptorIndex := 25, attributes := #[] }, { accessFlags := 18, nameIndex := 28, descriptorIndex := 29, attributes := #[] }, { accessFlags := 18, nameIndex := 32, descriptorIndex := 29, attributes := #[] }])
  fields := #[{ name := "rows", type := (.object "java/util/List"), accessFlags := 18, slot := 0, constantValue := 0 }, { name := "positions", type := (.object "java/util/List"), accessFlags := 18, slot := 1, constantValue := 0 }, { name := "readFrom", type := (.object "com/example/pagetools/pagetools/Position"), accessFlags := 18, slot := 2, constantValue := 0 }, { name := "hasPreviousPage", type := .boolean, accessFlags := 18, slot := 3, constantValue := 0 }, { name := "hasNextPage", type := .boolean, accessFlags := 18, slot := 4, constantValue := 0 }]
  methods := #[k5m0]
  instanceTypes := #[(.object "java/util/List"), (.object "java/util/List"), (.object "com/example/pagetools/pagetools/Position"), .boolean, .boolean]
  staticTypes := #[]
  resolved := Array.replicate 92 none
  statics := none }

def pool6 : Array CpInfo := pool [(1, u "java/lang/Cloneable"), (0, .class_ 1), (0, u "java/lang/Object"), (0, .class_ 3)] 3

/-- java/lang/Cloneable -/
def k6 : Class := { plain "java/lang/Cloneable" (some 0) with
  accessFlags := 1537
  interfaces := #[]
  cf := some (fileOf pool6 2 #[] #[] 1537 4 #[] #[])
  fields := #[]
  methods := #[]
  instanceTypes := #[]
  staticTypes := #[]
  resolved := Array.replicate 8 none
  statics := none }

def pool7 : Array CpInfo := pool [(1, u "java/io/Serializable"), (0, .class_ 1), (0, u "java/lang/Object"), (0, .class_ 3)] 3

/-- java/io/Serializable -/
def k7 : Class := { plain "java/io/Serializable" (some 0) with
  accessFlags := 1537
  interfaces := #[]
  cf := some (fileOf pool7 2 #[] #[] 1537 4 #[] #[])
  fields := #[]
  methods := #[]
  instanceTypes := #[]
  staticTypes := #[]
  resolved := Array.replicate 8 none
  statics := none }

/-- the primitive byte -/
def k8 : Class := { plain "byte" none with kind := .primitive 'B', accessFlags := 0x411 }
/-- [B -/
def k9 : Class := { plain "[B" (some 0) with kind := .array 8 .byte, interfaces := #[6, 7], accessFlags := 1041 }

/-- the primitive int -/
def k10 : Class := { plain "int" none with kind := .primitive 'I', accessFlags := 0x411 }
/-- [I -/
def k11 : Class := { plain "[I" (some 0) with kind := .array 10 .int, interfaces := #[6, 7], accessFlags := 1041 }

def heap : Heap := #[]
def classes : Array Class := #[k0, k1, k2, k3, k4, k5, k6, k7, k8, k9, k10, k11]
def interned : List (Array UInt16 × Addr) := []
def slotsUsed : Nat := 0
def theMethod : MethodId := ⟨1, 1⟩
def args0 : Array Value := #[.long 25, .int 10]
def aboutOver (below : List Frame) : State where
  vm := { classes := classes, interned := interned.toArray }
  heap := heap
  slotsUsed := slotsUsed
  threads := #[{ frames := .invoking theMethod args0 :: below }]
def below0 : List Frame := [.native { method := ⟨0, 0⟩, args := #[] }]
def about1 : State := aboutOver below0
def p0 : Program := .bare "" "" ""
def e0 : Env := launch0.env 0 0 0
theorem w_frames : about1.frames = Frame.invoking theMethod args0 :: below0 := rfl
set_option maxRecDepth 65536 in
theorem w_args : argsFit about1.vm theMethod args0 = true := by decide +kernel
set_option maxRecDepth 65536 in
theorem w_heap : heapFits about1 = true := by decide +kernel
set_option maxRecDepth 65536 in
theorem w_runnable : about1.curStatus? = some .runnable := by decide +kernel
set_option maxRecDepth 65536 in
theorem w_alone : about1.alone = true := by decide +kernel
set_option maxRecDepth 65536 in
theorem w_named : about1.methodNamed? x = some theMethod := by decide +kernel
set_option maxRecDepth 65536 in
theorem w_hears : about1.hears theMethod below0 = true := by decide +kernel
set_option maxRecDepth 65536 in
theorem w_ripe : about1.ripe theMethod args0 below0 = true := by decide +kernel
theorem w_running : about1.status = .running := rfl
set_option maxRecDepth 65536 in
theorem w_room : about1.hasRoom e0.platform room_1 = true :=
  launch0.hasRoom_least _ room_1 (by decide +kernel) (by decide +kernel) (by decide +kernel) (by decide +kernel) (by decide +kernel) (by decide +kernel)
theorem allAtoms_all (ts : List Jvm.Cond) (a : Array Jvm.Value) (st : Jvm.State) : (allAtoms ts).before a st = ts.all (fun c => c.before a st) := by
  induction ts with
  | nil => rfl
  | cons c t ih =>
    show (Jvm.Cond.and c (allAtoms t)).before a st = _
    rw [Jvm.Cond.before_and, ih, List.all_cons]
def words1 : List Jvm.Cond := Jvm.Cond.code x code maxLocals ret :: tables_1
/-- a 'code' word, met by the world's own term for the bytes: nothing is compared byte by byte -/
theorem code_word {y : MethodName} {bytes : ByteArray} {mx : Nat} {rt : Option FieldType} {a : Array Value} {s : State} {m : MethodId} {meth : Method} {c : Code} (h1 : s.methodNamed? y = some m) (h2 : s.vm.method? m = some meth) (h3 : meth.code = some c) (h4 : c.code = bytes)
    (h5 : (c.maxLocals == mx && c.exceptionTable.isEmpty && decide (c.maxStack ≤ mostOperands) && decide (meth.sig.returnType = rt) && !meth.locks && decide (parseMethodDescriptor y.desc = some meth.sig)) = true) : (Jvm.Cond.code y bytes mx rt).before a s = true := by
  simp only [Bool.and_eq_true, beq_iff_eq, Bool.not_eq_true', decide_eq_true_eq] at h5
  obtain ⟨⟨⟨⟨⟨g1, g2⟩, g3⟩, g4⟩, g5⟩, g6⟩ := h5
  simp [Cond.before, Cond.holds, Cond.value, h1, h2, h3, h4, g1, g2, g3, g4, g5, g6]
def isCode : Jvm.Cond → Bool
  | .code _ _ _ _ => true
  | _ => false
theorem all_split {L : List Jvm.Cond} {P : Jvm.Cond → Bool} (h1 : L.all (fun c => isCode c || P c) = true) (h2 : ∀ c ∈ L.filter isCode, P c = true) : L.all P = true := by
  refine List.all_eq_true.mpr fun c hc => ?_
  have h := List.all_eq_true.mp h1 c hc
  rcases Bool.eq_false_or_eq_true (isCode c) with hi | hi
  · exact h2 c (List.mem_filter.mpr ⟨hc, hi⟩)
  · simpa [hi] using h
set_option maxRecDepth 65536 in
theorem w_c0 : (Jvm.Cond.code x code maxLocals ret).before args0 about1 = true := code_word (m := ⟨1, 1⟩) (meth := k1m1) (c := k1c1) (by decide +kernel) rfl rfl rfl (by decide +kernel)
set_option maxRecDepth 65536 in
theorem w_c1 : (Jvm.Cond.code ({ cls := "java/lang/Math", name := "max", desc := "(II)I" } : Jvm.MethodName) jdk_29_method_65_code (2 : Nat) (Option.some Jvm.ClassFile.FieldType.int)).before args0 about1 = true := code_word (m := ⟨2, 1⟩) (meth := k2m1) (c := k2c1) (by decide +kernel) rfl rfl rfl (by decide +kernel)
set_option maxRecDepth 65536 in
theorem w_c2 : (Jvm.Cond.code ({ cls := "com/example/pagetools/pagetools/Total", name := "<init>", desc := "(J)V" } : Jvm.MethodName) prog_79_method_1_code (3 : Nat) (Option.none : Option Jvm.ClassFile.FieldType)).before args0 about1 = true := code_word (m := ⟨4, 0⟩) (meth := k4m0) (c := k4c0) (by decide +kernel) rfl rfl rfl (by decide +kernel)
set_option maxRecDepth 65536 in
theorem w_c3 : (Jvm.Cond.code ({ cls := "java/lang/Record", name := "<init>", desc := "()V" } : Jvm.MethodName) jdk_30_method_1_code (1 : Nat) (Option.none : Option Jvm.ClassFile.FieldType)).before args0 about1 = true := code_word (m := ⟨3, 0⟩) (meth := k3m0) (c := k3c0) (by decide +kernel) rfl rfl rfl (by decide +kernel)
set_option maxRecDepth 65536 in
theorem w_c4 : (Jvm.Cond.code ({ cls := "java/lang/Object", name := "<init>", desc := "()V" } : Jvm.MethodName) object_method_1_code (1 : Nat) (Option.none : Option Jvm.ClassFile.FieldType)).before args0 about1 = true := code_word (m := ⟨0, 0⟩) (meth := k0m0) (c := k0c0) (by decide +kernel) rfl rfl rfl (by decide +kernel)
set_option maxRecDepth 65536 in
theorem w_c5 : (Jvm.Cond.code ({ cls := "com/example/pagetools/pagetools/Total", name := "pages", desc := "(I)J" } : Jvm.MethodName) prog_79_method_2_code (2 : Nat) (Option.some Jvm.ClassFile.FieldType.long)).before args0 about1 = true := code_word (m := ⟨4, 1⟩) (meth := k4m1) (c := k4c1) (by decide +kernel) rfl rfl rfl (by decide +kernel)
set_option maxRecDepth 65536 in
theorem w_c6 : (Jvm.Cond.code ({ cls := "com/example/pagetools/pagetools/Page", name := "requirePageSize", desc := "(I)V" } : Jvm.MethodName) prog_40_method_2_code (1 : Nat) (Option.none : Option Jvm.ClassFile.FieldType)).before args0 about1 = true := code_word (m := ⟨5, 0⟩) (meth := k5m0) (c := k5c0) (by decide +kernel) rfl rfl rfl (by decide +kernel)
set_option maxRecDepth 65536 in
theorem w_c7 : (Jvm.Cond.code ({ cls := "com/example/pagetools/pagetools/Total", name := "rows", desc := "()J" } : Jvm.MethodName) prog_79_method_6_code (1 : Nat) (Option.some Jvm.ClassFile.FieldType.long)).before args0 about1 = true := code_word (m := ⟨4, 2⟩) (meth := k4m2) (c := k4c2) (by decide +kernel) rfl rfl rfl (by decide +kernel)
def codes1 : List Jvm.Cond := [Jvm.Cond.code x code maxLocals ret, Jvm.Cond.code ({ cls := "java/lang/Math", name := "max", desc := "(II)I" } : Jvm.MethodName) jdk_29_method_65_code (2 : Nat) (Option.some Jvm.ClassFile.FieldType.int), Jvm.Cond.code ({ cls := "com/example/pagetools/pagetools/Total", name := "<init>", desc := "(J)V" } : Jvm.MethodName) prog_79_method_1_code (3 : Nat) (Option.none : Option Jvm.ClassFile.FieldType), Jvm.Cond.code ({ cls := "java/lang/Record", name := "<init>", desc := "()V" } : Jvm.MethodName) jdk_30_method_1_code (1 : Nat) (Option.none : Option Jvm.ClassFile.FieldType), Jvm.Cond.code ({ cls := "java/lang/Object", name := "<init>", desc := "()V" } : Jvm.MethodName) object_method_1_code (1 : Nat) (Option.none : Option Jvm.ClassFile.FieldType), Jvm.Cond.code ({ cls := "com/example/pagetools/pagetools/Total", name := "pages", desc := "(I)J" } : Jvm.MethodName) prog_79_method_2_code (2 : Nat) (Option.some Jvm.ClassFile.FieldType.long), Jvm.Cond.code ({ cls := "com/example/pagetools/pagetools/Page", name := "requirePageSize", desc := "(I)V" } : Jvm.MethodName) prog_40_method_2_code (1 : Nat) (Option.none : Option Jvm.ClassFile.FieldType), Jvm.Cond.code ({ cls := "com/example/pagetools/pagetools/Total", name := "rows", desc := "()J" } : Jvm.MethodName) prog_79_method_6_code (1 : Nat) (Option.some Jvm.ClassFile.FieldType.long)]
set_option maxRecDepth 65536 in
theorem codes_eq : words1.filter isCode = codes1 := rfl
theorem w_codes : ∀ c ∈ words1.filter isCode, c.before args0 about1 = true := by
  rw [codes_eq]
  intro c hc
  simp only [codes1, List.mem_cons, List.not_mem_nil, or_false] at hc
  rcases hc with rfl | rfl | rfl | rfl | rfl | rfl | rfl | rfl
  · exact w_c0
  · exact w_c1
  · exact w_c2
  · exact w_c3
  · exact w_c4
  · exact w_c5
  · exact w_c6
  · exact w_c7
set_option maxRecDepth 65536 in
theorem w_t1 : (words1.take 24).all (fun c => isCode c || c.before args0 about1) = true := by decide +kernel
set_option maxRecDepth 65536 in
theorem w_t2 : (words1.drop 24).all (fun c => isCode c || c.before args0 about1) = true := by decide +kernel
theorem w_tables : (allAtoms (Jvm.Cond.code x code maxLocals ret :: tables_1)).before args0 about1 = true := by
  rw [allAtoms_all]
  show words1.all (fun c => c.before args0 about1) = true
  refine all_split ?_ w_codes
  rw [← List.take_append_drop 24 words1, List.all_append, w_t1, w_t2]
  rfl
set_option maxRecDepth 65536 in
theorem w_case : (Jvm.Cond.and given_1 narrow_1).before args0 about1 = true := by decide +kernel
theorem w_applies : (headSpec (Jvm.Cond.code x code maxLocals ret :: tables_1) room_1).applies x e0.platform about1 = true :=
  (Spec.applies_iff w_frames).mpr ⟨w_running, w_runnable, w_alone, w_named, w_hears, w_ripe, w_room, w_tables⟩
theorem atStart : AtStart classFile x code maxLocals ret World_1 tables_1 room_1 Calls_1 rest_1 Pre_1 launch0 p0 e0 about1 theMethod args0 below0 :=
  ⟨lists_1, trivial, launch0.admits_env _ _ _, launch0.least_env, fairChoices_fair.cas, fairChoices_fair.clock, w_frames, w_args, w_heap, w_applies, trivial, trivial, w_case⟩
end start1
theorem witness_1 : WitnessClaimed_1 := ⟨start1.p0, start1.e0, start1.about1, start1.theMethod, start1.args0, start1.below0, start1.atStart⟩
end Jvm.Pilot.@@N@@
