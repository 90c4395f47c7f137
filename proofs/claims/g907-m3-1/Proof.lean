import JvmDerived
import JvmDerived.Pilot.@@N@@Statement
import JvmDerived.Pilot.@@N@@Code
set_option linter.unusedVariables false
set_option linter.unusedSimpArgs false
namespace Jvm.Pilot.@@N@@
open Jvm Jvm.ClassFile Sem Op Lib Jvm.Free Jvm.Stand Jvm.LawKit Jvm.RoadKit Bundle Jvm.Pilot.@@N@@.Jvm.D
/-- what a walk that stands at A still owes -/
def own_G (p : Program) (e : Env) (below : List Frame) (s : State) (Q : Option Value → Heap → List Loc → Prop) (rc rs : Nat) (A : State) : Prop :=
  ∃ s₂ o, Steps p.tables e below A s₂ ∧ s₂.status = .running ∧ Ended s₂ below o ∧ ∃ v L, o = .returned v ∧ Q v s₂.heap L ∧ FrameEnd s o s₂ L rc rs
theorem own_go {p : Program} {e : Env} {below : List Frame} {s : State} {Q : Option Value → Heap → List Loc → Prop} {rc rs : Nat} {A B : State} (st : ∀ t, Steps p.tables e below B t → Steps p.tables e below A t) (k : own_G p e below s Q rc rs B) : own_G p e below s Q rc rs A := by
  obtain ⟨s₂, o, h, r⟩ := k
  exact ⟨s₂, o, st _ h, r⟩
theorem own_leave {p : Program} {l : Launch} {e : Env} {R : Room} {s : State} {m : MethodId} {args : Array Value} {below : List Frame} {meth : Method} {c : Code} {T : State} {locs : List Loc} {cells slots : Nat} {Q : Option Value → Heap → List Loc → Prop} {rc rs : Nat} {g : JFrame} (X : Stand p l e R s m args below meth c T locs cells slots) (v : Option Value) (hv : meth.sig.returnType = none → v = none) (hlk : meth.locks = false)
    (st : ∀ fs, (∀ (f : JFrame) (acts : List Action), f.method = m → f.locked = none → f.entered = [] → (doReturn e (T.setTop f) acts v).1 = T.setFrames fs) → Steps p.tables e below (T.setTop g) (T.setFrames fs)) (hQ : Q v T.heap locs) (hc : cells ≤ rc) (hs : slots ≤ rs) : own_G p e below s Q rc rs (T.setTop g) := by
  obtain ⟨fs, hr, hrun, hended, hW, hsame⟩ := X.leave (v := v) hv hlk
  exact ⟨_, _, st fs hr, hrun, hended, _, _, rfl, hQ, ⟨_, rfl⟩, hW, hsame.mono hc hs⟩
def own_maxL (a b : Int64) : Int64 := if a < b then b else a
theorem own_maxL_pos (v : Int64) : 1 ≤ (own_maxL 1 v).toInt := by
  have z1 : (1 : Int64).toInt = 1 := by decide
  by_cases h : (1 : Int64) < v
  · rw [show own_maxL 1 v = v from if_pos h]; rw [Int64.lt_iff_toInt_lt] at h; omega
  · rw [show own_maxL 1 v = 1 from if_neg h]; decide
/-- what rangeEnd answers -/
def own_re (n : Int64) (i : Int32) : Int64 := if ((9223372036854775807 : Int64) >>> ((i + (1 : Int32)).toInt64 &&& 63)) < n then 9223372036854775807 else n <<< ((i + (1 : Int32)).toInt64 &&& 63)
theorem own_amt : ∀ kn : Fin 64, (((Int32.ofNat kn.val).toInt64 &&& 63).toBitVec.smod 64) = BitVec.ofNat 64 kn.val := by decide +kernel
theorem own_idx (x : Int32) : ∃ kn : Nat, 1 ≤ kn ∧ kn ≤ 63 ∧ ((x &&& (2147483647 : Int32)) % (63 : Int32)) + (1 : Int32) = Int32.ofNat kn := by
  have e1 : (2147483647 : Int32).toBitVec.toNat = 2147483647 := by decide
  have h1 : (x &&& (2147483647 : Int32)).toBitVec.toNat ≤ 2147483647 := by
    rw [Int32.toBitVec_and, BitVec.toNat_and, e1]; exact Nat.and_le_right
  have h2 : 0 ≤ (x &&& (2147483647 : Int32)).toInt := by
    show 0 ≤ (x &&& (2147483647 : Int32)).toBitVec.toInt
    rw [BitVec.toInt_eq_toNat_cond]; split <;> omega
  have e63 : (63 : Int32).toInt = 63 := by decide
  have eo : (1 : Int32).toInt = 1 := by decide
  have h3 : ((x &&& (2147483647 : Int32)) % (63 : Int32)).toInt = (x &&& (2147483647 : Int32)).toInt % 63 := by
    rw [Int32.toInt_mod, e63, Int.tmod_eq_emod_of_nonneg h2]
  have m1 := Int.emod_nonneg (x &&& (2147483647 : Int32)).toInt (b := 63) (by decide)
  have m2 := Int.emod_lt_of_pos (x &&& (2147483647 : Int32)).toInt (b := 63) (by decide)
  generalize (x &&& (2147483647 : Int32)).toInt % 63 = t at *
  have h4 : (((x &&& (2147483647 : Int32)) % (63 : Int32)) + (1 : Int32)).toInt = t + 1 := by
    rw [Int32.toInt_add, h3, eo]; exact Int.bmod_eq_of_le (by omega) (by omega)
  refine ⟨(t + 1).toNat, by omega, by omega, ?_⟩
  apply Int32.toInt_inj.mp
  rw [h4, Int32.toInt_ofNat_of_lt (by omega)]
  omega
theorem own_shl {n : Int64} {k : Int32} {kn : Nat} (hk : kn ≤ 63) (e : k = Int32.ofNat kn) (hn : 0 ≤ n.toInt) : (n <<< (k.toInt64 &&& 63)).toInt = (n.toInt * 2 ^ kn).bmod (2 ^ 64) := by
  subst e
  show (n <<< ((Int32.ofNat kn).toInt64 &&& 63)).toBitVec.toInt = _
  rw [Int64.toBitVec_shiftLeft, own_amt ⟨kn, by omega⟩]
  rw [BitVec.shiftLeft_eq', BitVec.toInt_shiftLeft]
  have e1 : (BitVec.ofNat 64 kn).toNat = kn := by rw [BitVec.toNat_ofNat]; omega
  rw [e1]
  have e2 : (n.toBitVec.toNat : Int) = n.toInt := by
    have h : n.toInt = n.toBitVec.toInt := rfl
    rw [h] at hn ⊢
    rw [BitVec.toInt_eq_toNat_cond] at hn ⊢
    have := n.toBitVec.isLt
    split at hn <;> split <;> omega
  rw [Nat.shiftLeft_eq, Int.natCast_mul, e2, Int.natCast_pow]
  rfl
theorem own_shr {n : Int64} {k : Int32} {kn : Nat} (hk : kn ≤ 63) (e : k = Int32.ofNat kn) : (n >>> (k.toInt64 &&& 63)).toInt = n.toInt / 2 ^ kn := by
  subst e
  show (n >>> ((Int32.ofNat kn).toInt64 &&& 63)).toBitVec.toInt = _
  rw [Int64.toBitVec_shiftRight, own_amt ⟨kn, by omega⟩]
  show (n.toBitVec.sshiftRight (BitVec.ofNat 64 kn).toNat).toInt = _
  have e1 : (BitVec.ofNat 64 kn).toNat = kn := by rw [BitVec.toNat_ofNat]; omega
  rw [e1, BitVec.toInt_sshiftRight, Int.shiftRight_eq_div_pow, Int.natCast_pow]
  rfl
theorem own_pos (kn : Nat) : (0 : Int) < 2 ^ kn := Int.pow_pos (by decide)
theorem own_back {n : Int64} {k : Int32} {kn : Nat} (hk : kn ≤ 63) (e : k = Int32.ofNat kn) (hn : 1 ≤ n.toInt) (h : ((n <<< (k.toInt64 &&& 63)) >>> (k.toInt64 &&& 63)) = n) : ¬ ((9223372036854775807 : Int64) >>> (k.toInt64 &&& 63)) < n := by
  rw [Int64.lt_iff_toInt_lt, own_shr hk e]
  have h1 := congrArg Int64.toInt h
  rw [own_shr hk e] at h1
  have lt := (n <<< (k.toInt64 &&& 63)).toInt_lt
  have hp := own_pos kn
  have em : (9223372036854775807 : Int64).toInt = 9223372036854775807 := by decide
  rw [em]
  have sh := own_shl hk e (n := n) (by omega)
  generalize (n <<< (k.toInt64 &&& 63)).toInt = B at *
  have h2 : n.toInt * 2 ^ kn ≤ B := by rw [← h1]; exact Int.ediv_mul_le _ (by omega)
  have h3 : n.toInt ≤ 9223372036854775807 / 2 ^ kn := Int.le_ediv_of_mul_le hp (by omega)
  omega
theorem own_wrap {n : Int64} {k : Int32} {kn : Nat} (hk : kn ≤ 63) (e : k = Int32.ofNat kn) (hn : 1 ≤ n.toInt) (h : ¬ ((n <<< (k.toInt64 &&& 63)) >>> (k.toInt64 &&& 63)) = n) : ((9223372036854775807 : Int64) >>> (k.toInt64 &&& 63)) < n := by
  rw [Int64.lt_iff_toInt_lt, own_shr hk e]
  have em : (9223372036854775807 : Int64).toInt = 9223372036854775807 := by decide
  rw [em]
  have hp := own_pos kn
  refine Int.lt_of_not_ge fun q => h ?_
  apply Int64.toInt_inj.mp
  rw [own_shr hk e, own_shl hk e (by omega)]
  have h2 : n.toInt * 2 ^ kn ≤ 9223372036854775807 := Int.le_trans (Int.mul_le_mul_of_nonneg_right q (by omega)) (Int.ediv_mul_le _ (by omega))
  have h3 : 0 ≤ n.toInt * 2 ^ kn := Int.mul_nonneg (by omega) (by omega)
  rw [Int.bmod_eq_of_le (by omega) (by omega), Int.mul_ediv_cancel _ (by omega)]
theorem d1_0 : decode jdk_29_method_66_code 0 = .ok (.lload_n 0, 1) := by decide +kernel
theorem d1_1 : decode jdk_29_method_66_code 1 = .ok (.lload_n 2, 1) := by decide +kernel
theorem d1_2 : decode jdk_29_method_66_code 2 = .ok (.lcmp, 1) := by decide +kernel
theorem d1_3 : decode jdk_29_method_66_code 3 = .ok (.ifCond .lt 7, 3) := by decide +kernel
theorem d1_6 : decode jdk_29_method_66_code 6 = .ok (.lload_n 0, 1) := by decide +kernel
theorem d1_7 : decode jdk_29_method_66_code 7 = .ok (.goto 4, 3) := by decide +kernel
theorem d1_10 : decode jdk_29_method_66_code 10 = .ok (.lload_n 2, 1) := by decide +kernel
theorem d1_11 : decode jdk_29_method_66_code 11 = .ok (.lreturn, 1) := by decide +kernel
theorem d2_0 : decode prog_21_method_2_code 0 = .ok (.aload_n 0, 1) := by decide +kernel
theorem d2_1 : decode prog_21_method_2_code 1 = .ok (.invokespecial 1, 3) := by decide +kernel
theorem d2_4 : decode prog_21_method_2_code 4 = .ok (.aload_n 0, 1) := by decide +kernel
theorem d2_5 : decode prog_21_method_2_code 5 = .ok (.lload_n 1, 1) := by decide +kernel
theorem d2_6 : decode prog_21_method_2_code 6 = .ok (.putfield 30, 3) := by decide +kernel
theorem d2_9 : decode prog_21_method_2_code 9 = .ok (.return_, 1) := by decide +kernel
theorem d4_0 : decode prog_21_method_9_code 0 = .ok (.aload_n 0, 1) := by decide +kernel
theorem d4_1 : decode prog_21_method_9_code 1 = .ok (.getfield 30, 3) := by decide +kernel
theorem d4_4 : decode prog_21_method_9_code 4 = .ok (.ldc2_w 69, 3) := by decide +kernel
theorem d4_7 : decode prog_21_method_9_code 7 = .ok (.iload_n 1, 1) := by decide +kernel
theorem d4_8 : decode prog_21_method_9_code 8 = .ok (.iconst 1, 1) := by decide +kernel
theorem d4_9 : decode prog_21_method_9_code 9 = .ok (.iadd, 1) := by decide +kernel
theorem d4_10 : decode prog_21_method_9_code 10 = .ok (.lshr, 1) := by decide +kernel
theorem d4_11 : decode prog_21_method_9_code 11 = .ok (.lcmp, 1) := by decide +kernel
theorem d4_12 : decode prog_21_method_9_code 12 = .ok (.ifCond .gt 14, 3) := by decide +kernel
theorem d4_15 : decode prog_21_method_9_code 15 = .ok (.aload_n 0, 1) := by decide +kernel
theorem d4_16 : decode prog_21_method_9_code 16 = .ok (.getfield 30, 3) := by decide +kernel
theorem d4_19 : decode prog_21_method_9_code 19 = .ok (.iload_n 1, 1) := by decide +kernel
theorem d4_20 : decode prog_21_method_9_code 20 = .ok (.iconst 1, 1) := by decide +kernel
theorem d4_21 : decode prog_21_method_9_code 21 = .ok (.iadd, 1) := by decide +kernel
theorem d4_22 : decode prog_21_method_9_code 22 = .ok (.lshl, 1) := by decide +kernel
theorem d4_23 : decode prog_21_method_9_code 23 = .ok (.goto 6, 3) := by decide +kernel
theorem d4_26 : decode prog_21_method_9_code 26 = .ok (.ldc2_w 69, 3) := by decide +kernel
theorem d4_29 : decode prog_21_method_9_code 29 = .ok (.lreturn, 1) := by decide +kernel
theorem pf1 : plainFor (⟨"java/lang/Math", "max", "(JJ)J"⟩ : MethodName) = true := by decide +kernel
theorem pd1 : parseMethodDescriptor "(JJ)J" = some ⟨[.long, .long], some .long⟩ := by decide +kernel
theorem ef1 (m : MethodId) (x0 : Int64) (x1 : Int64) : entryFrame m #[(.long x0), (.long x1)] 4 = mkF m 0 #[.val (.long x0), .second, .val (.long x1), .second] [] := by first | (simp [entryFrame, mkF, argsToLocals, Value.category]; done) | rfl
def own_Q1 (z : Int64) (h0 : Heap) (v : Option Value) (h : Heap) (L : List Loc) : Prop := v = some (.long z) ∧ L = [] ∧ h = h0
set_option maxRecDepth 65536 in
set_option maxHeartbeats 40000000 in
theorem rm1 (l : Launch) (Z : State) (a0 : Array Value) (hw : ∀ d ∈ tables_1, d.before a0 Z = true) (ws : List Jvm.Cond) (a1 b1 : Int64) (h0 : Heap) :
    MetFree l (⟨"java/lang/Math", "max", "(JJ)J"⟩ : MethodName) (head1 (Jvm.Cond.code (⟨"java/lang/Math", "max", "(JJ)J"⟩ : MethodName) jdk_29_method_66_code 4 (some .long) :: ws) ({ frames := 0, cells := 0, slots := 0, locals := 0 } : Room)) (fun a U => a = #[(.long a1), (.long b1)] ∧ Z.Warmed39 U.vm ∧ U.heap = h0) (fun _ _ _ _ _ => True) (fun _ U o U' => ∃ v L, o = .returned v ∧ own_Q1 (own_maxL a1 b1) h0 v U'.heap L ∧ FrameEnd U o U' L ({ frames := 0, cells := 0, slots := 0, locals := 0 } : Room).cells ({ frames := 0, cells := 0, slots := 0, locals := 0 } : Room).slots) := by
  refine MetFree.of_bodySF pf1 hisR ?_
  intro p e s m args below meth c s₁ Bd hml0 hP hK
  obtain ⟨rfl, hZ, hh⟩ := hP
  have hx := Bd.exec
  have hby := Bd.bytes
  have hml : c.maxLocals = 4 := hml0
  have hown : s.vm.findClass "java/lang/Math" = some m.cls := findClass_of_methodNamed Bd.named
  have hnm := (name_of_methodNamed Bd.named Bd.method).1
  have X0 : Stand p l e ({ frames := 0, cells := 0, slots := 0, locals := 0 } : Room) s m #[(.long a1), (.long b1)] below meth c s₁ [] 0 0 := Stand.of_body Bd
  have e0 : s₁.heap = h0 := by rw [← hh, Bd.state]; rfl
  refine (show own_G p e below s (own_Q1 (own_maxL a1 b1) h0) 0 0 (s₁.setTop (entryFrame m #[(.long a1), (.long b1)] 4)) → _ from fun k => k) ?_
  refine own_go (fun t k => castTop (ef1 m a1 b1) k) ?_
  show own_G p e below s (own_Q1 (own_maxL a1 b1) h0) 0 0 (s₁.setTop (mkF m 0 #[.val (.long a1), .second, .val (.long b1), .second] []))
  refine own_go (fun t k => XT.lloadN X0.here hx rfl (hb hby d1_0) rfl k) ?_
  show own_G p e below s (own_Q1 (own_maxL a1 b1) h0) 0 0 (s₁.setTop (mkF m 1 #[.val (.long a1), .second, .val (.long b1), .second] [(.long a1)]))
  refine own_go (fun t k => XT.lloadN X0.here hx rfl (hb hby d1_1) rfl k) ?_
  show own_G p e below s (own_Q1 (own_maxL a1 b1) h0) 0 0 (s₁.setTop (mkF m 2 #[.val (.long a1), .second, .val (.long b1), .second] [(.long b1), (.long a1)]))
  refine own_go (fun t k => XT.lcmp X0.here hx rfl (hb hby d1_2) rfl k) ?_
  show own_G p e below s (own_Q1 (own_maxL a1 b1) h0) 0 0 (s₁.setTop (mkF m 3 #[.val (.long a1), .second, .val (.long b1), .second] [(.int (XT.cmpL a1 b1))]))
  by_cases h1 : a1 < b1
  · skip
    refine own_go (fun t k => XS.ifYes X0.here hx rfl (pc0 := 3) (pc' := 10) rfl (hb hby d1_3) rfl (XT.ll_lt_t h1) (by decide) (by decide) k) ?_
    show own_G p e below s (own_Q1 (own_maxL a1 b1) h0) 0 0 (s₁.setTop (mkF m 10 #[.val (.long a1), .second, .val (.long b1), .second] []))
    refine own_go (fun t k => XT.lloadN X0.here hx rfl (hb hby d1_10) rfl k) ?_
    show own_G p e below s (own_Q1 (own_maxL a1 b1) h0) 0 0 (s₁.setTop (mkF m 11 #[.val (.long a1), .second, .val (.long b1), .second] [(.long b1)]))
    exact own_leave X0 (some (.long b1)) (fun h => by rw [Bd.returns] at h; cases h) Bd.notSynchronized (fun fs hr => X0.lreturnOut hx Bd.returns (hb hby d1_11) hr) ⟨congrArg (fun z => some (Value.long z)) (if_pos h1).symm, rfl, e0⟩ (by decide) (by decide)
  · skip
    refine own_go (fun t k => XS.ifNo X0.here hx rfl (hb hby d1_3) rfl (XT.ll_lt_f h1) k) ?_
    show own_G p e below s (own_Q1 (own_maxL a1 b1) h0) 0 0 (s₁.setTop (mkF m 6 #[.val (.long a1), .second, .val (.long b1), .second] []))
    refine own_go (fun t k => XT.lloadN X0.here hx rfl (hb hby d1_6) rfl k) ?_
    show own_G p e below s (own_Q1 (own_maxL a1 b1) h0) 0 0 (s₁.setTop (mkF m 7 #[.val (.long a1), .second, .val (.long b1), .second] [(.long a1)]))
    refine own_go (fun t k => XS.goto X0.here hx rfl (pc0 := 7) (pc' := 11) rfl (hb hby d1_7) (by decide) (by decide) k) ?_
    show own_G p e below s (own_Q1 (own_maxL a1 b1) h0) 0 0 (s₁.setTop (mkF m 11 #[.val (.long a1), .second, .val (.long b1), .second] [(.long a1)]))
    exact own_leave X0 (some (.long a1)) (fun h => by rw [Bd.returns] at h; cases h) Bd.notSynchronized (fun fs hr => X0.lreturnOut hx Bd.returns (hb hby d1_11) hr) ⟨congrArg (fun z => some (Value.long z)) (if_neg h1).symm, rfl, e0⟩ (by decide) (by decide)
theorem pn2 : plainName "com/example/abridge/abridge/relative/LevelLayout" = true := by first | (simp [plainName, overriddenIn]; done) | decide +kernel
theorem pd2 : parseMethodDescriptor "(J)V" = some ⟨[.long], none⟩ := by decide +kernel
theorem ef2 (m : MethodId) (x0 : Addr) (x1 : Int64) : entryFrame m #[(.ref x0), (.long x1)] 3 = mkF m 0 #[.val (.ref x0), .val (.long x1), .second] [] := by first | (simp [entryFrame, mkF, argsToLocals, Value.category]; done) | rfl
def own_Q2 (Z : State) (a1 : Addr) (r1 : Int64) (h0 : Heap) (n0 : Nat) (v : Option Value) (h : Heap) (L : List Loc) : Prop := v = none ∧ Fr n0 L ∧ Keep h0 h [a1] ∧ Exa Z h a1 "com/example/abridge/abridge/relative/LevelLayout" ∧ Fld Z h a1 "com/example/abridge/abridge/relative/LevelLayout" "n0" "J" (.long r1)
set_option maxRecDepth 65536 in
set_option maxHeartbeats 40000000 in
theorem rm2 (l : Launch) (Z : State) (a0 : Array Value) (hw : ∀ d ∈ tables_1, d.before a0 Z = true) (ws : List Jvm.Cond) (a1 : Addr) (r1 : Int64) (h0 : Heap) (n0 : Nat) (Z0 : n0 ≤ h0.size) (F0 : Fld Z h0 a1 "com/example/abridge/abridge/relative/LevelLayout" "n0" "J" (.long (0 : Int64))) (E0 : Exa Z h0 a1 "com/example/abridge/abridge/relative/LevelLayout") (g0 : n0 ≤ a1) :
    MetFree l (⟨"com/example/abridge/abridge/relative/LevelLayout", "<init>", "(J)V"⟩ : MethodName) (head1 (Jvm.Cond.code (⟨"com/example/abridge/abridge/relative/LevelLayout", "<init>", "(J)V"⟩ : MethodName) prog_21_method_2_code 3 none :: ws) ({ frames := 1, cells := 0, slots := 0, locals := 12 } : Room)) (fun a U => a = #[(.ref a1), (.long r1)] ∧ Z.Warmed39 U.vm ∧ U.heap = h0) (fun _ _ _ _ _ => True) (fun _ U o U' => ∃ v L, o = .returned v ∧ own_Q2 Z a1 r1 h0 n0 v U'.heap L ∧ FrameEnd U o U' L ({ frames := 1, cells := 0, slots := 0, locals := 12 } : Room).cells ({ frames := 1, cells := 0, slots := 0, locals := 12 } : Room).slots) := by
  refine MetFree.of_bodySF (plainFor_of_name pn2) hisR ?_
  intro p e s m args below meth c s₁ Bd hml0 hP hK
  obtain ⟨rfl, hZ, hh⟩ := hP
  have hx := Bd.exec
  have hby := Bd.bytes
  have hml : c.maxLocals = 3 := hml0
  have hown : s.vm.findClass "com/example/abridge/abridge/relative/LevelLayout" = some m.cls := findClass_of_methodNamed Bd.named
  have hnm := (name_of_methodNamed Bd.named Bd.method).1
  have X0 : Stand p l e ({ frames := 1, cells := 0, slots := 0, locals := 12 } : Room) s m #[(.ref a1), (.long r1)] below meth c s₁ [] 0 0 := Stand.of_body Bd
  have e0 : s₁.heap = h0 := by rw [← hh, Bd.state]; rfl
  refine (show own_G p e below s (own_Q2 Z a1 r1 h0 n0) 0 0 (s₁.setTop (entryFrame m #[(.ref a1), (.long r1)] 3)) → _ from fun k => k) ?_
  refine own_go (fun t k => castTop (ef2 m a1 r1) k) ?_
  show own_G p e below s (own_Q2 Z a1 r1 h0 n0) 0 0 (s₁.setTop (mkF m 0 #[.val (.ref a1), .val (.long r1), .second] []))
  refine own_go (fun t k => XS.aloadN X0.here hx rfl (hb hby d2_0) rfl rfl k) ?_
  show own_G p e below s (own_Q2 Z a1 r1 h0 n0) 0 0 (s₁.setTop (mkF m 1 #[.val (.ref a1), .val (.long r1), .second] [(.ref a1)]))
  obtain ⟨T101, X101, e101, st101⟩ := initO X0 hx hZ hown (hw _ (List.mem_of_getElem? (i := 12) rfl)) (hw _ (List.mem_of_getElem? (i := 13) rfl)) (hw _ (List.mem_of_getElem? (i := 14) rfl)) e0 (g := (mkF m 1 #[.val (.ref a1), .val (.long r1), .second] [(.ref a1)])) rfl (by rw [hml]; rfl) rfl (hb hby d2_1) (by decide) (W := 0) (by show 2 * 0 + _ ≤ _; exact Nat.le_of_eq rfl) (by decide)
  refine own_go st101 ?_
  show own_G p e below s (own_Q2 Z a1 r1 h0 n0) 0 0 (T101.setTop (mkF m 4 #[.val (.ref a1), .val (.long r1), .second] []))
  refine own_go (fun t k => XS.aloadN X101.here hx rfl (hb hby d2_4) rfl rfl k) ?_
  show own_G p e below s (own_Q2 Z a1 r1 h0 n0) 0 0 (T101.setTop (mkF m 5 #[.val (.ref a1), .val (.long r1), .second] [(.ref a1)]))
  refine own_go (fun t k => XT.lloadN X101.here hx rfl (hb hby d2_5) rfl k) ?_
  show own_G p e below s (own_Q2 Z a1 r1 h0 n0) 0 0 (T101.setTop (mkF m 6 #[.val (.ref a1), .val (.long r1), .second] [(.long r1), (.ref a1)]))
  obtain ⟨T102, h102, X102, e102, W102, st102⟩ := putF X101 hx hZ hown (host := "") (Or.inl (hw _ (List.mem_of_getElem? (i := 15) rfl))) Via.refl e101 F0 E0 (Or.inr ⟨(hw _ (List.mem_of_getElem? (i := 16) rfl)), rfl, hnm⟩) (hw _ (List.mem_of_getElem? (i := 7) rfl)) (ty := .long) (by decide) rfl rfl (g := (mkF m 6 #[.val (.ref a1), .val (.long r1), .second] [(.long r1), (.ref a1)])) rfl rfl (hb hby d2_6)
  refine own_go st102 ?_
  show own_G p e below s (own_Q2 Z a1 r1 h0 n0) 0 0 (T102.setTop (mkF m 9 #[.val (.ref a1), .val (.long r1), .second] []))
  have N1 := Fr.snoc X102 (Fr.nil n0) g0
  exact own_leave X102 none (fun _ => rfl) Bd.notSynchronized (fun fs hr => X102.returnOut hx Bd.returns (hb hby d2_9) hr) (by rw [e102]; exact ⟨rfl, N1, ((Keep.refl _ _).wr W102 (Or.inl (List.mem_of_getElem? (i := 0) rfl))), E0.wr W102, F0.same W102⟩) (by decide) (by decide)
theorem pd4 : parseMethodDescriptor "(I)J" = some ⟨[.int], some .long⟩ := by decide +kernel
theorem ef4 (m : MethodId) (x0 : Addr) (x1 : Int32) : entryFrame m #[(.ref x0), (.int x1)] 2 = mkF m 0 #[.val (.ref x0), .val (.int x1)] [] := by first | (simp [entryFrame, mkF, argsToLocals, Value.category]; done) | rfl
set_option maxRecDepth 65536 in
set_option maxHeartbeats 40000000 in
theorem rm4 (l : Launch) (Z : State) (a0 : Array Value) (hw : ∀ d ∈ tables_1, d.before a0 Z = true) (ws : List Jvm.Cond) (a1 : Addr) (i1 : Int32) (r1 : Int64) (h0 : Heap) (F0 : Fld Z h0 a1 "com/example/abridge/abridge/relative/LevelLayout" "n0" "J" (.long r1)) :
    MetFree l (⟨"com/example/abridge/abridge/relative/LevelLayout", "rangeEnd", "(I)J"⟩ : MethodName) (head1 (Jvm.Cond.code (⟨"com/example/abridge/abridge/relative/LevelLayout", "rangeEnd", "(I)J"⟩ : MethodName) prog_21_method_9_code 2 (some .long) :: ws) ({ frames := 0, cells := 0, slots := 0, locals := 0 } : Room)) (fun a U => a = #[(.ref a1), (.int i1)] ∧ Z.Warmed39 U.vm ∧ U.heap = h0) (fun _ _ _ _ _ => True) (fun _ U o U' => ∃ v L, o = .returned v ∧ own_Q1 (own_re r1 i1) h0 v U'.heap L ∧ FrameEnd U o U' L ({ frames := 0, cells := 0, slots := 0, locals := 0 } : Room).cells ({ frames := 0, cells := 0, slots := 0, locals := 0 } : Room).slots) := by
  refine MetFree.of_bodySF (plainFor_of_name pn2) hisR ?_
  intro p e s m args below meth c s₁ Bd hml0 hP hK
  obtain ⟨rfl, hZ, hh⟩ := hP
  have hx := Bd.exec
  have hby := Bd.bytes
  have hml : c.maxLocals = 2 := hml0
  have hown : s.vm.findClass "com/example/abridge/abridge/relative/LevelLayout" = some m.cls := findClass_of_methodNamed Bd.named
  have hnm := (name_of_methodNamed Bd.named Bd.method).1
  have X0 : Stand p l e ({ frames := 0, cells := 0, slots := 0, locals := 0 } : Room) s m #[(.ref a1), (.int i1)] below meth c s₁ [] 0 0 := Stand.of_body Bd
  have e0 : s₁.heap = h0 := by rw [← hh, Bd.state]; rfl
  refine (show own_G p e below s (own_Q1 (own_re r1 i1) h0) 0 0 (s₁.setTop (entryFrame m #[(.ref a1), (.int i1)] 2)) → _ from fun k => k) ?_
  refine own_go (fun t k => castTop (ef4 m a1 i1) k) ?_
  show own_G p e below s (own_Q1 (own_re r1 i1) h0) 0 0 (s₁.setTop (mkF m 0 #[.val (.ref a1), .val (.int i1)] []))
  refine own_go (fun t k => XS.aloadN X0.here hx rfl (hb hby d4_0) rfl rfl k) ?_
  show own_G p e below s (own_Q1 (own_re r1 i1) h0) 0 0 (s₁.setTop (mkF m 1 #[.val (.ref a1), .val (.int i1)] [(.ref a1)]))
  obtain ⟨T103, X103, e103, st103⟩ := getF X0 hx hZ hown (host := "") (Or.inl (hw _ (List.mem_of_getElem? (i := 15) rfl))) Via.refl e0 F0 (g := (mkF m 1 #[.val (.ref a1), .val (.int i1)] [(.ref a1)])) rfl rfl (hb hby d4_1)
  refine own_go st103 ?_
  show own_G p e below s (own_Q1 (own_re r1 i1) h0) 0 0 (T103.setTop (mkF m 4 #[.val (.ref a1), .val (.int i1)] [(.long r1)]))
  refine own_go (X103.ldc2Long hx hown (mvT hZ (hw _ (List.mem_of_getElem? (i := 22) rfl))) (g := (mkF m 4 #[.val (.ref a1), .val (.int i1)] [(.long r1)])) rfl (hb hby d4_4)) ?_
  show own_G p e below s (own_Q1 (own_re r1 i1) h0) 0 0 (T103.setTop (mkF m 7 #[.val (.ref a1), .val (.int i1)] [(.long (9223372036854775807 : Int64)), (.long r1)]))
  refine own_go (fun t k => XS.iloadN X103.here hx rfl (hb hby d4_7) rfl k) ?_
  show own_G p e below s (own_Q1 (own_re r1 i1) h0) 0 0 (T103.setTop (mkF m 8 #[.val (.ref a1), .val (.int i1)] [(.int i1), (.long (9223372036854775807 : Int64)), (.long r1)]))
  refine own_go (fun t k => XS.iconst X103.here hx rfl (hb hby d4_8) k) ?_
  show own_G p e below s (own_Q1 (own_re r1 i1) h0) 0 0 (T103.setTop (mkF m 9 #[.val (.ref a1), .val (.int i1)] [(.int (1 : Int32)), (.int i1), (.long (9223372036854775807 : Int64)), (.long r1)]))
  refine own_go (fun t k => XS.iadd X103.here hx rfl (hb hby d4_9) rfl k) ?_
  show own_G p e below s (own_Q1 (own_re r1 i1) h0) 0 0 (T103.setTop (mkF m 10 #[.val (.ref a1), .val (.int i1)] [(.int (i1 + (1 : Int32))), (.long (9223372036854775807 : Int64)), (.long r1)]))
  refine own_go (fun t k => XT.lshr X103.here hx rfl (hb hby d4_10) rfl k) ?_
  show own_G p e below s (own_Q1 (own_re r1 i1) h0) 0 0 (T103.setTop (mkF m 11 #[.val (.ref a1), .val (.int i1)] [(.long ((9223372036854775807 : Int64) >>> ((i1 + (1 : Int32)).toInt64 &&& 63))), (.long r1)]))
  refine own_go (fun t k => XT.lcmp X103.here hx rfl (hb hby d4_11) rfl k) ?_
  show own_G p e below s (own_Q1 (own_re r1 i1) h0) 0 0 (T103.setTop (mkF m 12 #[.val (.ref a1), .val (.int i1)] [(.int (XT.cmpL r1 ((9223372036854775807 : Int64) >>> ((i1 + (1 : Int32)).toInt64 &&& 63))))]))
  by_cases h1 : ((9223372036854775807 : Int64) >>> ((i1 + (1 : Int32)).toInt64 &&& 63)) < r1
  · skip
    refine own_go (fun t k => XS.ifYes X103.here hx rfl (pc0 := 12) (pc' := 26) rfl (hb hby d4_12) rfl (XT.ll_gt_t h1) (by decide) (by decide) k) ?_
    show own_G p e below s (own_Q1 (own_re r1 i1) h0) 0 0 (T103.setTop (mkF m 26 #[.val (.ref a1), .val (.int i1)] []))
    refine own_go (X103.ldc2Long hx hown (mvT hZ (hw _ (List.mem_of_getElem? (i := 22) rfl))) (g := (mkF m 26 #[.val (.ref a1), .val (.int i1)] [])) rfl (hb hby d4_26)) ?_
    show own_G p e below s (own_Q1 (own_re r1 i1) h0) 0 0 (T103.setTop (mkF m 29 #[.val (.ref a1), .val (.int i1)] [(.long (9223372036854775807 : Int64))]))
    exact own_leave X103 (some (.long (9223372036854775807 : Int64))) (fun h => by rw [Bd.returns] at h; cases h) Bd.notSynchronized (fun fs hr => X103.lreturnOut hx Bd.returns (hb hby d4_29) hr) ⟨congrArg (fun z => some (Value.long z)) (if_pos h1).symm, rfl, e103⟩ (by decide) (by decide)
  · skip
    refine own_go (fun t k => XS.ifNo X103.here hx rfl (hb hby d4_12) rfl (XT.ll_gt_f h1) k) ?_
    show own_G p e below s (own_Q1 (own_re r1 i1) h0) 0 0 (T103.setTop (mkF m 15 #[.val (.ref a1), .val (.int i1)] []))
    refine own_go (fun t k => XS.aloadN X103.here hx rfl (hb hby d4_15) rfl rfl k) ?_
    show own_G p e below s (own_Q1 (own_re r1 i1) h0) 0 0 (T103.setTop (mkF m 16 #[.val (.ref a1), .val (.int i1)] [(.ref a1)]))
    obtain ⟨T104, X104, e104, st104⟩ := getF X103 hx hZ hown (host := "") (Or.inl (hw _ (List.mem_of_getElem? (i := 15) rfl))) Via.refl e103 F0 (g := (mkF m 16 #[.val (.ref a1), .val (.int i1)] [(.ref a1)])) rfl rfl (hb hby d4_16)
    refine own_go st104 ?_
    show own_G p e below s (own_Q1 (own_re r1 i1) h0) 0 0 (T104.setTop (mkF m 19 #[.val (.ref a1), .val (.int i1)] [(.long r1)]))
    refine own_go (fun t k => XS.iloadN X104.here hx rfl (hb hby d4_19) rfl k) ?_
    show own_G p e below s (own_Q1 (own_re r1 i1) h0) 0 0 (T104.setTop (mkF m 20 #[.val (.ref a1), .val (.int i1)] [(.int i1), (.long r1)]))
    refine own_go (fun t k => XS.iconst X104.here hx rfl (hb hby d4_20) k) ?_
    show own_G p e below s (own_Q1 (own_re r1 i1) h0) 0 0 (T104.setTop (mkF m 21 #[.val (.ref a1), .val (.int i1)] [(.int (1 : Int32)), (.int i1), (.long r1)]))
    refine own_go (fun t k => XS.iadd X104.here hx rfl (hb hby d4_21) rfl k) ?_
    show own_G p e below s (own_Q1 (own_re r1 i1) h0) 0 0 (T104.setTop (mkF m 22 #[.val (.ref a1), .val (.int i1)] [(.int (i1 + (1 : Int32))), (.long r1)]))
    refine own_go (fun t k => XT.lshl X104.here hx rfl (hb hby d4_22) rfl k) ?_
    show own_G p e below s (own_Q1 (own_re r1 i1) h0) 0 0 (T104.setTop (mkF m 23 #[.val (.ref a1), .val (.int i1)] [(.long (r1 <<< ((i1 + (1 : Int32)).toInt64 &&& 63)))]))
    refine own_go (fun t k => XS.goto X104.here hx rfl (pc0 := 23) (pc' := 29) rfl (hb hby d4_23) (by decide) (by decide) k) ?_
    show own_G p e below s (own_Q1 (own_re r1 i1) h0) 0 0 (T104.setTop (mkF m 29 #[.val (.ref a1), .val (.int i1)] [(.long (r1 <<< ((i1 + (1 : Int32)).toInt64 &&& 63)))]))
    exact own_leave X104 (some (.long (r1 <<< ((i1 + (1 : Int32)).toInt64 &&& 63)))) (fun h => by rw [Bd.returns] at h; cases h) Bd.notSynchronized (fun fs hr => X104.lreturnOut hx Bd.returns (hb hby d4_29) hr) ⟨congrArg (fun z => some (Value.long z)) (if_neg h1).symm, rfl, e104⟩ (by decide) (by decide)
theorem pn0 : plainName "com/example/abridge/abridge/relative/LevelLayoutRangeEndPinLaw" = true := by first | (simp [plainName, overriddenIn]; done) | decide +kernel
theorem ef0 (m : MethodId) (x0 : Int64) (x1 : Int32) (x2 : Int32) (x3 : Int32) : entryFrame m #[(.long x0), (.int x1), (.int x2), (.int x3)] maxLocals = mkF m 0 #[.val (.long x0), .second, .val (.int x1), .val (.int x2), .val (.int x3), .unset, .unset, .unset, .unset, .unset, .unset, .unset, .unset, .unset, .unset, .unset, .unset, .unset, .unset] [] := by first | (simp [entryFrame, mkF, argsToLocals, Value.category, maxLocals]; done) | rfl
def own_Q0 (n0 : Nat) (v : Option Value) (h : Heap) (L : List Loc) : Prop := v = some (.int 1) ∧ Fr n0 L
set_option maxRecDepth 65536 in
set_option maxHeartbeats 40000000 in
theorem rm0 (l : Launch) (Z : State) (a0 : Array Value) (hw : ∀ d ∈ tables_1, d.before a0 Z = true) (ws : List Jvm.Cond) (x0 : Int64) (x1 x2 x3 : Int32) (h0 : Heap) (n0 : Nat) (Z0 : n0 ≤ h0.size) :
    MetFree l x (head1 (Jvm.Cond.code x code maxLocals ret :: ws) room_1) (fun a U => a = #[(.long x0), (.int x1), (.int x2), (.int x3)] ∧ Z.Warmed39 U.vm ∧ U.heap = h0) (fun _ _ _ _ _ => True) (fun _ U o U' => ∃ v L, o = .returned v ∧ own_Q0 n0 v U'.heap L ∧ FrameEnd U o U' L 16 128) := by
  refine MetFree.of_bodySF (plainFor_of_name pn0) hisR ?_
  intro p e s m args below meth c s₁ Bd hml0 hP hK
  obtain ⟨rfl, hZ, hh⟩ := hP
  have hx := Bd.exec
  have hby := Bd.bytes
  have hml : c.maxLocals = 19 := hml0
  have hown : s.vm.findClass "com/example/abridge/abridge/relative/LevelLayoutRangeEndPinLaw" = some m.cls := findClass_of_methodNamed Bd.named
  have hnm := (name_of_methodNamed Bd.named Bd.method).1
  have X0 : Stand p l e room_1 s m #[(.long x0), (.int x1), (.int x2), (.int x3)] below meth c s₁ [] 0 0 := Stand.of_body Bd
  have e0 : s₁.heap = h0 := by rw [← hh, Bd.state]; rfl
  refine (show own_G p e below s (own_Q0 n0) 16 128 (s₁.setTop (entryFrame m #[(.long x0), (.int x1), (.int x2), (.int x3)] maxLocals)) → _ from fun k => k) ?_
  refine own_go (fun t k => castTop (ef0 m x0 x1 x2 x3) k) ?_
  show own_G p e below s (own_Q0 n0) 16 128 (s₁.setTop (mkF m 0 #[.val (.long x0), .second, .val (.int x1), .val (.int x2), .val (.int x3), .unset, .unset, .unset, .unset, .unset, .unset, .unset, .unset, .unset, .unset, .unset, .unset, .unset, .unset] []))
  refine own_go (fun t k => XS.iloadN X0.here hx rfl (hb hby at_0) rfl k) ?_
  show own_G p e below s (own_Q0 n0) 16 128 (s₁.setTop (mkF m 1 #[.val (.long x0), .second, .val (.int x1), .val (.int x2), .val (.int x3), .unset, .unset, .unset, .unset, .unset, .unset, .unset, .unset, .unset, .unset, .unset, .unset, .unset, .unset] [(.int x2)]))
  refine own_go (X0.ldcInt hx hown (mvT hZ (hw _ (List.mem_of_getElem? (i := 0) rfl))) (g := (mkF m 1 #[.val (.long x0), .second, .val (.int x1), .val (.int x2), .val (.int x3), .unset, .unset, .unset, .unset, .unset, .unset, .unset, .unset, .unset, .unset, .unset, .unset, .unset, .unset] [(.int x2)])) rfl (hb hby at_1)) ?_
  show own_G p e below s (own_Q0 n0) 16 128 (s₁.setTop (mkF m 3 #[.val (.long x0), .second, .val (.int x1), .val (.int x2), .val (.int x3), .unset, .unset, .unset, .unset, .unset, .unset, .unset, .unset, .unset, .unset, .unset, .unset, .unset, .unset] [(.int (2147483647 : Int32)), (.int x2)]))
  refine own_go (fun t k => XS.iand X0.here hx rfl (hb hby at_3) rfl k) ?_
  show own_G p e below s (own_Q0 n0) 16 128 (s₁.setTop (mkF m 4 #[.val (.long x0), .second, .val (.int x1), .val (.int x2), .val (.int x3), .unset, .unset, .unset, .unset, .unset, .unset, .unset, .unset, .unset, .unset, .unset, .unset, .unset, .unset] [(.int (x2 &&& (2147483647 : Int32)))]))
  refine own_go (fun t k => XS.bipush X0.here hx rfl (hb hby at_4) k) ?_
  show own_G p e below s (own_Q0 n0) 16 128 (s₁.setTop (mkF m 6 #[.val (.long x0), .second, .val (.int x1), .val (.int x2), .val (.int x3), .unset, .unset, .unset, .unset, .unset, .unset, .unset, .unset, .unset, .unset, .unset, .unset, .unset, .unset] [(.int (63 : Int32)), (.int (x2 &&& (2147483647 : Int32)))]))
  refine own_go (fun t k => iremM X0 hx rfl (hb hby at_6) rfl (by decide) k) ?_
  show own_G p e below s (own_Q0 n0) 16 128 (s₁.setTop (mkF m 7 #[.val (.long x0), .second, .val (.int x1), .val (.int x2), .val (.int x3), .unset, .unset, .unset, .unset, .unset, .unset, .unset, .unset, .unset, .unset, .unset, .unset, .unset, .unset] [(.int ((x2 &&& (2147483647 : Int32)) % (63 : Int32)))]))
  refine own_go (fun t k => XS.istore X0.here hx rfl (hb hby at_7) rfl (l' := #[.val (.long x0), .second, .val (.int x1), .val (.int x2), .val (.int x3), .val (.int ((x2 &&& (2147483647 : Int32)) % (63 : Int32))), .unset, .unset, .unset, .unset, .unset, .unset, .unset, .unset, .unset, .unset, .unset, .unset, .unset]) rfl k) ?_
  show own_G p e below s (own_Q0 n0) 16 128 (s₁.setTop (mkF m 9 #[.val (.long x0), .second, .val (.int x1), .val (.int x2), .val (.int x3), .val (.int ((x2 &&& (2147483647 : Int32)) % (63 : Int32))), .unset, .unset, .unset, .unset, .unset, .unset, .unset, .unset, .unset, .unset, .unset, .unset, .unset] []))
  suffices own_n_ix : ∀ ix : Int32, ix = ((x2 &&& (2147483647 : Int32)) % (63 : Int32)) → own_G p e below s (own_Q0 n0) 16 128 (s₁.setTop (mkF m 9 #[.val (.long x0), .second, .val (.int x1), .val (.int x2), .val (.int x3), .val (.int ix), .unset, .unset, .unset, .unset, .unset, .unset, .unset, .unset, .unset, .unset, .unset, .unset, .unset] [])) from own_n_ix _ rfl
  intro ix h_ix
  obtain ⟨kn, hk1, hk2, hk3⟩ : ∃ kn : Nat, 1 ≤ kn ∧ kn ≤ 63 ∧ ix + (1 : Int32) = Int32.ofNat kn := by rw [h_ix]; exact own_idx x2
  refine own_go (fun t k => XS.iload X0.here hx rfl (hb hby at_9) rfl k) ?_
  show own_G p e below s (own_Q0 n0) 16 128 (s₁.setTop (mkF m 11 #[.val (.long x0), .second, .val (.int x1), .val (.int x2), .val (.int x3), .val (.int ix), .unset, .unset, .unset, .unset, .unset, .unset, .unset, .unset, .unset, .unset, .unset, .unset, .unset] [(.int ix)]))
  refine own_go (fun t k => XS.iconst X0.here hx rfl (hb hby at_11) k) ?_
  show own_G p e below s (own_Q0 n0) 16 128 (s₁.setTop (mkF m 12 #[.val (.long x0), .second, .val (.int x1), .val (.int x2), .val (.int x3), .val (.int ix), .unset, .unset, .unset, .unset, .unset, .unset, .unset, .unset, .unset, .unset, .unset, .unset, .unset] [(.int (1 : Int32)), (.int ix)]))
  refine own_go (fun t k => XS.iadd X0.here hx rfl (hb hby at_12) rfl k) ?_
  show own_G p e below s (own_Q0 n0) 16 128 (s₁.setTop (mkF m 13 #[.val (.long x0), .second, .val (.int x1), .val (.int x2), .val (.int x3), .val (.int ix), .unset, .unset, .unset, .unset, .unset, .unset, .unset, .unset, .unset, .unset, .unset, .unset, .unset] [(.int (ix + (1 : Int32)))]))
  refine own_go (fun t k => XS.istore X0.here hx rfl (hb hby at_13) rfl (l' := #[.val (.long x0), .second, .val (.int x1), .val (.int x2), .val (.int x3), .val (.int ix), .val (.int (ix + (1 : Int32))), .unset, .unset, .unset, .unset, .unset, .unset, .unset, .unset, .unset, .unset, .unset, .unset]) rfl k) ?_
  show own_G p e below s (own_Q0 n0) 16 128 (s₁.setTop (mkF m 15 #[.val (.long x0), .second, .val (.int x1), .val (.int x2), .val (.int x3), .val (.int ix), .val (.int (ix + (1 : Int32))), .unset, .unset, .unset, .unset, .unset, .unset, .unset, .unset, .unset, .unset, .unset, .unset] []))
  refine own_go (X0.ldc2Long hx hown (mvT hZ (hw _ (List.mem_of_getElem? (i := 1) rfl))) (g := (mkF m 15 #[.val (.long x0), .second, .val (.int x1), .val (.int x2), .val (.int x3), .val (.int ix), .val (.int (ix + (1 : Int32))), .unset, .unset, .unset, .unset, .unset, .unset, .unset, .unset, .unset, .unset, .unset, .unset] [])) rfl (hb hby at_15)) ?_
  show own_G p e below s (own_Q0 n0) 16 128 (s₁.setTop (mkF m 18 #[.val (.long x0), .second, .val (.int x1), .val (.int x2), .val (.int x3), .val (.int ix), .val (.int (ix + (1 : Int32))), .unset, .unset, .unset, .unset, .unset, .unset, .unset, .unset, .unset, .unset, .unset, .unset] [(.long (9223372036854775807 : Int64))]))
  refine own_go (fun t k => XS.iload X0.here hx rfl (hb hby at_18) rfl k) ?_
  show own_G p e below s (own_Q0 n0) 16 128 (s₁.setTop (mkF m 20 #[.val (.long x0), .second, .val (.int x1), .val (.int x2), .val (.int x3), .val (.int ix), .val (.int (ix + (1 : Int32))), .unset, .unset, .unset, .unset, .unset, .unset, .unset, .unset, .unset, .unset, .unset, .unset] [(.int (ix + (1 : Int32))), (.long (9223372036854775807 : Int64))]))
  refine own_go (fun t k => XT.lshr X0.here hx rfl (hb hby at_20) rfl k) ?_
  show own_G p e below s (own_Q0 n0) 16 128 (s₁.setTop (mkF m 21 #[.val (.long x0), .second, .val (.int x1), .val (.int x2), .val (.int x3), .val (.int ix), .val (.int (ix + (1 : Int32))), .unset, .unset, .unset, .unset, .unset, .unset, .unset, .unset, .unset, .unset, .unset, .unset] [(.long ((9223372036854775807 : Int64) >>> ((ix + (1 : Int32)).toInt64 &&& 63)))]))
  refine own_go (fun t k => XT.lstore X0.here hx rfl (hb hby at_21) rfl (l' := #[.val (.long x0), .second, .val (.int x1), .val (.int x2), .val (.int x3), .val (.int ix), .val (.int (ix + (1 : Int32))), .val (.long ((9223372036854775807 : Int64) >>> ((ix + (1 : Int32)).toInt64 &&& 63))), .second, .unset, .unset, .unset, .unset, .unset, .unset, .unset, .unset, .unset, .unset]) rfl k) ?_
  show own_G p e below s (own_Q0 n0) 16 128 (s₁.setTop (mkF m 23 #[.val (.long x0), .second, .val (.int x1), .val (.int x2), .val (.int x3), .val (.int ix), .val (.int (ix + (1 : Int32))), .val (.long ((9223372036854775807 : Int64) >>> ((ix + (1 : Int32)).toInt64 &&& 63))), .second, .unset, .unset, .unset, .unset, .unset, .unset, .unset, .unset, .unset, .unset] []))
  suffices own_n_ed : ∀ ed : Int64, ed = ((9223372036854775807 : Int64) >>> ((ix + (1 : Int32)).toInt64 &&& 63)) → own_G p e below s (own_Q0 n0) 16 128 (s₁.setTop (mkF m 23 #[.val (.long x0), .second, .val (.int x1), .val (.int x2), .val (.int x3), .val (.int ix), .val (.int (ix + (1 : Int32))), .val (.long ed), .second, .unset, .unset, .unset, .unset, .unset, .unset, .unset, .unset, .unset, .unset] [])) from own_n_ed _ rfl
  intro ed h_ed
  refine own_go (fun t k => XS.iload X0.here hx rfl (hb hby at_23) rfl k) ?_
  show own_G p e below s (own_Q0 n0) 16 128 (s₁.setTop (mkF m 25 #[.val (.long x0), .second, .val (.int x1), .val (.int x2), .val (.int x3), .val (.int ix), .val (.int (ix + (1 : Int32))), .val (.long ed), .second, .unset, .unset, .unset, .unset, .unset, .unset, .unset, .unset, .unset, .unset] [(.int x3)]))
  refine own_go (fun t k => XS.iconst X0.here hx rfl (hb hby at_25) k) ?_
  show own_G p e below s (own_Q0 n0) 16 128 (s₁.setTop (mkF m 26 #[.val (.long x0), .second, .val (.int x1), .val (.int x2), .val (.int x3), .val (.int ix), .val (.int (ix + (1 : Int32))), .val (.long ed), .second, .unset, .unset, .unset, .unset, .unset, .unset, .unset, .unset, .unset, .unset] [(.int (3 : Int32)), (.int x3)]))
  refine own_go (fun t k => XS.iand X0.here hx rfl (hb hby at_26) rfl k) ?_
  show own_G p e below s (own_Q0 n0) 16 128 (s₁.setTop (mkF m 27 #[.val (.long x0), .second, .val (.int x1), .val (.int x2), .val (.int x3), .val (.int ix), .val (.int (ix + (1 : Int32))), .val (.long ed), .second, .unset, .unset, .unset, .unset, .unset, .unset, .unset, .unset, .unset, .unset] [(.int (x3 &&& (3 : Int32)))]))
  refine own_go (fun t k => XS.istore X0.here hx rfl (hb hby at_27) rfl (l' := #[.val (.long x0), .second, .val (.int x1), .val (.int x2), .val (.int x3), .val (.int ix), .val (.int (ix + (1 : Int32))), .val (.long ed), .second, .val (.int (x3 &&& (3 : Int32))), .unset, .unset, .unset, .unset, .unset, .unset, .unset, .unset, .unset]) rfl k) ?_
  show own_G p e below s (own_Q0 n0) 16 128 (s₁.setTop (mkF m 29 #[.val (.long x0), .second, .val (.int x1), .val (.int x2), .val (.int x3), .val (.int ix), .val (.int (ix + (1 : Int32))), .val (.long ed), .second, .val (.int (x3 &&& (3 : Int32))), .unset, .unset, .unset, .unset, .unset, .unset, .unset, .unset, .unset] []))
  suffices own_n_md : ∀ md : Int32, md = (x3 &&& (3 : Int32)) → own_G p e below s (own_Q0 n0) 16 128 (s₁.setTop (mkF m 29 #[.val (.long x0), .second, .val (.int x1), .val (.int x2), .val (.int x3), .val (.int ix), .val (.int (ix + (1 : Int32))), .val (.long ed), .second, .val (.int md), .unset, .unset, .unset, .unset, .unset, .unset, .unset, .unset, .unset] [])) from own_n_md _ rfl
  intro md h_md
  have J83 : ∀ (v : Int64), own_G p e below s (own_Q0 n0) 16 128 (s₁.setTop (mkF m 83 #[.val (.long x0), .second, .val (.int x1), .val (.int x2), .val (.int x3), .val (.int ix), .val (.int (ix + (1 : Int32))), .val (.long ed), .second, .val (.int md), .val (.long v), .second, .unset, .unset, .unset, .unset, .unset, .unset, .unset] [])) := by
    intro v
    refine own_go (fun t k => XT.lconst X0.here hx rfl (hb hby at_83) k) ?_
    show own_G p e below s (own_Q0 n0) 16 128 (s₁.setTop (mkF m 84 #[.val (.long x0), .second, .val (.int x1), .val (.int x2), .val (.int x3), .val (.int ix), .val (.int (ix + (1 : Int32))), .val (.long ed), .second, .val (.int md), .val (.long v), .second, .unset, .unset, .unset, .unset, .unset, .unset, .unset] [(.long (1 : Int64))]))
    refine own_go (fun t k => XT.lload X0.here hx rfl (hb hby at_84) rfl k) ?_
    show own_G p e below s (own_Q0 n0) 16 128 (s₁.setTop (mkF m 86 #[.val (.long x0), .second, .val (.int x1), .val (.int x2), .val (.int x3), .val (.int ix), .val (.int (ix + (1 : Int32))), .val (.long ed), .second, .val (.int md), .val (.long v), .second, .unset, .unset, .unset, .unset, .unset, .unset, .unset] [(.long v), (.long (1 : Int64))]))
    obtain ⟨_, _, ⟨T105, L105, k105, n105⟩, -, X105, ⟨Lc105, hQ105, l105, y105, z105⟩, st105⟩ := Jvm.LawKit.callS X0 hx (y := (⟨"java/lang/Math", "max", "(JJ)J"⟩ : MethodName)) hown (mvT hZ (hw _ (List.mem_of_getElem? (i := 2) rfl))) (mvT hZ (hw _ (List.mem_of_getElem? (i := 3) rfl))) (mvT hZ (hw _ (List.mem_of_getElem? (i := 4) rfl))) (mvT hZ (hw _ (List.mem_of_getElem? (i := 5) rfl))) (by decide) (backOf (W := 0) (rm1 l Z a0 hw [] 1 v h0) hZ (hw _ (List.mem_of_getElem? (i := 5) rfl)) (hw _ (List.mem_of_getElem? (i := 4) rfl)) (by decide) (by decide)) (g := (mkF m 86 #[.val (.long x0), .second, .val (.int x1), .val (.int x2), .val (.int x3), .val (.int ix), .val (.int (ix + (1 : Int32))), .val (.long ed), .second, .val (.int md), .val (.long v), .second, .unset, .unset, .unset, .unset, .unset, .unset, .unset] [(.long v), (.long (1 : Int64))])) rfl (by rw [hml]; rfl) (argsL := [(.long (1 : Int64)), (.long v)]) (rest := []) (lenOf pd1 rfl) rfl (by show 2 * 0 + _ ≤ _; exact Nat.le_of_eq rfl) (hb hby at_86) (fun _ _ => ⟨rfl, e0, (by decide : 0 + 0 ≤ _), (by decide : 0 + 0 ≤ _)⟩)
    dsimp only [Pt.U, Pt.locs, Pt.cells, Pt.slots] at X105 l105 y105 z105 st105 hQ105
    subst l105 y105 z105
    obtain ⟨rfl, rfl, e105⟩ := hQ105
    refine own_go (st105) ?_
    show own_G p e below s (own_Q0 n0) 16 128 (T105.setTop (mkF m 89 #[.val (.long x0), .second, .val (.int x1), .val (.int x2), .val (.int x3), .val (.int ix), .val (.int (ix + (1 : Int32))), .val (.long ed), .second, .val (.int md), .val (.long v), .second, .unset, .unset, .unset, .unset, .unset, .unset, .unset] [(.long (own_maxL (1 : Int64) v))]))
    refine own_go (fun t k => XT.lstore X105.here hx rfl (hb hby at_89) rfl (l' := #[.val (.long x0), .second, .val (.int x1), .val (.int x2), .val (.int x3), .val (.int ix), .val (.int (ix + (1 : Int32))), .val (.long ed), .second, .val (.int md), .val (.long (own_maxL (1 : Int64) v)), .second, .unset, .unset, .unset, .unset, .unset, .unset, .unset]) rfl k) ?_
    show own_G p e below s (own_Q0 n0) 16 128 (T105.setTop (mkF m 91 #[.val (.long x0), .second, .val (.int x1), .val (.int x2), .val (.int x3), .val (.int ix), .val (.int (ix + (1 : Int32))), .val (.long ed), .second, .val (.int md), .val (.long (own_maxL (1 : Int64) v)), .second, .unset, .unset, .unset, .unset, .unset, .unset, .unset] []))
    suffices own_n_nn : ∀ nn : Int64, nn = own_maxL (1 : Int64) v → own_G p e below s (own_Q0 n0) 16 128 (T105.setTop (mkF m 91 #[.val (.long x0), .second, .val (.int x1), .val (.int x2), .val (.int x3), .val (.int ix), .val (.int (ix + (1 : Int32))), .val (.long ed), .second, .val (.int md), .val (.long nn), .second, .unset, .unset, .unset, .unset, .unset, .unset, .unset] [])) from own_n_nn _ rfl
    intro nn h_nn
    have hn : 1 ≤ nn.toInt := by rw [h_nn]; exact own_maxL_pos v
    obtain ⟨T106, h106, X106, e106, E106, A106, D106, -, st106⟩ := newO X105 hx hZ hown (hw _ (List.mem_of_getElem? (i := 6) rfl)) (hw _ (List.mem_of_getElem? (i := 7) rfl)) (hw _ (List.mem_of_getElem? (i := 8) rfl)) e105 (g := (mkF m 91 #[.val (.long x0), .second, .val (.int x1), .val (.int x2), .val (.int x3), .val (.int ix), .val (.int (ix + (1 : Int32))), .val (.long ed), .second, .val (.int md), .val (.long nn), .second, .unset, .unset, .unset, .unset, .unset, .unset, .unset] [])) rfl (hb hby at_91) (by decide) (by decide)
    obtain ⟨a3, g106⟩ : ∃ z, z = h0.size := ⟨_, rfl⟩
    rw [← g106] at A106 D106 st106
    refine own_go st106 ?_
    show own_G p e below s (own_Q0 n0) 16 128 (T106.setTop (mkF m 94 #[.val (.long x0), .second, .val (.int x1), .val (.int x2), .val (.int x3), .val (.int ix), .val (.int (ix + (1 : Int32))), .val (.long ed), .second, .val (.int md), .val (.long nn), .second, .unset, .unset, .unset, .unset, .unset, .unset, .unset] [(.ref a3)]))
    have F1 : Fld Z h106 a3 "com/example/abridge/abridge/relative/LevelLayout" "n0" "J" (.long (0 : Int64)) := (D106 (Or.inr (hw _ (List.mem_of_getElem? (i := 16) rfl))) (ty := .long) (by decide))
    have Z1 : n0 ≤ h106.size := Nat.le_trans Z0 E106.1
    have g3 : n0 ≤ a3 := Nat.le_trans Z0 (Nat.le_of_eq g106.symm)
    refine own_go (fun t k => XS.dup X106.here hx rfl (hb hby at_94) rfl rfl k) ?_
    show own_G p e below s (own_Q0 n0) 16 128 (T106.setTop (mkF m 95 #[.val (.long x0), .second, .val (.int x1), .val (.int x2), .val (.int x3), .val (.int ix), .val (.int (ix + (1 : Int32))), .val (.long ed), .second, .val (.int md), .val (.long nn), .second, .unset, .unset, .unset, .unset, .unset, .unset, .unset] [(.ref a3), (.ref a3)]))
    refine own_go (fun t k => XT.lload X106.here hx rfl (hb hby at_95) rfl k) ?_
    show own_G p e below s (own_Q0 n0) 16 128 (T106.setTop (mkF m 97 #[.val (.long x0), .second, .val (.int x1), .val (.int x2), .val (.int x3), .val (.int ix), .val (.int (ix + (1 : Int32))), .val (.long ed), .second, .val (.int md), .val (.long nn), .second, .unset, .unset, .unset, .unset, .unset, .unset, .unset] [(.long nn), (.ref a3), (.ref a3)]))
    obtain ⟨_, _, ⟨T107, L107, k107, n107⟩, -, X107, ⟨Lc107, hQ107, l107, y107, z107⟩, st107⟩ := X106.specialBack hx (y := (⟨"com/example/abridge/abridge/relative/LevelLayout", "<init>", "(J)V"⟩ : MethodName)) rfl hown (mvT hZ (hw _ (List.mem_of_getElem? (i := 9) rfl))) (mvT hZ (hw _ (List.mem_of_getElem? (i := 10) rfl))) (mvT hZ (hw _ (List.mem_of_getElem? (i := 11) rfl))) (by decide) (backOf (W := 1) (rm2 l Z a0 hw [] a3 nn h106 n0 Z1 F1 A106 g3) hZ (hw _ (List.mem_of_getElem? (i := 11) rfl)) (hw _ (List.mem_of_getElem? (i := 8) rfl)) (by decide) (by decide)) (g := (mkF m 97 #[.val (.long x0), .second, .val (.int x1), .val (.int x2), .val (.int x3), .val (.int ix), .val (.int (ix + (1 : Int32))), .val (.long ed), .second, .val (.int md), .val (.long nn), .second, .unset, .unset, .unset, .unset, .unset, .unset, .unset] [(.long nn), (.ref a3), (.ref a3)])) rfl (by rw [hml]; rfl) (Steps.refl _) (a := a3) (argsL := [(.long nn)]) (rest := [(.ref a3)]) (lenOf pd2 rfl) rfl (by show 2 * 0 + _ ≤ _; exact Nat.le_of_eq rfl) (hb hby at_97) (fun _ _ => ⟨rfl, e106, (by decide : 1 + 0 ≤ _), (by decide : 1 + 0 ≤ _)⟩)
    dsimp only [Pt.U, Pt.locs, Pt.cells, Pt.slots] at X107 l107 y107 z107 st107 hQ107
    subst l107 y107 z107
    obtain ⟨rfl, N4, K4, E4, F4⟩ := hQ107
    refine own_go (fun t k => st107.trans k) ?_
    show own_G p e below s (own_Q0 n0) 16 128 (T107.setTop (mkF m 100 #[.val (.long x0), .second, .val (.int x1), .val (.int x2), .val (.int x3), .val (.int ix), .val (.int (ix + (1 : Int32))), .val (.long ed), .second, .val (.int md), .val (.long nn), .second, .unset, .unset, .unset, .unset, .unset, .unset, .unset] [(.ref a3)]))
    refine own_go (fun t k => XS.astore X107.here hx rfl (hb hby at_100) rfl rfl (l' := #[.val (.long x0), .second, .val (.int x1), .val (.int x2), .val (.int x3), .val (.int ix), .val (.int (ix + (1 : Int32))), .val (.long ed), .second, .val (.int md), .val (.long nn), .second, .val (.ref a3), .unset, .unset, .unset, .unset, .unset, .unset]) rfl k) ?_
    show own_G p e below s (own_Q0 n0) 16 128 (T107.setTop (mkF m 102 #[.val (.long x0), .second, .val (.int x1), .val (.int x2), .val (.int x3), .val (.int ix), .val (.int (ix + (1 : Int32))), .val (.long ed), .second, .val (.int md), .val (.long nn), .second, .val (.ref a3), .unset, .unset, .unset, .unset, .unset, .unset] []))
    refine own_go (fun t k => XS.aload X107.here hx rfl (hb hby at_102) rfl rfl k) ?_
    show own_G p e below s (own_Q0 n0) 16 128 (T107.setTop (mkF m 104 #[.val (.long x0), .second, .val (.int x1), .val (.int x2), .val (.int x3), .val (.int ix), .val (.int (ix + (1 : Int32))), .val (.long ed), .second, .val (.int md), .val (.long nn), .second, .val (.ref a3), .unset, .unset, .unset, .unset, .unset, .unset] [(.ref a3)]))
    refine own_go (fun t k => XS.iload X107.here hx rfl (hb hby at_104) rfl k) ?_
    show own_G p e below s (own_Q0 n0) 16 128 (T107.setTop (mkF m 106 #[.val (.long x0), .second, .val (.int x1), .val (.int x2), .val (.int x3), .val (.int ix), .val (.int (ix + (1 : Int32))), .val (.long ed), .second, .val (.int md), .val (.long nn), .second, .val (.ref a3), .unset, .unset, .unset, .unset, .unset, .unset] [(.int ix), (.ref a3)]))
    obtain ⟨cq108, kq108, q108a, q108b, q108c⟩ := isOf hZ rfl E4
    obtain ⟨_, _, ⟨T108, L108, k108, n108⟩, -, X108, ⟨Lc108, hQ108, l108, y108, z108⟩, st108⟩ := X107.virtualBack hx (y := (⟨"com/example/abridge/abridge/relative/LevelLayout", "rangeEnd", "(I)J"⟩ : MethodName)) (z := (⟨"com/example/abridge/abridge/relative/LevelLayout", "rangeEnd", "(I)J"⟩ : MethodName)) hown (mvT hZ (hw _ (List.mem_of_getElem? (i := 17) rfl))) (mvT hZ (hw _ (List.mem_of_getElem? (i := 18) rfl))) (notFace_of_selects (args := #[]) (mvT hZ (hw _ (List.mem_of_getElem? (i := 20) rfl)))) (mvT hZ (hw _ (List.mem_of_getElem? (i := 20) rfl))) (mvT hZ (hw _ (List.mem_of_getElem? (i := 19) rfl))) (by decide) (backOf (W := 0) (rm4 l Z a0 hw [] a3 ix nn T107.heap F4) hZ (hw _ (List.mem_of_getElem? (i := 21) rfl)) (hw _ (List.mem_of_getElem? (i := 8) rfl)) (by decide) (by decide)) q108a q108c (g := (mkF m 106 #[.val (.long x0), .second, .val (.int x1), .val (.int x2), .val (.int x3), .val (.int ix), .val (.int (ix + (1 : Int32))), .val (.long ed), .second, .val (.int md), .val (.long nn), .second, .val (.ref a3), .unset, .unset, .unset, .unset, .unset, .unset] [(.int ix), (.ref a3)])) rfl (by rw [hml]; rfl) (Steps.refl _) (argsL := [(.int ix)]) (rest := []) (lenOf pd4 rfl) rfl (by show 2 * 0 + _ ≤ _; exact Nat.le_of_eq rfl) (hb hby at_106) (fun _ _ => ⟨rfl, rfl, (by decide : 1 + 0 ≤ _), (by decide : 1 + 0 ≤ _)⟩)
    dsimp only [Pt.U, Pt.locs, Pt.cells, Pt.slots] at X108 l108 y108 z108 st108 hQ108
    subst l108 y108 z108
    obtain ⟨rfl, rfl, e108⟩ := hQ108
    refine own_go (fun t k => st108.trans k) ?_
    show own_G p e below s (own_Q0 n0) 16 128 (T108.setTop (mkF m 109 #[.val (.long x0), .second, .val (.int x1), .val (.int x2), .val (.int x3), .val (.int ix), .val (.int (ix + (1 : Int32))), .val (.long ed), .second, .val (.int md), .val (.long nn), .second, .val (.ref a3), .unset, .unset, .unset, .unset, .unset, .unset] [(.long (own_re nn ix))]))
    refine own_go (fun t k => XT.lstore X108.here hx rfl (hb hby at_109) rfl (l' := #[.val (.long x0), .second, .val (.int x1), .val (.int x2), .val (.int x3), .val (.int ix), .val (.int (ix + (1 : Int32))), .val (.long ed), .second, .val (.int md), .val (.long nn), .second, .val (.ref a3), .val (.long (own_re nn ix)), .second, .unset, .unset, .unset, .unset]) rfl k) ?_
    show own_G p e below s (own_Q0 n0) 16 128 (T108.setTop (mkF m 111 #[.val (.long x0), .second, .val (.int x1), .val (.int x2), .val (.int x3), .val (.int ix), .val (.int (ix + (1 : Int32))), .val (.long ed), .second, .val (.int md), .val (.long nn), .second, .val (.ref a3), .val (.long (own_re nn ix)), .second, .unset, .unset, .unset, .unset] []))
    refine own_go (fun t k => XT.lload X108.here hx rfl (hb hby at_111) rfl k) ?_
    show own_G p e below s (own_Q0 n0) 16 128 (T108.setTop (mkF m 113 #[.val (.long x0), .second, .val (.int x1), .val (.int x2), .val (.int x3), .val (.int ix), .val (.int (ix + (1 : Int32))), .val (.long ed), .second, .val (.int md), .val (.long nn), .second, .val (.ref a3), .val (.long (own_re nn ix)), .second, .unset, .unset, .unset, .unset] [(.long nn)]))
    refine own_go (fun t k => XS.iload X108.here hx rfl (hb hby at_113) rfl k) ?_
    show own_G p e below s (own_Q0 n0) 16 128 (T108.setTop (mkF m 115 #[.val (.long x0), .second, .val (.int x1), .val (.int x2), .val (.int x3), .val (.int ix), .val (.int (ix + (1 : Int32))), .val (.long ed), .second, .val (.int md), .val (.long nn), .second, .val (.ref a3), .val (.long (own_re nn ix)), .second, .unset, .unset, .unset, .unset] [(.int (ix + (1 : Int32))), (.long nn)]))
    refine own_go (fun t k => XT.lshl X108.here hx rfl (hb hby at_115) rfl k) ?_
    show own_G p e below s (own_Q0 n0) 16 128 (T108.setTop (mkF m 116 #[.val (.long x0), .second, .val (.int x1), .val (.int x2), .val (.int x3), .val (.int ix), .val (.int (ix + (1 : Int32))), .val (.long ed), .second, .val (.int md), .val (.long nn), .second, .val (.ref a3), .val (.long (own_re nn ix)), .second, .unset, .unset, .unset, .unset] [(.long (nn <<< ((ix + (1 : Int32)).toInt64 &&& 63)))]))
    refine own_go (fun t k => XT.lstore X108.here hx rfl (hb hby at_116) rfl (l' := #[.val (.long x0), .second, .val (.int x1), .val (.int x2), .val (.int x3), .val (.int ix), .val (.int (ix + (1 : Int32))), .val (.long ed), .second, .val (.int md), .val (.long nn), .second, .val (.ref a3), .val (.long (own_re nn ix)), .second, .val (.long (nn <<< ((ix + (1 : Int32)).toInt64 &&& 63))), .second, .unset, .unset]) rfl k) ?_
    show own_G p e below s (own_Q0 n0) 16 128 (T108.setTop (mkF m 118 #[.val (.long x0), .second, .val (.int x1), .val (.int x2), .val (.int x3), .val (.int ix), .val (.int (ix + (1 : Int32))), .val (.long ed), .second, .val (.int md), .val (.long nn), .second, .val (.ref a3), .val (.long (own_re nn ix)), .second, .val (.long (nn <<< ((ix + (1 : Int32)).toInt64 &&& 63))), .second, .unset, .unset] []))
    refine own_go (fun t k => XT.lload X108.here hx rfl (hb hby at_118) rfl k) ?_
    show own_G p e below s (own_Q0 n0) 16 128 (T108.setTop (mkF m 120 #[.val (.long x0), .second, .val (.int x1), .val (.int x2), .val (.int x3), .val (.int ix), .val (.int (ix + (1 : Int32))), .val (.long ed), .second, .val (.int md), .val (.long nn), .second, .val (.ref a3), .val (.long (own_re nn ix)), .second, .val (.long (nn <<< ((ix + (1 : Int32)).toInt64 &&& 63))), .second, .unset, .unset] [(.long (nn <<< ((ix + (1 : Int32)).toInt64 &&& 63)))]))
    refine own_go (fun t k => XS.iload X108.here hx rfl (hb hby at_120) rfl k) ?_
    show own_G p e below s (own_Q0 n0) 16 128 (T108.setTop (mkF m 122 #[.val (.long x0), .second, .val (.int x1), .val (.int x2), .val (.int x3), .val (.int ix), .val (.int (ix + (1 : Int32))), .val (.long ed), .second, .val (.int md), .val (.long nn), .second, .val (.ref a3), .val (.long (own_re nn ix)), .second, .val (.long (nn <<< ((ix + (1 : Int32)).toInt64 &&& 63))), .second, .unset, .unset] [(.int (ix + (1 : Int32))), (.long (nn <<< ((ix + (1 : Int32)).toInt64 &&& 63)))]))
    refine own_go (fun t k => XT.lshr X108.here hx rfl (hb hby at_122) rfl k) ?_
    show own_G p e below s (own_Q0 n0) 16 128 (T108.setTop (mkF m 123 #[.val (.long x0), .second, .val (.int x1), .val (.int x2), .val (.int x3), .val (.int ix), .val (.int (ix + (1 : Int32))), .val (.long ed), .second, .val (.int md), .val (.long nn), .second, .val (.ref a3), .val (.long (own_re nn ix)), .second, .val (.long (nn <<< ((ix + (1 : Int32)).toInt64 &&& 63))), .second, .unset, .unset] [(.long ((nn <<< ((ix + (1 : Int32)).toInt64 &&& 63)) >>> ((ix + (1 : Int32)).toInt64 &&& 63)))]))
    refine own_go (fun t k => XT.lload X108.here hx rfl (hb hby at_123) rfl k) ?_
    show own_G p e below s (own_Q0 n0) 16 128 (T108.setTop (mkF m 125 #[.val (.long x0), .second, .val (.int x1), .val (.int x2), .val (.int x3), .val (.int ix), .val (.int (ix + (1 : Int32))), .val (.long ed), .second, .val (.int md), .val (.long nn), .second, .val (.ref a3), .val (.long (own_re nn ix)), .second, .val (.long (nn <<< ((ix + (1 : Int32)).toInt64 &&& 63))), .second, .unset, .unset] [(.long nn), (.long ((nn <<< ((ix + (1 : Int32)).toInt64 &&& 63)) >>> ((ix + (1 : Int32)).toInt64 &&& 63)))]))
    refine own_go (fun t k => XT.lcmp X108.here hx rfl (hb hby at_125) rfl k) ?_
    show own_G p e below s (own_Q0 n0) 16 128 (T108.setTop (mkF m 126 #[.val (.long x0), .second, .val (.int x1), .val (.int x2), .val (.int x3), .val (.int ix), .val (.int (ix + (1 : Int32))), .val (.long ed), .second, .val (.int md), .val (.long nn), .second, .val (.ref a3), .val (.long (own_re nn ix)), .second, .val (.long (nn <<< ((ix + (1 : Int32)).toInt64 &&& 63))), .second, .unset, .unset] [(.int (XT.cmpL ((nn <<< ((ix + (1 : Int32)).toInt64 &&& 63)) >>> ((ix + (1 : Int32)).toInt64 &&& 63)) nn))]))
    have J139 : ∀ (ex : Int64) (hex : own_re nn ix = ex), own_G p e below s (own_Q0 n0) 16 128 (T108.setTop (mkF m 139 #[.val (.long x0), .second, .val (.int x1), .val (.int x2), .val (.int x3), .val (.int ix), .val (.int (ix + (1 : Int32))), .val (.long ed), .second, .val (.int md), .val (.long nn), .second, .val (.ref a3), .val (.long (own_re nn ix)), .second, .val (.long (nn <<< ((ix + (1 : Int32)).toInt64 &&& 63))), .second, .val (.long ex), .second] [])) := by
      intro ex hex
      refine own_go (fun t k => XT.lload X108.here hx rfl (hb hby at_139) rfl k) ?_
      show own_G p e below s (own_Q0 n0) 16 128 (T108.setTop (mkF m 141 #[.val (.long x0), .second, .val (.int x1), .val (.int x2), .val (.int x3), .val (.int ix), .val (.int (ix + (1 : Int32))), .val (.long ed), .second, .val (.int md), .val (.long nn), .second, .val (.ref a3), .val (.long (own_re nn ix)), .second, .val (.long (nn <<< ((ix + (1 : Int32)).toInt64 &&& 63))), .second, .val (.long ex), .second] [(.long (own_re nn ix))]))
      refine own_go (fun t k => XT.lload X108.here hx rfl (hb hby at_141) rfl k) ?_
      show own_G p e below s (own_Q0 n0) 16 128 (T108.setTop (mkF m 143 #[.val (.long x0), .second, .val (.int x1), .val (.int x2), .val (.int x3), .val (.int ix), .val (.int (ix + (1 : Int32))), .val (.long ed), .second, .val (.int md), .val (.long nn), .second, .val (.ref a3), .val (.long (own_re nn ix)), .second, .val (.long (nn <<< ((ix + (1 : Int32)).toInt64 &&& 63))), .second, .val (.long ex), .second] [(.long ex), (.long (own_re nn ix))]))
      refine own_go (fun t k => XT.lcmp X108.here hx rfl (hb hby at_143) rfl k) ?_
      show own_G p e below s (own_Q0 n0) 16 128 (T108.setTop (mkF m 144 #[.val (.long x0), .second, .val (.int x1), .val (.int x2), .val (.int x3), .val (.int ix), .val (.int (ix + (1 : Int32))), .val (.long ed), .second, .val (.int md), .val (.long nn), .second, .val (.ref a3), .val (.long (own_re nn ix)), .second, .val (.long (nn <<< ((ix + (1 : Int32)).toInt64 &&& 63))), .second, .val (.long ex), .second] [(.int (XT.cmpL (own_re nn ix) ex))]))
      refine own_go (fun t k => XS.ifNo X108.here hx rfl (hb hby at_144) rfl (XT.ll_ne_f hex) k) ?_
      show own_G p e below s (own_Q0 n0) 16 128 (T108.setTop (mkF m 147 #[.val (.long x0), .second, .val (.int x1), .val (.int x2), .val (.int x3), .val (.int ix), .val (.int (ix + (1 : Int32))), .val (.long ed), .second, .val (.int md), .val (.long nn), .second, .val (.ref a3), .val (.long (own_re nn ix)), .second, .val (.long (nn <<< ((ix + (1 : Int32)).toInt64 &&& 63))), .second, .val (.long ex), .second] []))
      refine own_go (fun t k => XS.iconst X108.here hx rfl (hb hby at_147) k) ?_
      show own_G p e below s (own_Q0 n0) 16 128 (T108.setTop (mkF m 148 #[.val (.long x0), .second, .val (.int x1), .val (.int x2), .val (.int x3), .val (.int ix), .val (.int (ix + (1 : Int32))), .val (.long ed), .second, .val (.int md), .val (.long nn), .second, .val (.ref a3), .val (.long (own_re nn ix)), .second, .val (.long (nn <<< ((ix + (1 : Int32)).toInt64 &&& 63))), .second, .val (.long ex), .second] [(.int (1 : Int32))]))
      refine own_go (fun t k => XS.goto X108.here hx rfl (pc0 := 148) (pc' := 152) rfl (hb hby at_148) (by decide) (by decide) k) ?_
      show own_G p e below s (own_Q0 n0) 16 128 (T108.setTop (mkF m 152 #[.val (.long x0), .second, .val (.int x1), .val (.int x2), .val (.int x3), .val (.int ix), .val (.int (ix + (1 : Int32))), .val (.long ed), .second, .val (.int md), .val (.long nn), .second, .val (.ref a3), .val (.long (own_re nn ix)), .second, .val (.long (nn <<< ((ix + (1 : Int32)).toInt64 &&& 63))), .second, .val (.long ex), .second] [(.int (1 : Int32))]))
      exact own_leave X108 (some (.int (1 : Int32))) (fun h => by rw [Bd.returns] at h; cases h) Bd.notSynchronized (fun fs hr => retN X108 hx (t := .boolean) Bd.returns (by simp) (hb hby at_152) hr) ⟨rfl, (Fr.app (Fr.app (Fr.app (Fr.nil n0) (Fr.nil n0)) N4) (Fr.nil n0))⟩ (by decide) (by decide)
    by_cases h1 : ((nn <<< ((ix + (1 : Int32)).toInt64 &&& 63)) >>> ((ix + (1 : Int32)).toInt64 &&& 63)) = nn
    · skip
      refine own_go (fun t k => XS.ifNo X108.here hx rfl (hb hby at_126) rfl (XT.ll_ne_f h1) k) ?_
      show own_G p e below s (own_Q0 n0) 16 128 (T108.setTop (mkF m 129 #[.val (.long x0), .second, .val (.int x1), .val (.int x2), .val (.int x3), .val (.int ix), .val (.int (ix + (1 : Int32))), .val (.long ed), .second, .val (.int md), .val (.long nn), .second, .val (.ref a3), .val (.long (own_re nn ix)), .second, .val (.long (nn <<< ((ix + (1 : Int32)).toInt64 &&& 63))), .second, .unset, .unset] []))
      refine own_go (fun t k => XT.lload X108.here hx rfl (hb hby at_129) rfl k) ?_
      show own_G p e below s (own_Q0 n0) 16 128 (T108.setTop (mkF m 131 #[.val (.long x0), .second, .val (.int x1), .val (.int x2), .val (.int x3), .val (.int ix), .val (.int (ix + (1 : Int32))), .val (.long ed), .second, .val (.int md), .val (.long nn), .second, .val (.ref a3), .val (.long (own_re nn ix)), .second, .val (.long (nn <<< ((ix + (1 : Int32)).toInt64 &&& 63))), .second, .unset, .unset] [(.long (nn <<< ((ix + (1 : Int32)).toInt64 &&& 63)))]))
      refine own_go (fun t k => XS.goto X108.here hx rfl (pc0 := 131) (pc' := 137) rfl (hb hby at_131) (by decide) (by decide) k) ?_
      show own_G p e below s (own_Q0 n0) 16 128 (T108.setTop (mkF m 137 #[.val (.long x0), .second, .val (.int x1), .val (.int x2), .val (.int x3), .val (.int ix), .val (.int (ix + (1 : Int32))), .val (.long ed), .second, .val (.int md), .val (.long nn), .second, .val (.ref a3), .val (.long (own_re nn ix)), .second, .val (.long (nn <<< ((ix + (1 : Int32)).toInt64 &&& 63))), .second, .unset, .unset] [(.long (nn <<< ((ix + (1 : Int32)).toInt64 &&& 63)))]))
      refine own_go (fun t k => XT.lstore X108.here hx rfl (hb hby at_137) rfl (l' := #[.val (.long x0), .second, .val (.int x1), .val (.int x2), .val (.int x3), .val (.int ix), .val (.int (ix + (1 : Int32))), .val (.long ed), .second, .val (.int md), .val (.long nn), .second, .val (.ref a3), .val (.long (own_re nn ix)), .second, .val (.long (nn <<< ((ix + (1 : Int32)).toInt64 &&& 63))), .second, .val (.long (nn <<< ((ix + (1 : Int32)).toInt64 &&& 63))), .second]) rfl k) ?_
      show own_G p e below s (own_Q0 n0) 16 128 (T108.setTop (mkF m 139 #[.val (.long x0), .second, .val (.int x1), .val (.int x2), .val (.int x3), .val (.int ix), .val (.int (ix + (1 : Int32))), .val (.long ed), .second, .val (.int md), .val (.long nn), .second, .val (.ref a3), .val (.long (own_re nn ix)), .second, .val (.long (nn <<< ((ix + (1 : Int32)).toInt64 &&& 63))), .second, .val (.long (nn <<< ((ix + (1 : Int32)).toInt64 &&& 63))), .second] []))
      exact J139 _ (if_neg (own_back hk2 hk3 hn h1))
    · skip
      refine own_go (fun t k => XS.ifYes X108.here hx rfl (pc0 := 126) (pc' := 134) rfl (hb hby at_126) rfl (XT.ll_ne_t h1) (by decide) (by decide) k) ?_
      show own_G p e below s (own_Q0 n0) 16 128 (T108.setTop (mkF m 134 #[.val (.long x0), .second, .val (.int x1), .val (.int x2), .val (.int x3), .val (.int ix), .val (.int (ix + (1 : Int32))), .val (.long ed), .second, .val (.int md), .val (.long nn), .second, .val (.ref a3), .val (.long (own_re nn ix)), .second, .val (.long (nn <<< ((ix + (1 : Int32)).toInt64 &&& 63))), .second, .unset, .unset] []))
      refine own_go (X108.ldc2Long hx hown (mvT hZ (hw _ (List.mem_of_getElem? (i := 1) rfl))) (g := (mkF m 134 #[.val (.long x0), .second, .val (.int x1), .val (.int x2), .val (.int x3), .val (.int ix), .val (.int (ix + (1 : Int32))), .val (.long ed), .second, .val (.int md), .val (.long nn), .second, .val (.ref a3), .val (.long (own_re nn ix)), .second, .val (.long (nn <<< ((ix + (1 : Int32)).toInt64 &&& 63))), .second, .unset, .unset] [])) rfl (hb hby at_134)) ?_
      show own_G p e below s (own_Q0 n0) 16 128 (T108.setTop (mkF m 137 #[.val (.long x0), .second, .val (.int x1), .val (.int x2), .val (.int x3), .val (.int ix), .val (.int (ix + (1 : Int32))), .val (.long ed), .second, .val (.int md), .val (.long nn), .second, .val (.ref a3), .val (.long (own_re nn ix)), .second, .val (.long (nn <<< ((ix + (1 : Int32)).toInt64 &&& 63))), .second, .unset, .unset] [(.long (9223372036854775807 : Int64))]))
      refine own_go (fun t k => XT.lstore X108.here hx rfl (hb hby at_137) rfl (l' := #[.val (.long x0), .second, .val (.int x1), .val (.int x2), .val (.int x3), .val (.int ix), .val (.int (ix + (1 : Int32))), .val (.long ed), .second, .val (.int md), .val (.long nn), .second, .val (.ref a3), .val (.long (own_re nn ix)), .second, .val (.long (nn <<< ((ix + (1 : Int32)).toInt64 &&& 63))), .second, .val (.long (9223372036854775807 : Int64)), .second]) rfl k) ?_
      show own_G p e below s (own_Q0 n0) 16 128 (T108.setTop (mkF m 139 #[.val (.long x0), .second, .val (.int x1), .val (.int x2), .val (.int x3), .val (.int ix), .val (.int (ix + (1 : Int32))), .val (.long ed), .second, .val (.int md), .val (.long nn), .second, .val (.ref a3), .val (.long (own_re nn ix)), .second, .val (.long (nn <<< ((ix + (1 : Int32)).toInt64 &&& 63))), .second, .val (.long (9223372036854775807 : Int64)), .second] []))
      exact J139 _ (if_pos (own_wrap hk2 hk3 hn h1))
  refine own_go (fun t k => XS.iload X0.here hx rfl (hb hby at_29) rfl k) ?_
  show own_G p e below s (own_Q0 n0) 16 128 (s₁.setTop (mkF m 31 #[.val (.long x0), .second, .val (.int x1), .val (.int x2), .val (.int x3), .val (.int ix), .val (.int (ix + (1 : Int32))), .val (.long ed), .second, .val (.int md), .unset, .unset, .unset, .unset, .unset, .unset, .unset, .unset, .unset] [(.int md)]))
  by_cases h1 : md = (0 : Int32)
  · skip
    refine own_go (fun t k => XS.ifNo X0.here hx rfl (hb hby at_31) rfl (XT.i0_ne_f h1) k) ?_
    show own_G p e below s (own_Q0 n0) 16 128 (s₁.setTop (mkF m 34 #[.val (.long x0), .second, .val (.int x1), .val (.int x2), .val (.int x3), .val (.int ix), .val (.int (ix + (1 : Int32))), .val (.long ed), .second, .val (.int md), .unset, .unset, .unset, .unset, .unset, .unset, .unset, .unset, .unset] []))
    refine own_go (fun t k => XT.lloadN X0.here hx rfl (hb hby at_34) rfl k) ?_
    show own_G p e below s (own_Q0 n0) 16 128 (s₁.setTop (mkF m 35 #[.val (.long x0), .second, .val (.int x1), .val (.int x2), .val (.int x3), .val (.int ix), .val (.int (ix + (1 : Int32))), .val (.long ed), .second, .val (.int md), .unset, .unset, .unset, .unset, .unset, .unset, .unset, .unset, .unset] [(.long x0)]))
    refine own_go (X0.ldc2Long hx hown (mvT hZ (hw _ (List.mem_of_getElem? (i := 1) rfl))) (g := (mkF m 35 #[.val (.long x0), .second, .val (.int x1), .val (.int x2), .val (.int x3), .val (.int ix), .val (.int (ix + (1 : Int32))), .val (.long ed), .second, .val (.int md), .unset, .unset, .unset, .unset, .unset, .unset, .unset, .unset, .unset] [(.long x0)])) rfl (hb hby at_35)) ?_
    show own_G p e below s (own_Q0 n0) 16 128 (s₁.setTop (mkF m 38 #[.val (.long x0), .second, .val (.int x1), .val (.int x2), .val (.int x3), .val (.int ix), .val (.int (ix + (1 : Int32))), .val (.long ed), .second, .val (.int md), .unset, .unset, .unset, .unset, .unset, .unset, .unset, .unset, .unset] [(.long (9223372036854775807 : Int64)), (.long x0)]))
    refine own_go (fun t k => XT.land X0.here hx rfl (hb hby at_38) rfl k) ?_
    show own_G p e below s (own_Q0 n0) 16 128 (s₁.setTop (mkF m 39 #[.val (.long x0), .second, .val (.int x1), .val (.int x2), .val (.int x3), .val (.int ix), .val (.int (ix + (1 : Int32))), .val (.long ed), .second, .val (.int md), .unset, .unset, .unset, .unset, .unset, .unset, .unset, .unset, .unset] [(.long (x0 &&& (9223372036854775807 : Int64)))]))
    refine own_go (fun t k => XS.iloadN X0.here hx rfl (hb hby at_39) rfl k) ?_
    show own_G p e below s (own_Q0 n0) 16 128 (s₁.setTop (mkF m 40 #[.val (.long x0), .second, .val (.int x1), .val (.int x2), .val (.int x3), .val (.int ix), .val (.int (ix + (1 : Int32))), .val (.long ed), .second, .val (.int md), .unset, .unset, .unset, .unset, .unset, .unset, .unset, .unset, .unset] [(.int x1), (.long (x0 &&& (9223372036854775807 : Int64)))]))
    refine own_go (fun t k => XS.bipush X0.here hx rfl (hb hby at_40) k) ?_
    show own_G p e below s (own_Q0 n0) 16 128 (s₁.setTop (mkF m 42 #[.val (.long x0), .second, .val (.int x1), .val (.int x2), .val (.int x3), .val (.int ix), .val (.int (ix + (1 : Int32))), .val (.long ed), .second, .val (.int md), .unset, .unset, .unset, .unset, .unset, .unset, .unset, .unset, .unset] [(.int (63 : Int32)), (.int x1), (.long (x0 &&& (9223372036854775807 : Int64)))]))
    refine own_go (fun t k => XS.iand X0.here hx rfl (hb hby at_42) rfl k) ?_
    show own_G p e below s (own_Q0 n0) 16 128 (s₁.setTop (mkF m 43 #[.val (.long x0), .second, .val (.int x1), .val (.int x2), .val (.int x3), .val (.int ix), .val (.int (ix + (1 : Int32))), .val (.long ed), .second, .val (.int md), .unset, .unset, .unset, .unset, .unset, .unset, .unset, .unset, .unset] [(.int (x1 &&& (63 : Int32))), (.long (x0 &&& (9223372036854775807 : Int64)))]))
    refine own_go (fun t k => XT.lushr X0.here hx rfl (hb hby at_43) rfl k) ?_
    show own_G p e below s (own_Q0 n0) 16 128 (s₁.setTop (mkF m 44 #[.val (.long x0), .second, .val (.int x1), .val (.int x2), .val (.int x3), .val (.int ix), .val (.int (ix + (1 : Int32))), .val (.long ed), .second, .val (.int md), .unset, .unset, .unset, .unset, .unset, .unset, .unset, .unset, .unset] [(.long (XT.ushrL (x0 &&& (9223372036854775807 : Int64)) (x1 &&& (63 : Int32))))]))
    refine own_go (fun t k => XT.lstore X0.here hx rfl (hb hby at_44) rfl (l' := #[.val (.long x0), .second, .val (.int x1), .val (.int x2), .val (.int x3), .val (.int ix), .val (.int (ix + (1 : Int32))), .val (.long ed), .second, .val (.int md), .val (.long (XT.ushrL (x0 &&& (9223372036854775807 : Int64)) (x1 &&& (63 : Int32)))), .second, .unset, .unset, .unset, .unset, .unset, .unset, .unset]) rfl k) ?_
    show own_G p e below s (own_Q0 n0) 16 128 (s₁.setTop (mkF m 46 #[.val (.long x0), .second, .val (.int x1), .val (.int x2), .val (.int x3), .val (.int ix), .val (.int (ix + (1 : Int32))), .val (.long ed), .second, .val (.int md), .val (.long (XT.ushrL (x0 &&& (9223372036854775807 : Int64)) (x1 &&& (63 : Int32)))), .second, .unset, .unset, .unset, .unset, .unset, .unset, .unset] []))
    refine own_go (fun t k => XS.goto X0.here hx rfl (pc0 := 46) (pc' := 83) rfl (hb hby at_46) (by decide) (by decide) k) ?_
    show own_G p e below s (own_Q0 n0) 16 128 (s₁.setTop (mkF m 83 #[.val (.long x0), .second, .val (.int x1), .val (.int x2), .val (.int x3), .val (.int ix), .val (.int (ix + (1 : Int32))), .val (.long ed), .second, .val (.int md), .val (.long (XT.ushrL (x0 &&& (9223372036854775807 : Int64)) (x1 &&& (63 : Int32)))), .second, .unset, .unset, .unset, .unset, .unset, .unset, .unset] []))
    exact J83 _
  · skip
    refine own_go (fun t k => XS.ifYes X0.here hx rfl (pc0 := 31) (pc' := 49) rfl (hb hby at_31) rfl (XT.i0_ne_t h1) (by decide) (by decide) k) ?_
    show own_G p e below s (own_Q0 n0) 16 128 (s₁.setTop (mkF m 49 #[.val (.long x0), .second, .val (.int x1), .val (.int x2), .val (.int x3), .val (.int ix), .val (.int (ix + (1 : Int32))), .val (.long ed), .second, .val (.int md), .unset, .unset, .unset, .unset, .unset, .unset, .unset, .unset, .unset] []))
    refine own_go (fun t k => XS.iload X0.here hx rfl (hb hby at_49) rfl k) ?_
    show own_G p e below s (own_Q0 n0) 16 128 (s₁.setTop (mkF m 51 #[.val (.long x0), .second, .val (.int x1), .val (.int x2), .val (.int x3), .val (.int ix), .val (.int (ix + (1 : Int32))), .val (.long ed), .second, .val (.int md), .unset, .unset, .unset, .unset, .unset, .unset, .unset, .unset, .unset] [(.int md)]))
    refine own_go (fun t k => XS.iconst X0.here hx rfl (hb hby at_51) k) ?_
    show own_G p e below s (own_Q0 n0) 16 128 (s₁.setTop (mkF m 52 #[.val (.long x0), .second, .val (.int x1), .val (.int x2), .val (.int x3), .val (.int ix), .val (.int (ix + (1 : Int32))), .val (.long ed), .second, .val (.int md), .unset, .unset, .unset, .unset, .unset, .unset, .unset, .unset, .unset] [(.int (1 : Int32)), (.int md)]))
    by_cases h2 : md = (1 : Int32)
    · skip
      refine own_go (fun t k => XS.icmpNo X0.here hx rfl (hb hby at_52) rfl (XT.ii_ne_f h2) k) ?_
      show own_G p e below s (own_Q0 n0) 16 128 (s₁.setTop (mkF m 55 #[.val (.long x0), .second, .val (.int x1), .val (.int x2), .val (.int x3), .val (.int ix), .val (.int (ix + (1 : Int32))), .val (.long ed), .second, .val (.int md), .unset, .unset, .unset, .unset, .unset, .unset, .unset, .unset, .unset] []))
      refine own_go (fun t k => XT.lload X0.here hx rfl (hb hby at_55) rfl k) ?_
      show own_G p e below s (own_Q0 n0) 16 128 (s₁.setTop (mkF m 57 #[.val (.long x0), .second, .val (.int x1), .val (.int x2), .val (.int x3), .val (.int ix), .val (.int (ix + (1 : Int32))), .val (.long ed), .second, .val (.int md), .unset, .unset, .unset, .unset, .unset, .unset, .unset, .unset, .unset] [(.long ed)]))
      refine own_go (fun t k => XT.lconst X0.here hx rfl (hb hby at_57) k) ?_
      show own_G p e below s (own_Q0 n0) 16 128 (s₁.setTop (mkF m 58 #[.val (.long x0), .second, .val (.int x1), .val (.int x2), .val (.int x3), .val (.int ix), .val (.int (ix + (1 : Int32))), .val (.long ed), .second, .val (.int md), .unset, .unset, .unset, .unset, .unset, .unset, .unset, .unset, .unset] [(.long (1 : Int64)), (.long ed)]))
      refine own_go (fun t k => XT.lsub X0.here hx rfl (hb hby at_58) rfl k) ?_
      show own_G p e below s (own_Q0 n0) 16 128 (s₁.setTop (mkF m 59 #[.val (.long x0), .second, .val (.int x1), .val (.int x2), .val (.int x3), .val (.int ix), .val (.int (ix + (1 : Int32))), .val (.long ed), .second, .val (.int md), .unset, .unset, .unset, .unset, .unset, .unset, .unset, .unset, .unset] [(.long (ed - (1 : Int64)))]))
      refine own_go (fun t k => XT.lstore X0.here hx rfl (hb hby at_59) rfl (l' := #[.val (.long x0), .second, .val (.int x1), .val (.int x2), .val (.int x3), .val (.int ix), .val (.int (ix + (1 : Int32))), .val (.long ed), .second, .val (.int md), .val (.long (ed - (1 : Int64))), .second, .unset, .unset, .unset, .unset, .unset, .unset, .unset]) rfl k) ?_
      show own_G p e below s (own_Q0 n0) 16 128 (s₁.setTop (mkF m 61 #[.val (.long x0), .second, .val (.int x1), .val (.int x2), .val (.int x3), .val (.int ix), .val (.int (ix + (1 : Int32))), .val (.long ed), .second, .val (.int md), .val (.long (ed - (1 : Int64))), .second, .unset, .unset, .unset, .unset, .unset, .unset, .unset] []))
      refine own_go (fun t k => XS.goto X0.here hx rfl (pc0 := 61) (pc' := 83) rfl (hb hby at_61) (by decide) (by decide) k) ?_
      show own_G p e below s (own_Q0 n0) 16 128 (s₁.setTop (mkF m 83 #[.val (.long x0), .second, .val (.int x1), .val (.int x2), .val (.int x3), .val (.int ix), .val (.int (ix + (1 : Int32))), .val (.long ed), .second, .val (.int md), .val (.long (ed - (1 : Int64))), .second, .unset, .unset, .unset, .unset, .unset, .unset, .unset] []))
      exact J83 _
    · skip
      refine own_go (fun t k => XS.icmpYes X0.here hx rfl (pc0 := 52) (pc' := 64) rfl (hb hby at_52) rfl (XT.ii_ne_t h2) (by decide) (by decide) k) ?_
      show own_G p e below s (own_Q0 n0) 16 128 (s₁.setTop (mkF m 64 #[.val (.long x0), .second, .val (.int x1), .val (.int x2), .val (.int x3), .val (.int ix), .val (.int (ix + (1 : Int32))), .val (.long ed), .second, .val (.int md), .unset, .unset, .unset, .unset, .unset, .unset, .unset, .unset, .unset] []))
      refine own_go (fun t k => XS.iload X0.here hx rfl (hb hby at_64) rfl k) ?_
      show own_G p e below s (own_Q0 n0) 16 128 (s₁.setTop (mkF m 66 #[.val (.long x0), .second, .val (.int x1), .val (.int x2), .val (.int x3), .val (.int ix), .val (.int (ix + (1 : Int32))), .val (.long ed), .second, .val (.int md), .unset, .unset, .unset, .unset, .unset, .unset, .unset, .unset, .unset] [(.int md)]))
      refine own_go (fun t k => XS.iconst X0.here hx rfl (hb hby at_66) k) ?_
      show own_G p e below s (own_Q0 n0) 16 128 (s₁.setTop (mkF m 67 #[.val (.long x0), .second, .val (.int x1), .val (.int x2), .val (.int x3), .val (.int ix), .val (.int (ix + (1 : Int32))), .val (.long ed), .second, .val (.int md), .unset, .unset, .unset, .unset, .unset, .unset, .unset, .unset, .unset] [(.int (2 : Int32)), (.int md)]))
      by_cases h3 : md = (2 : Int32)
      · skip
        refine own_go (fun t k => XS.icmpNo X0.here hx rfl (hb hby at_67) rfl (XT.ii_ne_f h3) k) ?_
        show own_G p e below s (own_Q0 n0) 16 128 (s₁.setTop (mkF m 70 #[.val (.long x0), .second, .val (.int x1), .val (.int x2), .val (.int x3), .val (.int ix), .val (.int (ix + (1 : Int32))), .val (.long ed), .second, .val (.int md), .unset, .unset, .unset, .unset, .unset, .unset, .unset, .unset, .unset] []))
        refine own_go (fun t k => XT.lload X0.here hx rfl (hb hby at_70) rfl k) ?_
        show own_G p e below s (own_Q0 n0) 16 128 (s₁.setTop (mkF m 72 #[.val (.long x0), .second, .val (.int x1), .val (.int x2), .val (.int x3), .val (.int ix), .val (.int (ix + (1 : Int32))), .val (.long ed), .second, .val (.int md), .unset, .unset, .unset, .unset, .unset, .unset, .unset, .unset, .unset] [(.long ed)]))
        refine own_go (fun t k => XT.lstore X0.here hx rfl (hb hby at_72) rfl (l' := #[.val (.long x0), .second, .val (.int x1), .val (.int x2), .val (.int x3), .val (.int ix), .val (.int (ix + (1 : Int32))), .val (.long ed), .second, .val (.int md), .val (.long ed), .second, .unset, .unset, .unset, .unset, .unset, .unset, .unset]) rfl k) ?_
        show own_G p e below s (own_Q0 n0) 16 128 (s₁.setTop (mkF m 74 #[.val (.long x0), .second, .val (.int x1), .val (.int x2), .val (.int x3), .val (.int ix), .val (.int (ix + (1 : Int32))), .val (.long ed), .second, .val (.int md), .val (.long ed), .second, .unset, .unset, .unset, .unset, .unset, .unset, .unset] []))
        refine own_go (fun t k => XS.goto X0.here hx rfl (pc0 := 74) (pc' := 83) rfl (hb hby at_74) (by decide) (by decide) k) ?_
        show own_G p e below s (own_Q0 n0) 16 128 (s₁.setTop (mkF m 83 #[.val (.long x0), .second, .val (.int x1), .val (.int x2), .val (.int x3), .val (.int ix), .val (.int (ix + (1 : Int32))), .val (.long ed), .second, .val (.int md), .val (.long ed), .second, .unset, .unset, .unset, .unset, .unset, .unset, .unset] []))
        exact J83 _
      · skip
        refine own_go (fun t k => XS.icmpYes X0.here hx rfl (pc0 := 67) (pc' := 77) rfl (hb hby at_67) rfl (XT.ii_ne_t h3) (by decide) (by decide) k) ?_
        show own_G p e below s (own_Q0 n0) 16 128 (s₁.setTop (mkF m 77 #[.val (.long x0), .second, .val (.int x1), .val (.int x2), .val (.int x3), .val (.int ix), .val (.int (ix + (1 : Int32))), .val (.long ed), .second, .val (.int md), .unset, .unset, .unset, .unset, .unset, .unset, .unset, .unset, .unset] []))
        refine own_go (fun t k => XT.lload X0.here hx rfl (hb hby at_77) rfl k) ?_
        show own_G p e below s (own_Q0 n0) 16 128 (s₁.setTop (mkF m 79 #[.val (.long x0), .second, .val (.int x1), .val (.int x2), .val (.int x3), .val (.int ix), .val (.int (ix + (1 : Int32))), .val (.long ed), .second, .val (.int md), .unset, .unset, .unset, .unset, .unset, .unset, .unset, .unset, .unset] [(.long ed)]))
        refine own_go (fun t k => XT.lconst X0.here hx rfl (hb hby at_79) k) ?_
        show own_G p e below s (own_Q0 n0) 16 128 (s₁.setTop (mkF m 80 #[.val (.long x0), .second, .val (.int x1), .val (.int x2), .val (.int x3), .val (.int ix), .val (.int (ix + (1 : Int32))), .val (.long ed), .second, .val (.int md), .unset, .unset, .unset, .unset, .unset, .unset, .unset, .unset, .unset] [(.long (1 : Int64)), (.long ed)]))
        refine own_go (fun t k => XT.ladd X0.here hx rfl (hb hby at_80) rfl k) ?_
        show own_G p e below s (own_Q0 n0) 16 128 (s₁.setTop (mkF m 81 #[.val (.long x0), .second, .val (.int x1), .val (.int x2), .val (.int x3), .val (.int ix), .val (.int (ix + (1 : Int32))), .val (.long ed), .second, .val (.int md), .unset, .unset, .unset, .unset, .unset, .unset, .unset, .unset, .unset] [(.long (ed + (1 : Int64)))]))
        refine own_go (fun t k => XT.lstore X0.here hx rfl (hb hby at_81) rfl (l' := #[.val (.long x0), .second, .val (.int x1), .val (.int x2), .val (.int x3), .val (.int ix), .val (.int (ix + (1 : Int32))), .val (.long ed), .second, .val (.int md), .val (.long (ed + (1 : Int64))), .second, .unset, .unset, .unset, .unset, .unset, .unset, .unset]) rfl k) ?_
        show own_G p e below s (own_Q0 n0) 16 128 (s₁.setTop (mkF m 83 #[.val (.long x0), .second, .val (.int x1), .val (.int x2), .val (.int x3), .val (.int ix), .val (.int (ix + (1 : Int32))), .val (.long ed), .second, .val (.int md), .val (.long (ed + (1 : Int64))), .second, .unset, .unset, .unset, .unset, .unset, .unset, .unset] []))
        exact J83 _
set_option maxRecDepth 65536 in
set_option maxHeartbeats 40000000 in
theorem comes_1 {Post : Tables → Env → Array Value → State → Outcome → State → Prop} (hpost : ∀ tb e args s v u, (limb_1_1.after args s (.returned v) u = true ∧ limb_1_2.after args s (.returned v) u = true ∧ True) → FrameEnd s (.returned v) u (Jvm.fieldLocs frame_1_writes args s ++ Jvm.arrayLocs frame_1_arrays args s ++ Jvm.staticLocs frame_1_statics s) 16 128 → Post tb e args s (.returned v) u) :
    ArmFor flags0 classFile x code maxLocals ret World_1 tables_1 room_1 Calls_1 rest_1 Pre_1 Post := by
  intro l hfl _ _ p e ha hc hk s m args below hf hA hF happ hP
  obtain ⟨hcalls, hrest, hpre⟩ := hP
  obtain ⟨-, -, -, hnamed, -, -, -, hat⟩ := (Spec.applies_iff hf).mp happ
  obtain ⟨hg, hn⟩ := and_e (Cond.before_iff.mp (show (Jvm.Cond.and given_1 narrow_1).before args s = true from hpre))
  obtain ⟨h1, r0⟩ := and_e hg
  obtain ⟨k0, r1⟩ := and_e r0
  obtain ⟨k1, r2⟩ := and_e r1
  obtain ⟨k2, r3⟩ := and_e r2
  obtain ⟨w0, w1, w2, w3, rfl⟩ : ∃ w0 w1 w2 w3 : Value, args = #[w0, w1, w2, w3] := by
    have hs : args.size = 4 := by simpa [Cond.value, given_1] using h1
    obtain ⟨L⟩ := args
    match L, hs with
    | [w0, w1, w2, w3], _ => exact ⟨w0, w1, w2, w3, rfl⟩
  have hw := fun d (hd : d ∈ tables_1) => atoms_spec (ws := Jvm.Cond.code x code maxLocals ret :: tables_1) hat d (List.mem_cons_of_mem _ hd)
  obtain ⟨i0, e0⟩ := isL_v k0
  obtain rfl : w0 = (.long i0) := Option.some.inj e0
  obtain ⟨i1, e1⟩ := is_v k1
  obtain rfl : w1 = (.int i1) := Option.some.inj e1
  obtain ⟨i2, e2⟩ := is_v k2
  obtain rfl : w2 = (.int i2) := Option.some.inj e2
  obtain ⟨i3, e3⟩ := is_v r3
  obtain rfl : w3 = (.int i3) := Option.some.inj e3
  obtain ⟨n, o, h1, h2, h3, _, L, rfl, ⟨rfl, N⟩, hq⟩ := rm0 l s _ hw tables_1 i0 i1 i2 i3 s.heap s.heap.size (Nat.le_refl _)  p e ha hc hk s m _ below hf ((Spec.applies_iff_loose hf).mp happ).1 ⟨rfl, State.Warmed39.refl s, rfl⟩ trivial
  refine ⟨n, _, h1, h2, h3, hpost _ _ _ _ _ _ ⟨Cond.after_iff.mpr rfl, Cond.after_iff.mpr (eq_i res_at (Term.int_eval (1)) rfl), trivial⟩ ⟨hq.1, hq.2.1, (hq.2.2.sift fun y hy => Or.inr (N y hy)).mono (by decide) (by decide)⟩⟩
theorem main_1_1 : Claimed_1_1 := comes_1 fun _ _ _ _ _ _ h hF => ⟨h.1, hF⟩
theorem main_1_2 : Claimed_1_2 := comes_1 fun _ _ _ _ _ _ h hF => ⟨h.2.1, hF⟩
end Jvm.Pilot.@@N@@
namespace Jvm.Pilot.@@N@@
open Jvm Jvm.ClassFile Sem Op Lib Jvm.Free Jvm.Stand Jvm.Pilot.@@N@@.Jvm.D
/-! MADE BY PROGRAM (witnessworld.py) out of the Statement's table words and the real class files: 10 classes; the members and pool entries that the words name. The judged class is class 1, her method 1. -/
namespace start1
open Jvm.ClassFile
def u (s : String) : CpInfo := .utf8 (stringToUtf16 s)
/-- a pool by its gaps: so many unusable entries, then the entry; so many at the end -/
def gap : Nat → List CpInfo → List CpInfo
  | 0, r => r
  | n + 1, r => .unusable :: gap n r
def poolList (es : List (Nat × CpInfo)) (last : Nat) : List CpInfo := es.foldr (fun e r => gap e.1 (e.2 :: r)) (gap last [])
def pool (es : List (Nat × CpInfo)) (last : Nat) : Array CpInfo := ⟨poolList es last⟩
def fileOf (pool : Array CpInfo) (this : Nat) (attrs : Array Attribute := #[]) (ms : Array MethodInfo := #[]) (fl : Nat := 33) (sup : Nat := 0) (ifs : Array Nat := #[]) (fds : Array FieldInfo := #[]) : ClassFile where
  minorVersion := 0
  majorVersion := 65
  constantPool := pool
  accessFlags := fl
  thisClass := this
  superClass := sup
  interfaces := ifs
  fields := fds
  methods := ms
  attributes := attrs
def plain (name : String) (sup : Option ClassId) : Class where
  name := name
  kind := .ordinary
  loader := none
  accessFlags := 33
  super := sup
  interfaces := #[]
  cf := none
  fields := #[]
  methods := #[]
  instanceTypes := #[]
  staticTypes := #[]
  resolved := #[]
  callSites := []
  init := .initialized
  statics := none
  mirror := none

def pool0 : Array CpInfo := pool [(5, u "<init>"), (0, u "()V"), (1, .class_ 10), (1, u "java/lang/Object")] 113

def k0c0 : Code := { maxStack := 0, maxLocals := 1, code := object_method_1_code, exceptionTable := #[], attributes := #[] }
def k0m0 : Method := { name := "<init>", desc := "()V", sig := { parameters := [], returnType := none }, accessFlags := 1, code := some k0c0 }
/-- java/lang/Object -/
def k0 : Class := { plain "java/lang/Object" none with
  accessFlags := 33
  interfaces := #[]
  cf := some (fileOf pool0 8 #[] #[{ accessFlags := 1, nameIndex := 5, descriptorIndex := 6, attributes := #[] }] 33 0 #[] #[])
  fields := #[]
  methods := #[k0m0]
  instanceTypes := #[]
  staticTypes := #[]
  resolved := Array.replicate 124 none
  statics := none }

def pool1 : Array CpInfo := pool [(2, .class_ 4), (1, u "java/lang/Object"), (0, u "<init>"), (0, u "()V"), (0, .integer 2147483647), (2, .long 9223372036854775807), (1, .methodref 13 14), (0, .class_ 15), (0, .nameAndType 16 17), (0, u "java/lang/Math"), (0, u "max"), (0, u "(JJ)J"), (0, .class_ 19), (0, u "com/example/abridge/abridge/relative/LevelLayout"), (0, .methodref 18 21), (0, .nameAndType 5 22), (0, u "(J)V"), (0, .methodref 18 24), (0, .nameAndType 25 26), (0, u "rangeEnd"), (0, u "(I)J"), (0, .class_ 28), (0, u "com/example/abridge/abridge/relative/LevelLayoutRangeEndPinLaw"), (2, u "law"), (0, u "(JIII)Z")] 3

def k1m0 : Method := { name := "<init>", desc := "()V", sig := { parameters := [], returnType := none }, accessFlags := 1, code := none }
def k1c1 : Code := { maxStack := 4, maxLocals := 19, code := code, exceptionTable := #[], attributes := #[] }
def k1m1 : Method := { name := "law", desc := "(JIII)Z", sig := { parameters := [.long, .int, .int, .int], returnType := some .boolean }, accessFlags := 9, code := some k1c1 }
/-- com/example/abridge/abridge/relative/LevelLayoutRangeEndPinLaw -/
def k1 : Class := { plain "com/example/abridge/abridge/relative/LevelLayoutRangeEndPinLaw" (some 0) with
  accessFlags := 49
  interfaces := #[]
  cf := some (fileOf pool1 27 #[] #[{ accessFlags := 1, nameIndex := 5, descriptorIndex := 6, attributes := #[] }, { accessFlags := 9, nameIndex := 31, descriptorIndex := 32, attributes := #[] }] 49 2 #[] #[])
  fields := #[]
  methods := #[k1m0, k1m1]
  instanceTypes := #[]
  staticTypes := #[]
  resolved := Array.replicate 36 none
  statics := none }

def pool2 : Array CpInfo := pool [(1, .class_ 2), (0, u "java/lang/Math"), (1, .class_ 6), (1, u "java/lang/Object"), (0, u "<init>"), (0, u "()V"), (89, .class_ 100), (1, u "java/lang/Math$RandomNumberGeneratorHolder"), (20, u "(JJ)J"), (50, u "negativeZeroFloatBits"), (0, u "J"), (2, u "negativeZeroDoubleBits"), (21, u "max"), (46, u "$assertionsDisabled"), (0, u "Z"), (91, u "twoToTheDoubleScaleDown"), (0, u "D"), (4, u "twoToTheDoubleScaleUp"), (9, u "E"), (3, u "PI"), (2, u "TAU"), (2, u "DEGREES_TO_RADIANS"), (0, u "RADIANS_TO_DEGREES")] 94

def k2m0 : Method := { name := "<init>", desc := "()V", sig := { parameters := [], returnType := none }, accessFlags := 2, code := none }
def k2c1 : Code := { maxStack := 4, maxLocals := 4, code := jdk_29_method_66_code, exceptionTable := #[], attributes := #[] }
def k2m1 : Method := { name := "max", desc := "(JJ)J", sig := { parameters := [.long, .long], returnType := some .long }, accessFlags := 9, code := some k2c1 }
/-- java/lang/Math -/
def k2 : Class := { plain "java/lang/Math" (some 0) with
  accessFlags := 49
  interfaces := #[]
  cf := some (fileOf pool2 1 #[.nestMembers #[98]] #[{ accessFlags := 2, nameIndex := 7, descriptorIndex := 8, attributes := #[] }, { accessFlags := 9, nameIndex := 198, descriptorIndex := 121, attributes := #[] }] 49 4 #[] #[{ accessFlags := 25, nameIndex := 354, descriptorIndex := 339, attributes := #[] }, { accessFlags := 25, nameIndex := 358, descriptorIndex := 339, attributes := #[] }, { accessFlags := 25, nameIndex := 361, descriptorIndex := 339, attributes := #[] }, { accessFlags := 26, nameIndex := 364, descriptorIndex := 339, attributes := #[] }, { accessFlags := 26, nameIndex := 365, descriptorIndex := 339, attributes := #[] }, { accessFlags := 26, nameIndex := 172, descriptorIndex := 173, attributes := #[] }, { accessFlags := 26, nameIndex := 176, descriptorIndex := 173, attributes := #[] }, { accessFlags := 8, nameIndex := 344, descriptorIndex := 339, attributes := #[] }, { accessFlags := 8, nameIndex := 338, descriptorIndex := 339, attributes := #[] }, { accessFlags := 4120, nameIndex := 245, descriptorIndex := 246, attributes := #[] }])
  fields := #[{ name := "E", type := .double, accessFlags := 25, slot := 0, constantValue := 0 }, { name := "PI", type := .double, accessFlags := 25, slot := 1, constantValue := 0 }, { name := "TAU", type := .double, accessFlags := 25, slot := 2, constantValue := 0 }, { name := "DEGREES_TO_RADIANS", type := .double, accessFlags := 26, slot := 3, constantValue := 0 }, { name := "RADIANS_TO_DEGREES", type := .double, accessFlags := 26, slot := 4, constantValue := 0 }, { name := "negativeZeroFloatBits", type := .long, accessFlags := 26, slot := 5, constantValue := 0 }, { name := "negativeZeroDoubleBits", type := .long, accessFlags := 26, slot := 6, constantValue := 0 }, { name := "twoToTheDoubleScaleUp", type := .double, accessFlags := 8, slot := 7, constantValue := 0 }, { name := "twoToTheDoubleScaleDown", type := .double, accessFlags := 8, slot := 8, constantValue := 0 }, { name := "$assertionsDisabled", type := .boolean, accessFlags := 4120, slot := 9, constantValue := 0 }]
  methods := #[k2m0, k2m1]
  instanceTypes := #[]
  staticTypes := #[.double, .double, .double, .double, .double, .long, .long, .double, .double, .boolean]
  resolved := Array.replicate 460 none
  statics := none }

def pool3 : Array CpInfo := pool [(1, .methodref 2 3), (0, .class_ 4), (0, .nameAndType 5 6), (0, u "java/lang/Object"), (0, u "<init>"), (0, u "()V"), (23, .fieldref 31 32), (0, .class_ 33), (0, .nameAndType 34 35), (0, u "com/example/abridge/abridge/relative/LevelLayout"), (0, u "n0"), (0, u "J"), (32, u "(I)J"), (0, .long 9223372036854775807), (3, u "rangeEnd"), (0, u "NEVER"), (7, u "(J)V")] 30

def k3c0 : Code := { maxStack := 3, maxLocals := 3, code := prog_21_method_2_code, exceptionTable := #[], attributes := #[] }
def k3m0 : Method := { name := "<init>", desc := "(J)V", sig := { parameters := [.long], returnType := none }, accessFlags := 0, code := some k3c0 }
def k3c1 : Code := { maxStack := 6, maxLocals := 2, code := prog_21_method_9_code, exceptionTable := #[], attributes := #[] }
def k3m1 : Method := { name := "rangeEnd", desc := "(I)J", sig := { parameters := [.int], returnType := some .long }, accessFlags := 0, code := some k3c1 }
/-- com/example/abridge/abridge/relative/LevelLayout -/
def k3 : Class := { plain "com/example/abridge/abridge/relative/LevelLayout" (some 0) with
  accessFlags := 48
  interfaces := #[]
  cf := some (fileOf pool3 31 #[] #[{ accessFlags := 0, nameIndex := 5, descriptorIndex := 82, attributes := #[] }, { accessFlags := 0, nameIndex := 73, descriptorIndex := 68, attributes := #[] }] 48 2 #[] #[{ accessFlags := 24, nameIndex := 74, descriptorIndex := 35, attributes := #[] }, { accessFlags := 18, nameIndex := 34, descriptorIndex := 35, attributes := #[] }])
  fields := #[{ name := "NEVER", type := .long, accessFlags := 24, slot := 0, constantValue := 0 }, { name := "n0", type := .long, accessFlags := 18, slot := 0, constantValue := 0 }]
  methods := #[k3m0, k3m1]
  instanceTypes := #[.long]
  staticTypes := #[.long]
  resolved := Array.replicate 113 none
  statics := none }

def pool4 : Array CpInfo := pool [(1, u "java/lang/Cloneable"), (0, .class_ 1), (0, u "java/lang/Object"), (0, .class_ 3)] 3

/-- java/lang/Cloneable -/
def k4 : Class := { plain "java/lang/Cloneable" (some 0) with
  accessFlags := 1537
  interfaces := #[]
  cf := some (fileOf pool4 2 #[] #[] 1537 4 #[] #[])
  fields := #[]
  methods := #[]
  instanceTypes := #[]
  staticTypes := #[]
  resolved := Array.replicate 8 none
  statics := none }

def pool5 : Array CpInfo := pool [(1, u "java/io/Serializable"), (0, .class_ 1), (0, u "java/lang/Object"), (0, .class_ 3)] 3

/-- java/io/Serializable -/
def k5 : Class := { plain "java/io/Serializable" (some 0) with
  accessFlags := 1537
  interfaces := #[]
  cf := some (fileOf pool5 2 #[] #[] 1537 4 #[] #[])
  fields := #[]
  methods := #[]
  instanceTypes := #[]
  staticTypes := #[]
  resolved := Array.replicate 8 none
  statics := none }

/-- the primitive byte -/
def k6 : Class := { plain "byte" none with kind := .primitive 'B', accessFlags := 0x411 }
/-- [B -/
def k7 : Class := { plain "[B" (some 0) with kind := .array 6 .byte, interfaces := #[4, 5], accessFlags := 1041 }

/-- the primitive int -/
def k8 : Class := { plain "int" none with kind := .primitive 'I', accessFlags := 0x411 }
/-- [I -/
def k9 : Class := { plain "[I" (some 0) with kind := .array 8 .int, interfaces := #[4, 5], accessFlags := 1041 }

def heap : Heap := #[]
def classes : Array Class := #[k0, k1, k2, k3, k4, k5, k6, k7, k8, k9]
def interned : List (Array UInt16 × Addr) := []
def slotsUsed : Nat := 0
def theMethod : MethodId := ⟨1, 1⟩
def args0 : Array Value := #[.long 25, .int 1, .int 3, .int 2]
def aboutOver (below : List Frame) : State where
  vm := { classes := classes, interned := interned.toArray }
  heap := heap
  slotsUsed := slotsUsed
  threads := #[{ frames := .invoking theMethod args0 :: below }]
def below0 : List Frame := [.native { method := ⟨0, 0⟩, args := #[] }]
def about1 : State := aboutOver below0
def p0 : Program := .bare "" "" ""
def e0 : Env := launch0.env 0 0 0
theorem w_frames : about1.frames = Frame.invoking theMethod args0 :: below0 := rfl
set_option maxRecDepth 65536 in
theorem w_args : argsFit about1.vm theMethod args0 = true := by decide +kernel
set_option maxRecDepth 65536 in
theorem w_heap : heapFits about1 = true := by decide +kernel
set_option maxRecDepth 65536 in
theorem w_runnable : about1.curStatus? = some .runnable := by decide +kernel
set_option maxRecDepth 65536 in
theorem w_alone : about1.alone = true := by decide +kernel
set_option maxRecDepth 65536 in
theorem w_named : about1.methodNamed? x = some theMethod := by decide +kernel
set_option maxRecDepth 65536 in
theorem w_hears : about1.hears theMethod below0 = true := by decide +kernel
set_option maxRecDepth 65536 in
theorem w_ripe : about1.ripe theMethod args0 below0 = true := by decide +kernel
theorem w_running : about1.status = .running := rfl
set_option maxRecDepth 65536 in
theorem w_room : about1.hasRoom e0.platform room_1 = true :=
  launch0.hasRoom_least _ room_1 (by decide +kernel) (by decide +kernel) (by decide +kernel) (by decide +kernel) (by decide +kernel) (by decide +kernel)
theorem allAtoms_all (ts : List Jvm.Cond) (a : Array Jvm.Value) (st : Jvm.State) : (allAtoms ts).before a st = ts.all (fun c => c.before a st) := by
  induction ts with
  | nil => rfl
  | cons c t ih =>
    show (Jvm.Cond.and c (allAtoms t)).before a st = _
    rw [Jvm.Cond.before_and, ih, List.all_cons]
def words1 : List Jvm.Cond := Jvm.Cond.code x code maxLocals ret :: tables_1
/-- a 'code' word, met by the world's own term for the bytes: nothing is compared byte by byte -/
theorem code_word {y : MethodName} {bytes : ByteArray} {mx : Nat} {rt : Option FieldType} {a : Array Value} {s : State} {m : MethodId} {meth : Method} {c : Code} (h1 : s.methodNamed? y = some m) (h2 : s.vm.method? m = some meth) (h3 : meth.code = some c) (h4 : c.code = bytes)
    (h5 : (c.maxLocals == mx && c.exceptionTable.isEmpty && decide (c.maxStack ≤ mostOperands) && decide (meth.sig.returnType = rt) && !meth.locks && decide (parseMethodDescriptor y.desc = some meth.sig)) = true) : (Jvm.Cond.code y bytes mx rt).before a s = true := by
  simp only [Bool.and_eq_true, beq_iff_eq, Bool.not_eq_true', decide_eq_true_eq] at h5
  obtain ⟨⟨⟨⟨⟨g1, g2⟩, g3⟩, g4⟩, g5⟩, g6⟩ := h5
  simp [Cond.before, Cond.holds, Cond.value, h1, h2, h3, h4, g1, g2, g3, g4, g5, g6]
def isCode : Jvm.Cond → Bool
  | .code _ _ _ _ => true
  | _ => false
theorem all_split {L : List Jvm.Cond} {P : Jvm.Cond → Bool} (h1 : L.all (fun c => isCode c || P c) = true) (h2 : ∀ c ∈ L.filter isCode, P c = true) : L.all P = true := by
  refine List.all_eq_true.mpr fun c hc => ?_
  have h := List.all_eq_true.mp h1 c hc
  rcases Bool.eq_false_or_eq_true (isCode c) with hi | hi
  · exact h2 c (List.mem_filter.mpr ⟨hc, hi⟩)
  · simpa [hi] using h
set_option maxRecDepth 65536 in
theorem w_c0 : (Jvm.Cond.code x code maxLocals ret).before args0 about1 = true := code_word (m := ⟨1, 1⟩) (meth := k1m1) (c := k1c1) (by decide +kernel) rfl rfl rfl (by decide +kernel)
set_option maxRecDepth 65536 in
theorem w_c1 : (Jvm.Cond.code ({ cls := "java/lang/Math", name := "max", desc := "(JJ)J" } : Jvm.MethodName) jdk_29_method_66_code (4 : Nat) (Option.some Jvm.ClassFile.FieldType.long)).before args0 about1 = true := code_word (m := ⟨2, 1⟩) (meth := k2m1) (c := k2c1) (by decide +kernel) rfl rfl rfl (by decide +kernel)
set_option maxRecDepth 65536 in
theorem w_c2 : (Jvm.Cond.code ({ cls := "com/example/abridge/abridge/relative/LevelLayout", name := "<init>", desc := "(J)V" } : Jvm.MethodName) prog_21_method_2_code (3 : Nat) (Option.none : Option Jvm.ClassFile.FieldType)).before args0 about1 = true := code_word (m := ⟨3, 0⟩) (meth := k3m0) (c := k3c0) (by decide +kernel) rfl rfl rfl (by decide +kernel)
set_option maxRecDepth 65536 in
theorem w_c3 : (Jvm.Cond.code ({ cls := "java/lang/Object", name := "<init>", desc := "()V" } : Jvm.MethodName) object_method_1_code (1 : Nat) (Option.none : Option Jvm.ClassFile.FieldType)).before args0 about1 = true := code_word (m := ⟨0, 0⟩) (meth := k0m0) (c := k0c0) (by decide +kernel) rfl rfl rfl (by decide +kernel)
set_option maxRecDepth 65536 in
theorem w_c4 : (Jvm.Cond.code ({ cls := "com/example/abridge/abridge/relative/LevelLayout", name := "rangeEnd", desc := "(I)J" } : Jvm.MethodName) prog_21_method_9_code (2 : Nat) (Option.some Jvm.ClassFile.FieldType.long)).before args0 about1 = true := code_word (m := ⟨3, 1⟩) (meth := k3m1) (c := k3c1) (by decide +kernel) rfl rfl rfl (by decide +kernel)
def codes1 : List Jvm.Cond := [Jvm.Cond.code x code maxLocals ret, Jvm.Cond.code ({ cls := "java/lang/Math", name := "max", desc := "(JJ)J" } : Jvm.MethodName) jdk_29_method_66_code (4 : Nat) (Option.some Jvm.ClassFile.FieldType.long), Jvm.Cond.code ({ cls := "com/example/abridge/abridge/relative/LevelLayout", name := "<init>", desc := "(J)V" } : Jvm.MethodName) prog_21_method_2_code (3 : Nat) (Option.none : Option Jvm.ClassFile.FieldType), Jvm.Cond.code ({ cls := "java/lang/Object", name := "<init>", desc := "()V" } : Jvm.MethodName) object_method_1_code (1 : Nat) (Option.none : Option Jvm.ClassFile.FieldType), Jvm.Cond.code ({ cls := "com/example/abridge/abridge/relative/LevelLayout", name := "rangeEnd", desc := "(I)J" } : Jvm.MethodName) prog_21_method_9_code (2 : Nat) (Option.some Jvm.ClassFile.FieldType.long)]
set_option maxRecDepth 65536 in
theorem codes_eq : words1.filter isCode = codes1 := rfl
theorem w_codes : ∀ c ∈ words1.filter isCode, c.before args0 about1 = true := by
  rw [codes_eq]
  intro c hc
  simp only [codes1, List.mem_cons, List.not_mem_nil, or_false] at hc
  rcases hc with rfl | rfl | rfl | rfl | rfl
  · exact w_c0
  · exact w_c1
  · exact w_c2
  · exact w_c3
  · exact w_c4
set_option maxRecDepth 65536 in
theorem w_t1 : words1.all (fun c => isCode c || c.before args0 about1) = true := by decide +kernel
theorem w_tables : (allAtoms (Jvm.Cond.code x code maxLocals ret :: tables_1)).before args0 about1 = true := by
  rw [allAtoms_all]
  show words1.all (fun c => c.before args0 about1) = true
  refine all_split ?_ w_codes
  rw [w_t1]
set_option maxRecDepth 65536 in
theorem w_case : (Jvm.Cond.and given_1 narrow_1).before args0 about1 = true := by decide +kernel
theorem w_applies : (headSpec (Jvm.Cond.code x code maxLocals ret :: tables_1) room_1).applies x e0.platform about1 = true :=
  (Spec.applies_iff w_frames).mpr ⟨w_running, w_runnable, w_alone, w_named, w_hears, w_ripe, w_room, w_tables⟩
theorem atStart : AtStart classFile x code maxLocals ret World_1 tables_1 room_1 Calls_1 rest_1 Pre_1 launch0 p0 e0 about1 theMethod args0 below0 :=
  ⟨lists_1, trivial, launch0.admits_env _ _ _, launch0.least_env, fairChoices_fair.cas, fairChoices_fair.clock, w_frames, w_args, w_heap, w_applies, trivial, trivial, w_case⟩
end start1
theorem witness_1 : WitnessClaimed_1 := ⟨start1.p0, start1.e0, start1.about1, start1.theMethod, start1.args0, start1.below0, start1.atStart⟩
end Jvm.Pilot.@@N@@
