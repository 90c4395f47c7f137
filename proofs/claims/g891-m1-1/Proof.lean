import JvmDerived
import JvmDerived.Pilot.@@N@@Statement
import JvmDerived.Pilot.@@N@@Code
set_option linter.unusedVariables false
set_option linter.unusedSimpArgs false
namespace Jvm.Pilot.@@N@@
open Jvm Jvm.ClassFile Sem Op Lib Jvm.Free Jvm.Stand Jvm.LawKit Jvm.RoadKit Bundle Jvm.Pilot.@@N@@.Jvm.D
/-- what a walk that stands at A still owes -/
def own_G (p : Program) (e : Env) (below : List Frame) (s : State) (Q : Option Value → Heap → List Loc → Prop) (rc rs : Nat) (A : State) : Prop :=
  ∃ s₂ o, Steps p.tables e below A s₂ ∧ s₂.status = .running ∧ Ended s₂ below o ∧ ∃ v L, o = .returned v ∧ Q v s₂.heap L ∧ FrameEnd s o s₂ L rc rs
theorem own_go {p : Program} {e : Env} {below : List Frame} {s : State} {Q : Option Value → Heap → List Loc → Prop} {rc rs : Nat} {A B : State} (st : ∀ t, Steps p.tables e below B t → Steps p.tables e below A t) (k : own_G p e below s Q rc rs B) : own_G p e below s Q rc rs A := by
  obtain ⟨s₂, o, h, r⟩ := k
  exact ⟨s₂, o, st _ h, r⟩
theorem own_leave {p : Program} {l : Launch} {e : Env} {R : Room} {s : State} {m : MethodId} {args : Array Value} {below : List Frame} {meth : Method} {c : Code} {T : State} {locs : List Loc} {cells slots : Nat} {Q : Option Value → Heap → List Loc → Prop} {rc rs : Nat} {g : JFrame} (X : Stand p l e R s m args below meth c T locs cells slots) (v : Option Value) (hv : meth.sig.returnType = none → v = none) (hlk : meth.locks = false)
    (st : ∀ fs, (∀ (f : JFrame) (acts : List Action), f.method = m → f.locked = none → f.entered = [] → (doReturn e (T.setTop f) acts v).1 = T.setFrames fs) → Steps p.tables e below (T.setTop g) (T.setFrames fs)) (hQ : Q v T.heap locs) (hc : cells ≤ rc) (hs : slots ≤ rs) : own_G p e below s Q rc rs (T.setTop g) := by
  obtain ⟨fs, hr, hrun, hended, hW, hsame⟩ := X.leave (v := v) hv hlk
  exact ⟨_, _, st fs hr, hrun, hended, _, _, rfl, hQ, ⟨_, rfl⟩, hW, hsame.mono hc hs⟩
section OwnArrays
variable {p : Program} {l : Launch} {e : Env} {R : Room} {s : State} {m : MethodId} {args : Array Value} {below : List Frame} {meth : Method} {c : Code} {T : State} {locs : List Loc} {cells slots : Nat} {Z : State} {h : Heap} {a : Addr} {kc : ClassId} {z j x : Int32} {vs vs' : List Value} {dv v : Value} {g : JFrame} {rest : List Value} {ty : FieldType}
theorem own_len (X : Stand p l e R s m args below meth c T locs cells slots) (hx : p.tables.exec = Jvm.exec) (hZ : Z.Warmed39 s.vm) (eT : T.heap = h) (F : Arv Z h a kc ty z vs dv) (hg : g.method = m) (hs : g.stack = .ref a :: rest) (hd : decode c.code g.pc = .ok (.arraylength, 1)) :
    ∀ target, Steps p.tables e below (T.setTop { g with pc := g.pc + 1, stack := .int z :: rest }) target → Steps p.tables e below (T.setTop g) target := by
  obtain ⟨cl, A, r1, S, q3, H, G⟩ := F
  intro t k
  refine X.arraylength hx (by rw [eT]; exact A.1) (State.isArrayOf_alike hZ.alike A.2.1) hg hs hd t ?_
  rw [len_of S q3]
  exact k
theorem own_ldB (X : Stand p l e R s m args below meth c T locs cells slots) (hx : p.tables.exec = Jvm.exec) (hZ : Z.Warmed39 s.vm) (eT : T.heap = h) (F : Arv Z h a kc .byte z vs dv) (q : ¬ j < 0 ∧ j < z) (u : vs.getD j.toNatClampNeg dv = v) (hg : g.method = m) (hs : g.stack = .int j :: .ref a :: rest) (hd : decode c.code g.pc = .ok (.baload, 1)) :
    ∀ target, Steps p.tables e below (T.setTop { g with pc := g.pc + 1, stack := v :: rest }) target → Steps p.tables e below (T.setTop g) target := by
  obtain ⟨cl, A, r1, S, q3, H, G⟩ := F
  exact fun t k => X.baloadBytes hx (j := j) (v := v) (by rw [eT]; exact A.1) (State.isArrayOf_alike hZ.alike A.2.1) A.2.2 (inb_of S q) (H.at (inb_of S q) u) hg hs hd t k
theorem own_ldC (X : Stand p l e R s m args below meth c T locs cells slots) (hx : p.tables.exec = Jvm.exec) (hZ : Z.Warmed39 s.vm) (eT : T.heap = h) (F : Arv Z h a kc .char z vs dv) (q : ¬ j < 0 ∧ j < z) (u : vs.getD j.toNatClampNeg dv = v) (hg : g.method = m) (hs : g.stack = .int j :: .ref a :: rest) (hd : decode c.code g.pc = .ok (.caload, 1)) :
    ∀ target, Steps p.tables e below (T.setTop { g with pc := g.pc + 1, stack := v :: rest }) target → Steps p.tables e below (T.setTop g) target := by
  obtain ⟨cl, A, r1, S, q3, H, G⟩ := F
  exact fun t k => X.caload hx (j := j) (v := v) (by rw [eT]; exact A.1) (State.isArrayOf_alike hZ.alike A.2.1) A.2.2 (inb_of S q) (H.at (inb_of S q) u) hg hs hd t k
theorem own_stB (X : Stand p l e R s m args below meth c T locs cells slots) (hx : p.tables.exec = Jvm.exec) (hZ : Z.Warmed39 s.vm) (eT : T.heap = h) (F : Arv Z h a kc .byte z vs dv) (q : ¬ j < 0 ∧ j < z) (i : Nat) (hj : j.toNatClampNeg = i) (hi : i < vs.length) (u : vs.set i (.int (nar .byte x)) = vs') (hg : g.method = m) (hs : g.stack = .int x :: .int j :: .ref a :: rest) (hd : decode c.code g.pc = .ok (.bastore, 1)) :
    ∃ T' h', Stand p l e R s m args below meth c T' (locs ++ [⟨a, j.toNatClampNeg⟩]) cells slots ∧ T'.heap = h' ∧ Wr h h' a j.toNatClampNeg (.int (nar .byte x)) ∧ Arv Z h' a kc .byte z vs' dv ∧ ∀ target, Steps p.tables e below (T'.setTop { g with pc := g.pc + 1, stack := rest }) target → Steps p.tables e below (T.setTop g) target := by
  obtain ⟨cl, A, r1, S, q3, H, G⟩ := F
  obtain ⟨T', h', X', e', W, st⟩ := stB X hx hZ eT A (inb_of S q) hg hs hd
  exact ⟨T', h', X', e', W, u ▸ Arv.set A r1 S q3 H G (fits_nar_byte x) W i hj hi, st⟩
theorem own_stC (X : Stand p l e R s m args below meth c T locs cells slots) (hx : p.tables.exec = Jvm.exec) (hZ : Z.Warmed39 s.vm) (eT : T.heap = h) (F : Arv Z h a kc .char z vs dv) (q : ¬ j < 0 ∧ j < z) (i : Nat) (hj : j.toNatClampNeg = i) (hi : i < vs.length) (u : vs.set i (.int (nar .char x)) = vs') (hg : g.method = m) (hs : g.stack = .int x :: .int j :: .ref a :: rest) (hd : decode c.code g.pc = .ok (.castore, 1)) :
    ∃ T' h', Stand p l e R s m args below meth c T' (locs ++ [⟨a, j.toNatClampNeg⟩]) cells slots ∧ T'.heap = h' ∧ Wr h h' a j.toNatClampNeg (.int (nar .char x)) ∧ Arv Z h' a kc .char z vs' dv ∧ ∀ target, Steps p.tables e below (T'.setTop { g with pc := g.pc + 1, stack := rest }) target → Steps p.tables e below (T.setTop g) target := by
  obtain ⟨cl, A, r1, S, q3, H, G⟩ := F
  obtain ⟨T', h', X', e', W, st⟩ := stC X hx hZ eT A (inb_of S q) hg hs hd
  exact ⟨T', h', X', e', W, u ▸ Arv.set A r1 S q3 H G (fits_nar_char x) W i hj hi, st⟩
end OwnArrays
/-- what startsMember answers -/
def own_sm (z b0 b1 b2 : Int32) : Int32 := if z < 3 then 0 else if b0 = 31 then (if b1 = -117 then (if b2 = 8 then 1 else 0) else 0) else 0
theorem own_sm_s {z b0 b1 b2 : Int32} (h : z < 3) : own_sm z b0 b1 b2 = 0 := if_pos h
theorem own_sm_0 {z b0 b1 b2 : Int32} (h : ¬ z < 3) (h0 : ¬ b0 = 31) : own_sm z b0 b1 b2 = 0 := (if_neg h).trans (if_neg h0)
theorem own_sm_1 {z b0 b1 b2 : Int32} (h : ¬ z < 3) (h0 : b0 = 31) (h1 : ¬ b1 = -117) : own_sm z b0 b1 b2 = 0 := (if_neg h).trans ((if_pos h0).trans (if_neg h1))
theorem own_sm_2 {z b0 b1 b2 : Int32} (h : ¬ z < 3) (h0 : b0 = 31) (h1 : b1 = -117) (h2 : ¬ b2 = 8) : own_sm z b0 b1 b2 = 0 := (if_neg h).trans ((if_pos h0).trans ((if_pos h1).trans (if_neg h2)))
theorem own_sm_3 {z b0 b1 b2 : Int32} (h : ¬ z < 3) (h0 : b0 = 31) (h1 : b1 = -117) (h2 : b2 = 8) : own_sm z b0 b1 b2 = 1 := (if_neg h).trans ((if_pos h0).trans ((if_pos h1).trans (if_pos h2)))
theorem own_in (z j : Int32) (h : ¬ z < 3) (hj : 0 ≤ j.toInt) (hj2 : j.toInt < 3) : ¬ j < 0 ∧ j < z := by
  have e3 : (3 : Int32).toInt = 3 := by decide
  have e0 : (0 : Int32).toInt = 0 := by decide
  rw [Int32.lt_iff_toInt_lt] at h
  rw [Int32.lt_iff_toInt_lt, Int32.lt_iff_toInt_lt]
  omega
theorem own_nar (x : Int32) : nar .byte (x.toInt8.toInt32) = x.toInt8.toInt32 := by
  show (x.toInt8.toInt32).toInt8.toInt32 = _
  rw [Int8.toInt8_toInt32]
theorem own_len5 (x : Int32) : ((x &&& (2147483647 : Int32)) % (5 : Int32)) = 0 ∨ ((x &&& (2147483647 : Int32)) % (5 : Int32)) = 1 ∨ ((x &&& (2147483647 : Int32)) % (5 : Int32)) = 2 ∨ ((x &&& (2147483647 : Int32)) % (5 : Int32)) = 3 ∨ ((x &&& (2147483647 : Int32)) % (5 : Int32)) = 4 := by
  have e1 : (2147483647 : Int32).toBitVec.toNat = 2147483647 := by decide
  have h1 : (x &&& (2147483647 : Int32)).toBitVec.toNat ≤ 2147483647 := by
    rw [Int32.toBitVec_and, BitVec.toNat_and, e1]; exact Nat.and_le_right
  have h2 : 0 ≤ (x &&& (2147483647 : Int32)).toInt := by
    show 0 ≤ (x &&& (2147483647 : Int32)).toBitVec.toInt
    rw [BitVec.toInt_eq_toNat_cond]; split <;> omega
  have e5 : (5 : Int32).toInt = 5 := by decide
  have h3 : ((x &&& (2147483647 : Int32)) % (5 : Int32)).toInt = (x &&& (2147483647 : Int32)).toInt % 5 := by
    rw [Int32.toInt_mod, e5, Int.tmod_eq_emod_of_nonneg h2]
  have m1 := Int.emod_nonneg (x &&& (2147483647 : Int32)).toInt (b := 5) (by decide)
  have m2 := Int.emod_lt_of_pos (x &&& (2147483647 : Int32)).toInt (b := 5) (by decide)
  simp only [← Int32.toInt_inj]
  rw [h3, show (0 : Int32).toInt = 0 from by decide, show (1 : Int32).toInt = 1 from by decide, show (2 : Int32).toInt = 2 from by decide, show (3 : Int32).toInt = 3 from by decide, show (4 : Int32).toInt = 4 from by decide]
  omega
/-- the three bytes joined -/
def own_id (b0 b1 b2 : Int32) : Int32 := ((((b0 &&& (255 : Int32)) <<< ((16 : Int32) &&& 31)) ||| ((b1 &&& (255 : Int32)) <<< ((8 : Int32) &&& 31))) ||| (b2 &&& (255 : Int32)))
theorem own_lowbyte (b : Int32) : (b &&& (255 : Int32)).toBitVec.toNat = b.toBitVec.toNat % 256 := by
  rw [Int32.toBitVec_and, BitVec.toNat_and, show (255 : Int32).toBitVec.toNat = 2 ^ 8 - 1 from by decide, Nat.and_two_pow_sub_one_eq_mod]
theorem own_id_nat (b0 b1 b2 : Int32) : (own_id b0 b1 b2).toBitVec.toNat = b0.toBitVec.toNat % 256 * 65536 + b1.toBitVec.toNat % 256 * 256 + b2.toBitVec.toNat % 256 := by
  show (((b0 &&& (255 : Int32)).toBitVec <<< ((16 : Int32) &&& 31).toBitVec.smod 32) ||| ((b1 &&& (255 : Int32)).toBitVec <<< ((8 : Int32) &&& 31).toBitVec.smod 32) ||| (b2 &&& (255 : Int32)).toBitVec).toNat = _
  have e16 : ((16 : Int32) &&& 31).toBitVec.smod 32 = 16#32 := by decide
  have e8 : ((8 : Int32) &&& 31).toBitVec.smod 32 = 8#32 := by decide
  rw [e16, e8, BitVec.toNat_or, BitVec.toNat_or, BitVec.shiftLeft_eq', BitVec.shiftLeft_eq', BitVec.toNat_shiftLeft, BitVec.toNat_shiftLeft, own_lowbyte, own_lowbyte, own_lowbyte]
  rw [show (16#32).toNat = 16 from rfl, show (8#32).toNat = 8 from rfl]
  have h0 : b0.toBitVec.toNat % 256 < 256 := Nat.mod_lt _ (by decide)
  have h1 : b1.toBitVec.toNat % 256 < 256 := Nat.mod_lt _ (by decide)
  have h2 : b2.toBitVec.toNat % 256 < 256 := Nat.mod_lt _ (by decide)
  generalize b0.toBitVec.toNat % 256 = A at *
  generalize b1.toBitVec.toNat % 256 = B at *
  generalize b2.toBitVec.toNat % 256 = D at *
  have p16 : (2 : Nat) ^ 16 = 65536 := by decide
  have p8 : (2 : Nat) ^ 8 = 256 := by decide
  rw [Nat.shiftLeft_eq, Nat.shiftLeft_eq, p16, p8, Nat.mod_eq_of_lt (by omega), Nat.mod_eq_of_lt (by omega)]
  have g1 : A * 65536 ||| B * 256 = A * 65536 + B * 256 := by
    have q := Nat.shiftLeft_add_eq_or_of_lt (b := B * 256) (i := 16) (by omega) A
    rw [Nat.shiftLeft_eq, p16] at q
    exact q.symm
  have g2 : (A * 65536 + B * 256) ||| D = (A * 65536 + B * 256) + D := by
    have q := Nat.shiftLeft_add_eq_or_of_lt (b := D) (i := 8) (by omega) (A * 256 + B)
    have e : (A * 256 + B) * 256 = A * 65536 + B * 256 := by omega
    rw [Nat.shiftLeft_eq, p8, e] at q
    exact q.symm
  rw [g1, g2]
theorem own_byte_of {b : Int32} (hb : nar .byte b = b) : ∀ v : Int8, (v.toInt32.toBitVec.toNat % 256 = b.toBitVec.toNat % 256) → b = v.toInt32 := by
  intro v hv
  have e : b = b.toInt8.toInt32 := hb.symm
  rw [e] at hv ⊢
  have k : ∀ u : Int8, u.toInt32.toBitVec.toNat % 256 = u.toBitVec.toNat := by
    intro u
    have q : u.toInt32.toInt8 = u := Int8.toInt8_toInt32 u
    have q2 : u.toInt32.toInt8.toBitVec.toNat = u.toInt32.toBitVec.toNat % 2 ^ 8 := by
      rw [Int32.toBitVec_toInt8, BitVec.signExtend_eq_setWidth_of_le _ (by decide), BitVec.toNat_setWidth]
    rw [q] at q2; exact q2.symm
  rw [k, k] at hv
  exact congrArg Int8.toInt32 (Int8.toBitVec_inj.mp (BitVec.eq_of_toNat_eq hv.symm))
theorem own_id_yes {z b0 b1 b2 : Int32} (n0 : nar .byte b0 = b0) (n1 : nar .byte b1 = b1) (n2 : nar .byte b2 = b2) (hz : ¬ z < 3) (h : own_id b0 b1 b2 = (2067208 : Int32)) : own_sm z b0 b1 b2 = 1 := by
  have e := own_id_nat b0 b1 b2
  rw [h, show (2067208 : Int32).toBitVec.toNat = 2067208 from by decide] at e
  have q0 := own_byte_of n0 31 (by rw [show ((31 : Int8).toInt32).toBitVec.toNat % 256 = 31 from by decide]; omega)
  have q1 := own_byte_of n1 (-117) (by rw [show ((-117 : Int8).toInt32).toBitVec.toNat % 256 = 139 from by decide]; omega)
  have q2 := own_byte_of n2 8 (by rw [show ((8 : Int8).toInt32).toBitVec.toNat % 256 = 8 from by decide]; omega)
  exact own_sm_3 hz (q0.trans (by decide)) (q1.trans (by decide)) (q2.trans (by decide))
theorem own_id_no {z b0 b1 b2 : Int32} (hz : ¬ z < 3) (h : ¬ own_id b0 b1 b2 = (2067208 : Int32)) : own_sm z b0 b1 b2 = 0 := by
  by_cases h0 : b0 = 31
  · by_cases h1 : b1 = -117
    · by_cases h2 : b2 = 8
      · subst h0 h1 h2; exact absurd (by decide) h
      · exact own_sm_2 hz h0 h1 h2
    · exact own_sm_1 hz h0 h1
  · exact own_sm_0 hz h0
theorem d1_0 : decode prog_14_method_7_code 0 = .ok (.aload_n 0, 1) := by decide +kernel
theorem d1_1 : decode prog_14_method_7_code 1 = .ok (.arraylength, 1) := by decide +kernel
theorem d1_2 : decode prog_14_method_7_code 2 = .ok (.iconst 3, 1) := by decide +kernel
theorem d1_3 : decode prog_14_method_7_code 3 = .ok (.if_icmp .lt 31, 3) := by decide +kernel
theorem d1_6 : decode prog_14_method_7_code 6 = .ok (.aload_n 0, 1) := by decide +kernel
theorem d1_7 : decode prog_14_method_7_code 7 = .ok (.iconst 0, 1) := by decide +kernel
theorem d1_8 : decode prog_14_method_7_code 8 = .ok (.baload, 1) := by decide +kernel
theorem d1_9 : decode prog_14_method_7_code 9 = .ok (.bipush 31, 2) := by decide +kernel
theorem d1_11 : decode prog_14_method_7_code 11 = .ok (.if_icmp .ne 23, 3) := by decide +kernel
theorem d1_14 : decode prog_14_method_7_code 14 = .ok (.aload_n 0, 1) := by decide +kernel
theorem d1_15 : decode prog_14_method_7_code 15 = .ok (.iconst 1, 1) := by decide +kernel
theorem d1_16 : decode prog_14_method_7_code 16 = .ok (.baload, 1) := by decide +kernel
theorem d1_17 : decode prog_14_method_7_code 17 = .ok (.bipush (-117), 2) := by decide +kernel
theorem d1_19 : decode prog_14_method_7_code 19 = .ok (.if_icmp .ne 15, 3) := by decide +kernel
theorem d1_22 : decode prog_14_method_7_code 22 = .ok (.aload_n 0, 1) := by decide +kernel
theorem d1_23 : decode prog_14_method_7_code 23 = .ok (.iconst 2, 1) := by decide +kernel
theorem d1_24 : decode prog_14_method_7_code 24 = .ok (.baload, 1) := by decide +kernel
theorem d1_25 : decode prog_14_method_7_code 25 = .ok (.bipush 8, 2) := by decide +kernel
theorem d1_27 : decode prog_14_method_7_code 27 = .ok (.if_icmp .ne 7, 3) := by decide +kernel
theorem d1_30 : decode prog_14_method_7_code 30 = .ok (.iconst 1, 1) := by decide +kernel
theorem d1_31 : decode prog_14_method_7_code 31 = .ok (.goto 4, 3) := by decide +kernel
theorem d1_34 : decode prog_14_method_7_code 34 = .ok (.iconst 0, 1) := by decide +kernel
theorem d1_35 : decode prog_14_method_7_code 35 = .ok (.ireturn, 1) := by decide +kernel
theorem pn1 : plainName "com/example/graphalog/graphalog/io/GzipMembers" = true := by first | (simp [plainName, overriddenIn]; done) | decide +kernel
theorem pd1 : parseMethodDescriptor "([B)Z" = some ⟨[.array .byte], some .boolean⟩ := by decide +kernel
theorem ef1 (m : MethodId) (x0 : Addr) : entryFrame m #[(.ref x0)] 1 = mkF m 0 #[.val (.ref x0)] [] := by first | (simp [entryFrame, mkF, argsToLocals, Value.category]; done) | rfl
def own_Q1 (z b0 b1 b2 : Int32) (h0 : Heap) (v : Option Value) (h : Heap) (L : List Loc) : Prop := v = some (.int (own_sm z b0 b1 b2)) ∧ L = [] ∧ h = h0
set_option maxRecDepth 65536 in
set_option maxHeartbeats 40000000 in
theorem rm1 (l : Launch) (Z : State) (a0 : Array Value) (hw : ∀ d ∈ tables_1, d.before a0 Z = true) (ws : List Jvm.Cond) (a1 : Addr) (kc : ClassId) (z b0 b1 b2 : Int32) (vs : List Value) (h0 : Heap) (F : Arv Z h0 a1 kc .byte z vs (.int 0)) (u0 : ¬ z < (3 : Int32) → vs.getD 0 (.int 0) = .int b0) (u1 : ¬ z < (3 : Int32) → vs.getD 1 (.int 0) = .int b1) (u2 : ¬ z < (3 : Int32) → vs.getD 2 (.int 0) = .int b2) :
    MetFree l (⟨"com/example/graphalog/graphalog/io/GzipMembers", "startsMember", "([B)Z"⟩ : MethodName) (head1 (Jvm.Cond.code (⟨"com/example/graphalog/graphalog/io/GzipMembers", "startsMember", "([B)Z"⟩ : MethodName) prog_14_method_7_code 1 (some .boolean) :: ws) ({ frames := 0, cells := 0, slots := 0, locals := 0 } : Room)) (fun a U => a = #[(.ref a1)] ∧ Z.Warmed39 U.vm ∧ U.heap = h0) (fun _ _ _ _ _ => True) (fun _ U o U' => ∃ v L, o = .returned v ∧ own_Q1 z b0 b1 b2 h0 v U'.heap L ∧ FrameEnd U o U' L ({ frames := 0, cells := 0, slots := 0, locals := 0 } : Room).cells ({ frames := 0, cells := 0, slots := 0, locals := 0 } : Room).slots) := by
  refine MetFree.of_bodySF (plainFor_of_name pn1) hisR ?_
  intro p e s m args below meth c s₁ Bd hml0 hP hK
  obtain ⟨rfl, hZ, hh⟩ := hP
  have hx := Bd.exec
  have hby := Bd.bytes
  have hml : c.maxLocals = 1 := hml0
  have hown : s.vm.findClass "com/example/graphalog/graphalog/io/GzipMembers" = some m.cls := findClass_of_methodNamed Bd.named
  have hnm := (name_of_methodNamed Bd.named Bd.method).1
  have X0 : Stand p l e ({ frames := 0, cells := 0, slots := 0, locals := 0 } : Room) s m #[(.ref a1)] below meth c s₁ [] 0 0 := Stand.of_body Bd
  have e0 : s₁.heap = h0 := by rw [← hh, Bd.state]; rfl
  refine (show own_G p e below s (own_Q1 z b0 b1 b2 h0) 0 0 (s₁.setTop (entryFrame m #[(.ref a1)] 1)) → _ from fun k => k) ?_
  refine own_go (fun t k => castTop (ef1 m a1) k) ?_
  show own_G p e below s (own_Q1 z b0 b1 b2 h0) 0 0 (s₁.setTop (mkF m 0 #[.val (.ref a1)] []))
  refine own_go (fun t k => XS.aloadN X0.here hx rfl (hb hby d1_0) rfl rfl k) ?_
  show own_G p e below s (own_Q1 z b0 b1 b2 h0) 0 0 (s₁.setTop (mkF m 1 #[.val (.ref a1)] [(.ref a1)]))
  refine own_go (own_len X0 hx hZ e0 F (g := (mkF m 1 #[.val (.ref a1)] [(.ref a1)])) rfl rfl (hb hby d1_1)) ?_
  show own_G p e below s (own_Q1 z b0 b1 b2 h0) 0 0 (s₁.setTop (mkF m 2 #[.val (.ref a1)] [(.int z)]))
  refine own_go (fun t k => XS.iconst X0.here hx rfl (hb hby d1_2) k) ?_
  show own_G p e below s (own_Q1 z b0 b1 b2 h0) 0 0 (s₁.setTop (mkF m 3 #[.val (.ref a1)] [(.int (3 : Int32)), (.int z)]))
  by_cases h1 : z < (3 : Int32)
  · skip
    refine own_go (fun t k => XS.icmpYes X0.here hx rfl (pc0 := 3) (pc' := 34) rfl (hb hby d1_3) rfl (XT.ii_lt_t h1) (by decide) (by decide) k) ?_
    show own_G p e below s (own_Q1 z b0 b1 b2 h0) 0 0 (s₁.setTop (mkF m 34 #[.val (.ref a1)] []))
    refine own_go (fun t k => XS.iconst X0.here hx rfl (hb hby d1_34) k) ?_
    show own_G p e below s (own_Q1 z b0 b1 b2 h0) 0 0 (s₁.setTop (mkF m 35 #[.val (.ref a1)] [(.int (0 : Int32))]))
    exact own_leave X0 (some (.int (0 : Int32))) (fun h => by rw [Bd.returns] at h; cases h) Bd.notSynchronized (fun fs hr => retN X0 hx (t := .boolean) Bd.returns (by simp) (hb hby d1_35) hr) ⟨congrArg (fun z => some (Value.int z)) (own_sm_s h1).symm, rfl, e0⟩ (by decide) (by decide)
  · skip
    refine own_go (fun t k => XS.icmpNo X0.here hx rfl (hb hby d1_3) rfl (XT.ii_lt_f h1) k) ?_
    show own_G p e below s (own_Q1 z b0 b1 b2 h0) 0 0 (s₁.setTop (mkF m 6 #[.val (.ref a1)] []))
    refine own_go (fun t k => XS.aloadN X0.here hx rfl (hb hby d1_6) rfl rfl k) ?_
    show own_G p e below s (own_Q1 z b0 b1 b2 h0) 0 0 (s₁.setTop (mkF m 7 #[.val (.ref a1)] [(.ref a1)]))
    refine own_go (fun t k => XS.iconst X0.here hx rfl (hb hby d1_7) k) ?_
    show own_G p e below s (own_Q1 z b0 b1 b2 h0) 0 0 (s₁.setTop (mkF m 8 #[.val (.ref a1)] [(.int (0 : Int32)), (.ref a1)]))
    refine own_go (own_ldB X0 hx hZ e0 F (j := (0 : Int32)) (v := (.int b0)) (own_in z 0 h1 (by decide) (by decide)) (u0 h1) (g := (mkF m 8 #[.val (.ref a1)] [(.int (0 : Int32)), (.ref a1)])) rfl rfl (hb hby d1_8)) ?_
    show own_G p e below s (own_Q1 z b0 b1 b2 h0) 0 0 (s₁.setTop (mkF m 9 #[.val (.ref a1)] [(.int b0)]))
    refine own_go (fun t k => XS.bipush X0.here hx rfl (hb hby d1_9) k) ?_
    show own_G p e below s (own_Q1 z b0 b1 b2 h0) 0 0 (s₁.setTop (mkF m 11 #[.val (.ref a1)] [(.int (31 : Int32)), (.int b0)]))
    by_cases g0 : b0 = (31 : Int32)
    · skip
      refine own_go (fun t k => XS.icmpNo X0.here hx rfl (hb hby d1_11) rfl (XT.ii_ne_f g0) k) ?_
      show own_G p e below s (own_Q1 z b0 b1 b2 h0) 0 0 (s₁.setTop (mkF m 14 #[.val (.ref a1)] []))
      refine own_go (fun t k => XS.aloadN X0.here hx rfl (hb hby d1_14) rfl rfl k) ?_
      show own_G p e below s (own_Q1 z b0 b1 b2 h0) 0 0 (s₁.setTop (mkF m 15 #[.val (.ref a1)] [(.ref a1)]))
      refine own_go (fun t k => XS.iconst X0.here hx rfl (hb hby d1_15) k) ?_
      show own_G p e below s (own_Q1 z b0 b1 b2 h0) 0 0 (s₁.setTop (mkF m 16 #[.val (.ref a1)] [(.int (1 : Int32)), (.ref a1)]))
      refine own_go (own_ldB X0 hx hZ e0 F (j := (1 : Int32)) (v := (.int b1)) (own_in z 1 h1 (by decide) (by decide)) (u1 h1) (g := (mkF m 16 #[.val (.ref a1)] [(.int (1 : Int32)), (.ref a1)])) rfl rfl (hb hby d1_16)) ?_
      show own_G p e below s (own_Q1 z b0 b1 b2 h0) 0 0 (s₁.setTop (mkF m 17 #[.val (.ref a1)] [(.int b1)]))
      refine own_go (fun t k => XS.bipush X0.here hx rfl (hb hby d1_17) k) ?_
      show own_G p e below s (own_Q1 z b0 b1 b2 h0) 0 0 (s₁.setTop (mkF m 19 #[.val (.ref a1)] [(.int (-117 : Int32)), (.int b1)]))
      by_cases g1 : b1 = (-117 : Int32)
      · skip
        refine own_go (fun t k => XS.icmpNo X0.here hx rfl (hb hby d1_19) rfl (XT.ii_ne_f g1) k) ?_
        show own_G p e below s (own_Q1 z b0 b1 b2 h0) 0 0 (s₁.setTop (mkF m 22 #[.val (.ref a1)] []))
        refine own_go (fun t k => XS.aloadN X0.here hx rfl (hb hby d1_22) rfl rfl k) ?_
        show own_G p e below s (own_Q1 z b0 b1 b2 h0) 0 0 (s₁.setTop (mkF m 23 #[.val (.ref a1)] [(.ref a1)]))
        refine own_go (fun t k => XS.iconst X0.here hx rfl (hb hby d1_23) k) ?_
        show own_G p e below s (own_Q1 z b0 b1 b2 h0) 0 0 (s₁.setTop (mkF m 24 #[.val (.ref a1)] [(.int (2 : Int32)), (.ref a1)]))
        refine own_go (own_ldB X0 hx hZ e0 F (j := (2 : Int32)) (v := (.int b2)) (own_in z 2 h1 (by decide) (by decide)) (u2 h1) (g := (mkF m 24 #[.val (.ref a1)] [(.int (2 : Int32)), (.ref a1)])) rfl rfl (hb hby d1_24)) ?_
        show own_G p e below s (own_Q1 z b0 b1 b2 h0) 0 0 (s₁.setTop (mkF m 25 #[.val (.ref a1)] [(.int b2)]))
        refine own_go (fun t k => XS.bipush X0.here hx rfl (hb hby d1_25) k) ?_
        show own_G p e below s (own_Q1 z b0 b1 b2 h0) 0 0 (s₁.setTop (mkF m 27 #[.val (.ref a1)] [(.int (8 : Int32)), (.int b2)]))
        by_cases g2 : b2 = (8 : Int32)
        · skip
          refine own_go (fun t k => XS.icmpNo X0.here hx rfl (hb hby d1_27) rfl (XT.ii_ne_f g2) k) ?_
          show own_G p e below s (own_Q1 z b0 b1 b2 h0) 0 0 (s₁.setTop (mkF m 30 #[.val (.ref a1)] []))
          refine own_go (fun t k => XS.iconst X0.here hx rfl (hb hby d1_30) k) ?_
          show own_G p e below s (own_Q1 z b0 b1 b2 h0) 0 0 (s₁.setTop (mkF m 31 #[.val (.ref a1)] [(.int (1 : Int32))]))
          refine own_go (fun t k => XS.goto X0.here hx rfl (pc0 := 31) (pc' := 35) rfl (hb hby d1_31) (by decide) (by decide) k) ?_
          show own_G p e below s (own_Q1 z b0 b1 b2 h0) 0 0 (s₁.setTop (mkF m 35 #[.val (.ref a1)] [(.int (1 : Int32))]))
          exact own_leave X0 (some (.int (1 : Int32))) (fun h => by rw [Bd.returns] at h; cases h) Bd.notSynchronized (fun fs hr => retN X0 hx (t := .boolean) Bd.returns (by simp) (hb hby d1_35) hr) ⟨congrArg (fun z => some (Value.int z)) (own_sm_3 h1 g0 g1 g2).symm, rfl, e0⟩ (by decide) (by decide)
        · skip
          refine own_go (fun t k => XS.icmpYes X0.here hx rfl (pc0 := 27) (pc' := 34) rfl (hb hby d1_27) rfl (XT.ii_ne_t g2) (by decide) (by decide) k) ?_
          show own_G p e below s (own_Q1 z b0 b1 b2 h0) 0 0 (s₁.setTop (mkF m 34 #[.val (.ref a1)] []))
          refine own_go (fun t k => XS.iconst X0.here hx rfl (hb hby d1_34) k) ?_
          show own_G p e below s (own_Q1 z b0 b1 b2 h0) 0 0 (s₁.setTop (mkF m 35 #[.val (.ref a1)] [(.int (0 : Int32))]))
          exact own_leave X0 (some (.int (0 : Int32))) (fun h => by rw [Bd.returns] at h; cases h) Bd.notSynchronized (fun fs hr => retN X0 hx (t := .boolean) Bd.returns (by simp) (hb hby d1_35) hr) ⟨congrArg (fun z => some (Value.int z)) (own_sm_2 h1 g0 g1 g2).symm, rfl, e0⟩ (by decide) (by decide)
      · skip
        refine own_go (fun t k => XS.icmpYes X0.here hx rfl (pc0 := 19) (pc' := 34) rfl (hb hby d1_19) rfl (XT.ii_ne_t g1) (by decide) (by decide) k) ?_
        show own_G p e below s (own_Q1 z b0 b1 b2 h0) 0 0 (s₁.setTop (mkF m 34 #[.val (.ref a1)] []))
        refine own_go (fun t k => XS.iconst X0.here hx rfl (hb hby d1_34) k) ?_
        show own_G p e below s (own_Q1 z b0 b1 b2 h0) 0 0 (s₁.setTop (mkF m 35 #[.val (.ref a1)] [(.int (0 : Int32))]))
        exact own_leave X0 (some (.int (0 : Int32))) (fun h => by rw [Bd.returns] at h; cases h) Bd.notSynchronized (fun fs hr => retN X0 hx (t := .boolean) Bd.returns (by simp) (hb hby d1_35) hr) ⟨congrArg (fun z => some (Value.int z)) (own_sm_1 h1 g0 g1).symm, rfl, e0⟩ (by decide) (by decide)
    · skip
      refine own_go (fun t k => XS.icmpYes X0.here hx rfl (pc0 := 11) (pc' := 34) rfl (hb hby d1_11) rfl (XT.ii_ne_t g0) (by decide) (by decide) k) ?_
      show own_G p e below s (own_Q1 z b0 b1 b2 h0) 0 0 (s₁.setTop (mkF m 34 #[.val (.ref a1)] []))
      refine own_go (fun t k => XS.iconst X0.here hx rfl (hb hby d1_34) k) ?_
      show own_G p e below s (own_Q1 z b0 b1 b2 h0) 0 0 (s₁.setTop (mkF m 35 #[.val (.ref a1)] [(.int (0 : Int32))]))
      exact own_leave X0 (some (.int (0 : Int32))) (fun h => by rw [Bd.returns] at h; cases h) Bd.notSynchronized (fun fs hr => retN X0 hx (t := .boolean) Bd.returns (by simp) (hb hby d1_35) hr) ⟨congrArg (fun z => some (Value.int z)) (own_sm_0 h1 g0).symm, rfl, e0⟩ (by decide) (by decide)
theorem pn0 : plainName "com/example/graphalog/graphalog/io/GzipMembersStartsMemberPinLaw" = true := by first | (simp [plainName, overriddenIn]; done) | decide +kernel
theorem ef0 (m : MethodId) (x0 : Int32) (x1 : Int32) (x2 : Int32) (x3 : Int32) (x4 : Int32) (x5 : Int32) : entryFrame m #[(.int x0), (.int x1), (.int x2), (.int x3), (.int x4), (.int x5)] maxLocals = mkF m 0 #[.val (.int x0), .val (.int x1), .val (.int x2), .val (.int x3), .val (.int x4), .val (.int x5), .unset, .unset, .unset, .unset, .unset, .unset, .unset, .unset, .unset, .unset] [] := by first | (simp [entryFrame, mkF, argsToLocals, Value.category, maxLocals]; done) | rfl
def own_Q0 (n0 : Nat) (v : Option Value) (h : Heap) (L : List Loc) : Prop := v = some (.int 1) ∧ Fr n0 L
set_option maxRecDepth 65536 in
set_option maxHeartbeats 40000000 in
theorem rm0 (l : Launch) (Z : State) (a0 : Array Value) (hw : ∀ d ∈ tables_1, d.before a0 Z = true) (ws : List Jvm.Cond) (x0 x1 x2 x3 x4 x5 : Int32) (h0 : Heap) (n0 : Nat) (Z0 : n0 ≤ h0.size) :
    MetFree l x (head1 (Jvm.Cond.code x code maxLocals ret :: ws) room_1) (fun a U => a = #[(.int x0), (.int x1), (.int x2), (.int x3), (.int x4), (.int x5)] ∧ Z.Warmed39 U.vm ∧ U.heap = h0) (fun _ _ _ _ _ => True) (fun _ U o U' => ∃ v L, o = .returned v ∧ own_Q0 n0 v U'.heap L ∧ FrameEnd U o U' L 16 128) := by
  refine MetFree.of_bodySF (plainFor_of_name pn0) hisR ?_
  intro p e s m args below meth c s₁ Bd hml0 hP hK
  obtain ⟨rfl, hZ, hh⟩ := hP
  have hx := Bd.exec
  have hby := Bd.bytes
  have hml : c.maxLocals = 16 := hml0
  have hown : s.vm.findClass "com/example/graphalog/graphalog/io/GzipMembersStartsMemberPinLaw" = some m.cls := findClass_of_methodNamed Bd.named
  have hnm := (name_of_methodNamed Bd.named Bd.method).1
  have X0 : Stand p l e room_1 s m #[(.int x0), (.int x1), (.int x2), (.int x3), (.int x4), (.int x5)] below meth c s₁ [] 0 0 := Stand.of_body Bd
  have e0 : s₁.heap = h0 := by rw [← hh, Bd.state]; rfl
  refine (show own_G p e below s (own_Q0 n0) 16 128 (s₁.setTop (entryFrame m #[(.int x0), (.int x1), (.int x2), (.int x3), (.int x4), (.int x5)] maxLocals)) → _ from fun k => k) ?_
  refine own_go (fun t k => castTop (ef0 m x0 x1 x2 x3 x4 x5) k) ?_
  show own_G p e below s (own_Q0 n0) 16 128 (s₁.setTop (mkF m 0 #[.val (.int x0), .val (.int x1), .val (.int x2), .val (.int x3), .val (.int x4), .val (.int x5), .unset, .unset, .unset, .unset, .unset, .unset, .unset, .unset, .unset, .unset] []))
  refine own_go (fun t k => XS.iloadN X0.here hx rfl (hb hby at_0) rfl k) ?_
  show own_G p e below s (own_Q0 n0) 16 128 (s₁.setTop (mkF m 1 #[.val (.int x0), .val (.int x1), .val (.int x2), .val (.int x3), .val (.int x4), .val (.int x5), .unset, .unset, .unset, .unset, .unset, .unset, .unset, .unset, .unset, .unset] [(.int x0)]))
  refine own_go (X0.ldcInt hx hown (mvT hZ (hw _ (List.mem_of_getElem? (i := 0) rfl))) (g := (mkF m 1 #[.val (.int x0), .val (.int x1), .val (.int x2), .val (.int x3), .val (.int x4), .val (.int x5), .unset, .unset, .unset, .unset, .unset, .unset, .unset, .unset, .unset, .unset] [(.int x0)])) rfl (hb hby at_1)) ?_
  show own_G p e below s (own_Q0 n0) 16 128 (s₁.setTop (mkF m 3 #[.val (.int x0), .val (.int x1), .val (.int x2), .val (.int x3), .val (.int x4), .val (.int x5), .unset, .unset, .unset, .unset, .unset, .unset, .unset, .unset, .unset, .unset] [(.int (2147483647 : Int32)), (.int x0)]))
  refine own_go (fun t k => XS.iand X0.here hx rfl (hb hby at_3) rfl k) ?_
  show own_G p e below s (own_Q0 n0) 16 128 (s₁.setTop (mkF m 4 #[.val (.int x0), .val (.int x1), .val (.int x2), .val (.int x3), .val (.int x4), .val (.int x5), .unset, .unset, .unset, .unset, .unset, .unset, .unset, .unset, .unset, .unset] [(.int (x0 &&& (2147483647 : Int32)))]))
  refine own_go (fun t k => XS.iconst X0.here hx rfl (hb hby at_4) k) ?_
  show own_G p e below s (own_Q0 n0) 16 128 (s₁.setTop (mkF m 5 #[.val (.int x0), .val (.int x1), .val (.int x2), .val (.int x3), .val (.int x4), .val (.int x5), .unset, .unset, .unset, .unset, .unset, .unset, .unset, .unset, .unset, .unset] [(.int (5 : Int32)), (.int (x0 &&& (2147483647 : Int32)))]))
  refine own_go (fun t k => iremM X0 hx rfl (hb hby at_5) rfl (by decide) k) ?_
  show own_G p e below s (own_Q0 n0) 16 128 (s₁.setTop (mkF m 6 #[.val (.int x0), .val (.int x1), .val (.int x2), .val (.int x3), .val (.int x4), .val (.int x5), .unset, .unset, .unset, .unset, .unset, .unset, .unset, .unset, .unset, .unset] [(.int ((x0 &&& (2147483647 : Int32)) % (5 : Int32)))]))
  refine own_go (fun t k => XS.istore X0.here hx rfl (hb hby at_6) rfl (l' := #[.val (.int x0), .val (.int x1), .val (.int x2), .val (.int x3), .val (.int x4), .val (.int x5), .val (.int ((x0 &&& (2147483647 : Int32)) % (5 : Int32))), .unset, .unset, .unset, .unset, .unset, .unset, .unset, .unset, .unset]) rfl k) ?_
  show own_G p e below s (own_Q0 n0) 16 128 (s₁.setTop (mkF m 8 #[.val (.int x0), .val (.int x1), .val (.int x2), .val (.int x3), .val (.int x4), .val (.int x5), .val (.int ((x0 &&& (2147483647 : Int32)) % (5 : Int32))), .unset, .unset, .unset, .unset, .unset, .unset, .unset, .unset, .unset] []))
  suffices own_n_n : ∀ n : Int32, n = ((x0 &&& (2147483647 : Int32)) % (5 : Int32)) → own_G p e below s (own_Q0 n0) 16 128 (s₁.setTop (mkF m 8 #[.val (.int x0), .val (.int x1), .val (.int x2), .val (.int x3), .val (.int x4), .val (.int x5), .val (.int n), .unset, .unset, .unset, .unset, .unset, .unset, .unset, .unset, .unset] [])) from own_n_n _ rfl
  intro n h_n
  have hn : n = 0 ∨ n = 1 ∨ n = 2 ∨ n = 3 ∨ n = 4 := by rw [h_n]; exact own_len5 x0
  have J59 : ∀ (c0 c1 c2 c3 : Int32) (m0 : nar .byte c0 = c0) (m1 : nar .byte c1 = c1) (m2 : nar .byte c2 = c2) (m3 : nar .byte c3 = c3), own_G p e below s (own_Q0 n0) 16 128 (s₁.setTop (mkF m 59 #[.val (.int x0), .val (.int x1), .val (.int x2), .val (.int x3), .val (.int x4), .val (.int x5), .val (.int n), .val (.int c0), .val (.int c1), .val (.int c2), .val (.int c3), .unset, .unset, .unset, .unset, .unset] [])) := by
    intro c0 c1 c2 c3 m0 m1 m2 m3
    rcases hn with rfl | rfl | rfl | rfl | rfl
    · skip
      show own_G p e below s (own_Q0 n0) 16 128 (s₁.setTop (mkF m 59 #[.val (.int x0), .val (.int x1), .val (.int x2), .val (.int x3), .val (.int x4), .val (.int x5), .val (.int (0 : Int32)), .val (.int c0), .val (.int c1), .val (.int c2), .val (.int c3), .unset, .unset, .unset, .unset, .unset] []))
      refine own_go (fun t k => XS.iload X0.here hx rfl (hb hby at_59) rfl k) ?_
      show own_G p e below s (own_Q0 n0) 16 128 (s₁.setTop (mkF m 61 #[.val (.int x0), .val (.int x1), .val (.int x2), .val (.int x3), .val (.int x4), .val (.int x5), .val (.int (0 : Int32)), .val (.int c0), .val (.int c1), .val (.int c2), .val (.int c3), .unset, .unset, .unset, .unset, .unset] [(.int (0 : Int32))]))
      obtain ⟨T101, h101, cA101, X101, e101, E101, A101, st101⟩ := newP X0 hx hZ (hw _ (List.mem_of_getElem? (i := 1) rfl)) e0 (g := (mkF m 61 #[.val (.int x0), .val (.int x1), .val (.int x2), .val (.int x3), .val (.int x4), .val (.int x5), .val (.int (0 : Int32)), .val (.int c0), .val (.int c1), .val (.int c2), .val (.int c3), .unset, .unset, .unset, .unset, .unset] [(.int (0 : Int32))])) rfl (hb hby at_61) rfl (by decide) (cap := 0) (by decide) (by decide) (by decide) (by decide)
      obtain ⟨a3, g101⟩ : ∃ z, z = h0.size := ⟨_, rfl⟩
      rw [← g101] at A101 st101
      have V101 : Arv Z h101 a3 cA101 .byte (0 : Int32) [] (.int 0) := (Arv.new A101 (by decide)).pad (pad_rep [] (.int 0) 0)
      refine own_go st101 ?_
      show own_G p e below s (own_Q0 n0) 16 128 (T101.setTop (mkF m 63 #[.val (.int x0), .val (.int x1), .val (.int x2), .val (.int x3), .val (.int x4), .val (.int x5), .val (.int (0 : Int32)), .val (.int c0), .val (.int c1), .val (.int c2), .val (.int c3), .unset, .unset, .unset, .unset, .unset] [(.ref a3)]))
      have g3 : n0 ≤ a3 := Nat.le_trans Z0 (Nat.le_of_eq g101.symm)
      refine own_go (fun t k => XS.astore X101.here hx rfl (hb hby at_63) rfl rfl (l' := #[.val (.int x0), .val (.int x1), .val (.int x2), .val (.int x3), .val (.int x4), .val (.int x5), .val (.int (0 : Int32)), .val (.int c0), .val (.int c1), .val (.int c2), .val (.int c3), .val (.ref a3), .unset, .unset, .unset, .unset]) rfl k) ?_
      show own_G p e below s (own_Q0 n0) 16 128 (T101.setTop (mkF m 65 #[.val (.int x0), .val (.int x1), .val (.int x2), .val (.int x3), .val (.int x4), .val (.int x5), .val (.int (0 : Int32)), .val (.int c0), .val (.int c1), .val (.int c2), .val (.int c3), .val (.ref a3), .unset, .unset, .unset, .unset] []))
      refine own_go (fun t k => XS.iload X101.here hx rfl (hb hby at_65) rfl k) ?_
      show own_G p e below s (own_Q0 n0) 16 128 (T101.setTop (mkF m 67 #[.val (.int x0), .val (.int x1), .val (.int x2), .val (.int x3), .val (.int x4), .val (.int x5), .val (.int (0 : Int32)), .val (.int c0), .val (.int c1), .val (.int c2), .val (.int c3), .val (.ref a3), .unset, .unset, .unset, .unset] [(.int (0 : Int32))]))
      refine own_go (fun t k => XS.ifYes X101.here hx rfl (pc0 := 67) (pc' := 76) rfl (hb hby at_67) rfl (XT.i0_le_t (by decide)) (by decide) (by decide) k) ?_
      show own_G p e below s (own_Q0 n0) 16 128 (T101.setTop (mkF m 76 #[.val (.int x0), .val (.int x1), .val (.int x2), .val (.int x3), .val (.int x4), .val (.int x5), .val (.int (0 : Int32)), .val (.int c0), .val (.int c1), .val (.int c2), .val (.int c3), .val (.ref a3), .unset, .unset, .unset, .unset] []))
      refine own_go (fun t k => XS.iload X101.here hx rfl (hb hby at_76) rfl k) ?_
      show own_G p e below s (own_Q0 n0) 16 128 (T101.setTop (mkF m 78 #[.val (.int x0), .val (.int x1), .val (.int x2), .val (.int x3), .val (.int x4), .val (.int x5), .val (.int (0 : Int32)), .val (.int c0), .val (.int c1), .val (.int c2), .val (.int c3), .val (.ref a3), .unset, .unset, .unset, .unset] [(.int (0 : Int32))]))
      refine own_go (fun t k => XS.iconst X101.here hx rfl (hb hby at_78) k) ?_
      show own_G p e below s (own_Q0 n0) 16 128 (T101.setTop (mkF m 79 #[.val (.int x0), .val (.int x1), .val (.int x2), .val (.int x3), .val (.int x4), .val (.int x5), .val (.int (0 : Int32)), .val (.int c0), .val (.int c1), .val (.int c2), .val (.int c3), .val (.ref a3), .unset, .unset, .unset, .unset] [(.int (1 : Int32)), (.int (0 : Int32))]))
      refine own_go (fun t k => XS.icmpYes X101.here hx rfl (pc0 := 79) (pc' := 88) rfl (hb hby at_79) rfl (XT.ii_le_t (by decide)) (by decide) (by decide) k) ?_
      show own_G p e below s (own_Q0 n0) 16 128 (T101.setTop (mkF m 88 #[.val (.int x0), .val (.int x1), .val (.int x2), .val (.int x3), .val (.int x4), .val (.int x5), .val (.int (0 : Int32)), .val (.int c0), .val (.int c1), .val (.int c2), .val (.int c3), .val (.ref a3), .unset, .unset, .unset, .unset] []))
      refine own_go (fun t k => XS.iload X101.here hx rfl (hb hby at_88) rfl k) ?_
      show own_G p e below s (own_Q0 n0) 16 128 (T101.setTop (mkF m 90 #[.val (.int x0), .val (.int x1), .val (.int x2), .val (.int x3), .val (.int x4), .val (.int x5), .val (.int (0 : Int32)), .val (.int c0), .val (.int c1), .val (.int c2), .val (.int c3), .val (.ref a3), .unset, .unset, .unset, .unset] [(.int (0 : Int32))]))
      refine own_go (fun t k => XS.iconst X101.here hx rfl (hb hby at_90) k) ?_
      show own_G p e below s (own_Q0 n0) 16 128 (T101.setTop (mkF m 91 #[.val (.int x0), .val (.int x1), .val (.int x2), .val (.int x3), .val (.int x4), .val (.int x5), .val (.int (0 : Int32)), .val (.int c0), .val (.int c1), .val (.int c2), .val (.int c3), .val (.ref a3), .unset, .unset, .unset, .unset] [(.int (2 : Int32)), (.int (0 : Int32))]))
      refine own_go (fun t k => XS.icmpYes X101.here hx rfl (pc0 := 91) (pc' := 100) rfl (hb hby at_91) rfl (XT.ii_le_t (by decide)) (by decide) (by decide) k) ?_
      show own_G p e below s (own_Q0 n0) 16 128 (T101.setTop (mkF m 100 #[.val (.int x0), .val (.int x1), .val (.int x2), .val (.int x3), .val (.int x4), .val (.int x5), .val (.int (0 : Int32)), .val (.int c0), .val (.int c1), .val (.int c2), .val (.int c3), .val (.ref a3), .unset, .unset, .unset, .unset] []))
      refine own_go (fun t k => XS.iload X101.here hx rfl (hb hby at_100) rfl k) ?_
      show own_G p e below s (own_Q0 n0) 16 128 (T101.setTop (mkF m 102 #[.val (.int x0), .val (.int x1), .val (.int x2), .val (.int x3), .val (.int x4), .val (.int x5), .val (.int (0 : Int32)), .val (.int c0), .val (.int c1), .val (.int c2), .val (.int c3), .val (.ref a3), .unset, .unset, .unset, .unset] [(.int (0 : Int32))]))
      refine own_go (fun t k => XS.iconst X101.here hx rfl (hb hby at_102) k) ?_
      show own_G p e below s (own_Q0 n0) 16 128 (T101.setTop (mkF m 103 #[.val (.int x0), .val (.int x1), .val (.int x2), .val (.int x3), .val (.int x4), .val (.int x5), .val (.int (0 : Int32)), .val (.int c0), .val (.int c1), .val (.int c2), .val (.int c3), .val (.ref a3), .unset, .unset, .unset, .unset] [(.int (3 : Int32)), (.int (0 : Int32))]))
      refine own_go (fun t k => XS.icmpYes X101.here hx rfl (pc0 := 103) (pc' := 112) rfl (hb hby at_103) rfl (XT.ii_le_t (by decide)) (by decide) (by decide) k) ?_
      show own_G p e below s (own_Q0 n0) 16 128 (T101.setTop (mkF m 112 #[.val (.int x0), .val (.int x1), .val (.int x2), .val (.int x3), .val (.int x4), .val (.int x5), .val (.int (0 : Int32)), .val (.int c0), .val (.int c1), .val (.int c2), .val (.int c3), .val (.ref a3), .unset, .unset, .unset, .unset] []))
      refine own_go (fun t k => XS.iload X101.here hx rfl (hb hby at_112) rfl k) ?_
      show own_G p e below s (own_Q0 n0) 16 128 (T101.setTop (mkF m 114 #[.val (.int x0), .val (.int x1), .val (.int x2), .val (.int x3), .val (.int x4), .val (.int x5), .val (.int (0 : Int32)), .val (.int c0), .val (.int c1), .val (.int c2), .val (.int c3), .val (.ref a3), .unset, .unset, .unset, .unset] [(.int c0)]))
      refine own_go (fun t k => XS.sipush X101.here hx rfl (hb hby at_114) k) ?_
      show own_G p e below s (own_Q0 n0) 16 128 (T101.setTop (mkF m 117 #[.val (.int x0), .val (.int x1), .val (.int x2), .val (.int x3), .val (.int x4), .val (.int x5), .val (.int (0 : Int32)), .val (.int c0), .val (.int c1), .val (.int c2), .val (.int c3), .val (.ref a3), .unset, .unset, .unset, .unset] [(.int (255 : Int32)), (.int c0)]))
      refine own_go (fun t k => XS.iand X101.here hx rfl (hb hby at_117) rfl k) ?_
      show own_G p e below s (own_Q0 n0) 16 128 (T101.setTop (mkF m 118 #[.val (.int x0), .val (.int x1), .val (.int x2), .val (.int x3), .val (.int x4), .val (.int x5), .val (.int (0 : Int32)), .val (.int c0), .val (.int c1), .val (.int c2), .val (.int c3), .val (.ref a3), .unset, .unset, .unset, .unset] [(.int (c0 &&& (255 : Int32)))]))
      refine own_go (fun t k => XS.bipush X101.here hx rfl (hb hby at_118) k) ?_
      show own_G p e below s (own_Q0 n0) 16 128 (T101.setTop (mkF m 120 #[.val (.int x0), .val (.int x1), .val (.int x2), .val (.int x3), .val (.int x4), .val (.int x5), .val (.int (0 : Int32)), .val (.int c0), .val (.int c1), .val (.int c2), .val (.int c3), .val (.ref a3), .unset, .unset, .unset, .unset] [(.int (16 : Int32)), (.int (c0 &&& (255 : Int32)))]))
      refine own_go (fun t k => XT.ishl X101.here hx rfl (hb hby at_120) rfl k) ?_
      show own_G p e below s (own_Q0 n0) 16 128 (T101.setTop (mkF m 121 #[.val (.int x0), .val (.int x1), .val (.int x2), .val (.int x3), .val (.int x4), .val (.int x5), .val (.int (0 : Int32)), .val (.int c0), .val (.int c1), .val (.int c2), .val (.int c3), .val (.ref a3), .unset, .unset, .unset, .unset] [(.int ((c0 &&& (255 : Int32)) <<< ((16 : Int32) &&& 31)))]))
      refine own_go (fun t k => XS.iload X101.here hx rfl (hb hby at_121) rfl k) ?_
      show own_G p e below s (own_Q0 n0) 16 128 (T101.setTop (mkF m 123 #[.val (.int x0), .val (.int x1), .val (.int x2), .val (.int x3), .val (.int x4), .val (.int x5), .val (.int (0 : Int32)), .val (.int c0), .val (.int c1), .val (.int c2), .val (.int c3), .val (.ref a3), .unset, .unset, .unset, .unset] [(.int c1), (.int ((c0 &&& (255 : Int32)) <<< ((16 : Int32) &&& 31)))]))
      refine own_go (fun t k => XS.sipush X101.here hx rfl (hb hby at_123) k) ?_
      show own_G p e below s (own_Q0 n0) 16 128 (T101.setTop (mkF m 126 #[.val (.int x0), .val (.int x1), .val (.int x2), .val (.int x3), .val (.int x4), .val (.int x5), .val (.int (0 : Int32)), .val (.int c0), .val (.int c1), .val (.int c2), .val (.int c3), .val (.ref a3), .unset, .unset, .unset, .unset] [(.int (255 : Int32)), (.int c1), (.int ((c0 &&& (255 : Int32)) <<< ((16 : Int32) &&& 31)))]))
      refine own_go (fun t k => XS.iand X101.here hx rfl (hb hby at_126) rfl k) ?_
      show own_G p e below s (own_Q0 n0) 16 128 (T101.setTop (mkF m 127 #[.val (.int x0), .val (.int x1), .val (.int x2), .val (.int x3), .val (.int x4), .val (.int x5), .val (.int (0 : Int32)), .val (.int c0), .val (.int c1), .val (.int c2), .val (.int c3), .val (.ref a3), .unset, .unset, .unset, .unset] [(.int (c1 &&& (255 : Int32))), (.int ((c0 &&& (255 : Int32)) <<< ((16 : Int32) &&& 31)))]))
      refine own_go (fun t k => XS.bipush X101.here hx rfl (hb hby at_127) k) ?_
      show own_G p e below s (own_Q0 n0) 16 128 (T101.setTop (mkF m 129 #[.val (.int x0), .val (.int x1), .val (.int x2), .val (.int x3), .val (.int x4), .val (.int x5), .val (.int (0 : Int32)), .val (.int c0), .val (.int c1), .val (.int c2), .val (.int c3), .val (.ref a3), .unset, .unset, .unset, .unset] [(.int (8 : Int32)), (.int (c1 &&& (255 : Int32))), (.int ((c0 &&& (255 : Int32)) <<< ((16 : Int32) &&& 31)))]))
      refine own_go (fun t k => XT.ishl X101.here hx rfl (hb hby at_129) rfl k) ?_
      show own_G p e below s (own_Q0 n0) 16 128 (T101.setTop (mkF m 130 #[.val (.int x0), .val (.int x1), .val (.int x2), .val (.int x3), .val (.int x4), .val (.int x5), .val (.int (0 : Int32)), .val (.int c0), .val (.int c1), .val (.int c2), .val (.int c3), .val (.ref a3), .unset, .unset, .unset, .unset] [(.int ((c1 &&& (255 : Int32)) <<< ((8 : Int32) &&& 31))), (.int ((c0 &&& (255 : Int32)) <<< ((16 : Int32) &&& 31)))]))
      refine own_go (fun t k => XT.ior X101.here hx rfl (hb hby at_130) rfl k) ?_
      show own_G p e below s (own_Q0 n0) 16 128 (T101.setTop (mkF m 131 #[.val (.int x0), .val (.int x1), .val (.int x2), .val (.int x3), .val (.int x4), .val (.int x5), .val (.int (0 : Int32)), .val (.int c0), .val (.int c1), .val (.int c2), .val (.int c3), .val (.ref a3), .unset, .unset, .unset, .unset] [(.int (((c0 &&& (255 : Int32)) <<< ((16 : Int32) &&& 31)) ||| ((c1 &&& (255 : Int32)) <<< ((8 : Int32) &&& 31))))]))
      refine own_go (fun t k => XS.iload X101.here hx rfl (hb hby at_131) rfl k) ?_
      show own_G p e below s (own_Q0 n0) 16 128 (T101.setTop (mkF m 133 #[.val (.int x0), .val (.int x1), .val (.int x2), .val (.int x3), .val (.int x4), .val (.int x5), .val (.int (0 : Int32)), .val (.int c0), .val (.int c1), .val (.int c2), .val (.int c3), .val (.ref a3), .unset, .unset, .unset, .unset] [(.int c2), (.int (((c0 &&& (255 : Int32)) <<< ((16 : Int32) &&& 31)) ||| ((c1 &&& (255 : Int32)) <<< ((8 : Int32) &&& 31))))]))
      refine own_go (fun t k => XS.sipush X101.here hx rfl (hb hby at_133) k) ?_
      show own_G p e below s (own_Q0 n0) 16 128 (T101.setTop (mkF m 136 #[.val (.int x0), .val (.int x1), .val (.int x2), .val (.int x3), .val (.int x4), .val (.int x5), .val (.int (0 : Int32)), .val (.int c0), .val (.int c1), .val (.int c2), .val (.int c3), .val (.ref a3), .unset, .unset, .unset, .unset] [(.int (255 : Int32)), (.int c2), (.int (((c0 &&& (255 : Int32)) <<< ((16 : Int32) &&& 31)) ||| ((c1 &&& (255 : Int32)) <<< ((8 : Int32) &&& 31))))]))
      refine own_go (fun t k => XS.iand X101.here hx rfl (hb hby at_136) rfl k) ?_
      show own_G p e below s (own_Q0 n0) 16 128 (T101.setTop (mkF m 137 #[.val (.int x0), .val (.int x1), .val (.int x2), .val (.int x3), .val (.int x4), .val (.int x5), .val (.int (0 : Int32)), .val (.int c0), .val (.int c1), .val (.int c2), .val (.int c3), .val (.ref a3), .unset, .unset, .unset, .unset] [(.int (c2 &&& (255 : Int32))), (.int (((c0 &&& (255 : Int32)) <<< ((16 : Int32) &&& 31)) ||| ((c1 &&& (255 : Int32)) <<< ((8 : Int32) &&& 31))))]))
      refine own_go (fun t k => XT.ior X101.here hx rfl (hb hby at_137) rfl k) ?_
      show own_G p e below s (own_Q0 n0) 16 128 (T101.setTop (mkF m 138 #[.val (.int x0), .val (.int x1), .val (.int x2), .val (.int x3), .val (.int x4), .val (.int x5), .val (.int (0 : Int32)), .val (.int c0), .val (.int c1), .val (.int c2), .val (.int c3), .val (.ref a3), .unset, .unset, .unset, .unset] [(.int ((((c0 &&& (255 : Int32)) <<< ((16 : Int32) &&& 31)) ||| ((c1 &&& (255 : Int32)) <<< ((8 : Int32) &&& 31))) ||| (c2 &&& (255 : Int32))))]))
      refine own_go (fun t k => XS.istore X101.here hx rfl (hb hby at_138) rfl (l' := #[.val (.int x0), .val (.int x1), .val (.int x2), .val (.int x3), .val (.int x4), .val (.int x5), .val (.int (0 : Int32)), .val (.int c0), .val (.int c1), .val (.int c2), .val (.int c3), .val (.ref a3), .val (.int ((((c0 &&& (255 : Int32)) <<< ((16 : Int32) &&& 31)) ||| ((c1 &&& (255 : Int32)) <<< ((8 : Int32) &&& 31))) ||| (c2 &&& (255 : Int32)))), .unset, .unset, .unset]) rfl k) ?_
      show own_G p e below s (own_Q0 n0) 16 128 (T101.setTop (mkF m 140 #[.val (.int x0), .val (.int x1), .val (.int x2), .val (.int x3), .val (.int x4), .val (.int x5), .val (.int (0 : Int32)), .val (.int c0), .val (.int c1), .val (.int c2), .val (.int c3), .val (.ref a3), .val (.int ((((c0 &&& (255 : Int32)) <<< ((16 : Int32) &&& 31)) ||| ((c1 &&& (255 : Int32)) <<< ((8 : Int32) &&& 31))) ||| (c2 &&& (255 : Int32)))), .unset, .unset, .unset] []))
      show own_G p e below s (own_Q0 n0) 16 128 (T101.setTop (mkF m 140 #[.val (.int x0), .val (.int x1), .val (.int x2), .val (.int x3), .val (.int x4), .val (.int x5), .val (.int (0 : Int32)), .val (.int c0), .val (.int c1), .val (.int c2), .val (.int c3), .val (.ref a3), .val (.int (own_id c0 c1 c2)), .unset, .unset, .unset] []))
      refine own_go (fun t k => XS.iload X101.here hx rfl (hb hby at_140) rfl k) ?_
      show own_G p e below s (own_Q0 n0) 16 128 (T101.setTop (mkF m 142 #[.val (.int x0), .val (.int x1), .val (.int x2), .val (.int x3), .val (.int x4), .val (.int x5), .val (.int (0 : Int32)), .val (.int c0), .val (.int c1), .val (.int c2), .val (.int c3), .val (.ref a3), .val (.int (own_id c0 c1 c2)), .unset, .unset, .unset] [(.int (0 : Int32))]))
      refine own_go (fun t k => XS.iconst X101.here hx rfl (hb hby at_142) k) ?_
      show own_G p e below s (own_Q0 n0) 16 128 (T101.setTop (mkF m 143 #[.val (.int x0), .val (.int x1), .val (.int x2), .val (.int x3), .val (.int x4), .val (.int x5), .val (.int (0 : Int32)), .val (.int c0), .val (.int c1), .val (.int c2), .val (.int c3), .val (.ref a3), .val (.int (own_id c0 c1 c2)), .unset, .unset, .unset] [(.int (3 : Int32)), (.int (0 : Int32))]))
      have J160 : ∀ (ex : Int32) (hex : own_sm (0 : Int32) c0 c1 c2 = ex), own_G p e below s (own_Q0 n0) 16 128 (T101.setTop (mkF m 160 #[.val (.int x0), .val (.int x1), .val (.int x2), .val (.int x3), .val (.int x4), .val (.int x5), .val (.int (0 : Int32)), .val (.int c0), .val (.int c1), .val (.int c2), .val (.int c3), .val (.ref a3), .val (.int (own_id c0 c1 c2)), .val (.int ex), .unset, .unset] [])) := by
        intro ex hex
        refine own_go (fun t k => XS.aload X101.here hx rfl (hb hby at_160) rfl rfl k) ?_
        show own_G p e below s (own_Q0 n0) 16 128 (T101.setTop (mkF m 162 #[.val (.int x0), .val (.int x1), .val (.int x2), .val (.int x3), .val (.int x4), .val (.int x5), .val (.int (0 : Int32)), .val (.int c0), .val (.int c1), .val (.int c2), .val (.int c3), .val (.ref a3), .val (.int (own_id c0 c1 c2)), .val (.int ex), .unset, .unset] [(.ref a3)]))
        obtain ⟨_, _, ⟨T102, L102, k102, n102⟩, -, X102, ⟨Lc102, hQ102, l102, y102, z102⟩, st102⟩ := Jvm.LawKit.callS X101 hx (y := (⟨"com/example/graphalog/graphalog/io/GzipMembers", "startsMember", "([B)Z"⟩ : MethodName)) hown (mvT hZ (hw _ (List.mem_of_getElem? (i := 2) rfl))) (mvT hZ (hw _ (List.mem_of_getElem? (i := 3) rfl))) (mvT hZ (hw _ (List.mem_of_getElem? (i := 4) rfl))) (mvT hZ (hw _ (List.mem_of_getElem? (i := 5) rfl))) (by decide) (backOf (W := 0) (rm1 l Z a0 hw [] a3 cA101 (0 : Int32) c0 c1 c2 [] h101 V101 (fun q => absurd (by decide) q) (fun q => absurd (by decide) q) (fun q => absurd (by decide) q)) hZ (hw _ (List.mem_of_getElem? (i := 5) rfl)) (hw _ (List.mem_of_getElem? (i := 4) rfl)) (by decide) (by decide)) (g := (mkF m 162 #[.val (.int x0), .val (.int x1), .val (.int x2), .val (.int x3), .val (.int x4), .val (.int x5), .val (.int (0 : Int32)), .val (.int c0), .val (.int c1), .val (.int c2), .val (.int c3), .val (.ref a3), .val (.int (own_id c0 c1 c2)), .val (.int ex), .unset, .unset] [(.ref a3)])) rfl (by rw [hml]; rfl) (argsL := [(.ref a3)]) (rest := []) (lenOf pd1 rfl) rfl (by show 2 * 0 + _ ≤ _; exact Nat.le_of_eq rfl) (hb hby at_162) (fun _ _ => ⟨rfl, e101, (by decide : 1 + 0 ≤ _), (by decide : 0 + 0 ≤ _)⟩)
        dsimp only [Pt.U, Pt.locs, Pt.cells, Pt.slots] at X102 l102 y102 z102 st102 hQ102
        subst l102 y102 z102
        obtain ⟨rfl, rfl, e102⟩ := hQ102
        refine own_go (st102) ?_
        show own_G p e below s (own_Q0 n0) 16 128 (T102.setTop (mkF m 165 #[.val (.int x0), .val (.int x1), .val (.int x2), .val (.int x3), .val (.int x4), .val (.int x5), .val (.int (0 : Int32)), .val (.int c0), .val (.int c1), .val (.int c2), .val (.int c3), .val (.ref a3), .val (.int (own_id c0 c1 c2)), .val (.int ex), .unset, .unset] [(.int (own_sm (0 : Int32) c0 c1 c2))]))
        refine own_go (fun t k => XS.istore X102.here hx rfl (hb hby at_165) rfl (l' := #[.val (.int x0), .val (.int x1), .val (.int x2), .val (.int x3), .val (.int x4), .val (.int x5), .val (.int (0 : Int32)), .val (.int c0), .val (.int c1), .val (.int c2), .val (.int c3), .val (.ref a3), .val (.int (own_id c0 c1 c2)), .val (.int ex), .val (.int (own_sm (0 : Int32) c0 c1 c2)), .unset]) rfl k) ?_
        show own_G p e below s (own_Q0 n0) 16 128 (T102.setTop (mkF m 167 #[.val (.int x0), .val (.int x1), .val (.int x2), .val (.int x3), .val (.int x4), .val (.int x5), .val (.int (0 : Int32)), .val (.int c0), .val (.int c1), .val (.int c2), .val (.int c3), .val (.ref a3), .val (.int (own_id c0 c1 c2)), .val (.int ex), .val (.int (own_sm (0 : Int32) c0 c1 c2)), .unset] []))
        refine own_go (fun t k => XS.iload X102.here hx rfl (hb hby at_167) rfl k) ?_
        show own_G p e below s (own_Q0 n0) 16 128 (T102.setTop (mkF m 169 #[.val (.int x0), .val (.int x1), .val (.int x2), .val (.int x3), .val (.int x4), .val (.int x5), .val (.int (0 : Int32)), .val (.int c0), .val (.int c1), .val (.int c2), .val (.int c3), .val (.ref a3), .val (.int (own_id c0 c1 c2)), .val (.int ex), .val (.int (own_sm (0 : Int32) c0 c1 c2)), .unset] [(.int (0 : Int32))]))
        refine own_go (fun t k => XS.iconst X102.here hx rfl (hb hby at_169) k) ?_
        show own_G p e below s (own_Q0 n0) 16 128 (T102.setTop (mkF m 170 #[.val (.int x0), .val (.int x1), .val (.int x2), .val (.int x3), .val (.int x4), .val (.int x5), .val (.int (0 : Int32)), .val (.int c0), .val (.int c1), .val (.int c2), .val (.int c3), .val (.ref a3), .val (.int (own_id c0 c1 c2)), .val (.int ex), .val (.int (own_sm (0 : Int32) c0 c1 c2)), .unset] [(.int (1 : Int32)), (.int (0 : Int32))]))
        refine own_go (fun t k => XS.icmpYes X102.here hx rfl (pc0 := 170) (pc' := 182) rfl (hb hby at_170) rfl (XT.ii_lt_t (by decide)) (by decide) (by decide) k) ?_
        show own_G p e below s (own_Q0 n0) 16 128 (T102.setTop (mkF m 182 #[.val (.int x0), .val (.int x1), .val (.int x2), .val (.int x3), .val (.int x4), .val (.int x5), .val (.int (0 : Int32)), .val (.int c0), .val (.int c1), .val (.int c2), .val (.int c3), .val (.ref a3), .val (.int (own_id c0 c1 c2)), .val (.int ex), .val (.int (own_sm (0 : Int32) c0 c1 c2)), .unset] []))
        refine own_go (fun t k => XS.iload X102.here hx rfl (hb hby at_182) rfl k) ?_
        show own_G p e below s (own_Q0 n0) 16 128 (T102.setTop (mkF m 184 #[.val (.int x0), .val (.int x1), .val (.int x2), .val (.int x3), .val (.int x4), .val (.int x5), .val (.int (0 : Int32)), .val (.int c0), .val (.int c1), .val (.int c2), .val (.int c3), .val (.ref a3), .val (.int (own_id c0 c1 c2)), .val (.int ex), .val (.int (own_sm (0 : Int32) c0 c1 c2)), .unset] [(.int (0 : Int32))]))
        refine own_go (fun t k => XS.iconst X102.here hx rfl (hb hby at_184) k) ?_
        show own_G p e below s (own_Q0 n0) 16 128 (T102.setTop (mkF m 185 #[.val (.int x0), .val (.int x1), .val (.int x2), .val (.int x3), .val (.int x4), .val (.int x5), .val (.int (0 : Int32)), .val (.int c0), .val (.int c1), .val (.int c2), .val (.int c3), .val (.ref a3), .val (.int (own_id c0 c1 c2)), .val (.int ex), .val (.int (own_sm (0 : Int32) c0 c1 c2)), .unset] [(.int (2 : Int32)), (.int (0 : Int32))]))
        refine own_go (fun t k => XS.icmpYes X102.here hx rfl (pc0 := 185) (pc' := 197) rfl (hb hby at_185) rfl (XT.ii_lt_t (by decide)) (by decide) (by decide) k) ?_
        show own_G p e below s (own_Q0 n0) 16 128 (T102.setTop (mkF m 197 #[.val (.int x0), .val (.int x1), .val (.int x2), .val (.int x3), .val (.int x4), .val (.int x5), .val (.int (0 : Int32)), .val (.int c0), .val (.int c1), .val (.int c2), .val (.int c3), .val (.ref a3), .val (.int (own_id c0 c1 c2)), .val (.int ex), .val (.int (own_sm (0 : Int32) c0 c1 c2)), .unset] []))
        refine own_go (fun t k => XS.iload X102.here hx rfl (hb hby at_197) rfl k) ?_
        show own_G p e below s (own_Q0 n0) 16 128 (T102.setTop (mkF m 199 #[.val (.int x0), .val (.int x1), .val (.int x2), .val (.int x3), .val (.int x4), .val (.int x5), .val (.int (0 : Int32)), .val (.int c0), .val (.int c1), .val (.int c2), .val (.int c3), .val (.ref a3), .val (.int (own_id c0 c1 c2)), .val (.int ex), .val (.int (own_sm (0 : Int32) c0 c1 c2)), .unset] [(.int (0 : Int32))]))
        refine own_go (fun t k => XS.iconst X102.here hx rfl (hb hby at_199) k) ?_
        show own_G p e below s (own_Q0 n0) 16 128 (T102.setTop (mkF m 200 #[.val (.int x0), .val (.int x1), .val (.int x2), .val (.int x3), .val (.int x4), .val (.int x5), .val (.int (0 : Int32)), .val (.int c0), .val (.int c1), .val (.int c2), .val (.int c3), .val (.ref a3), .val (.int (own_id c0 c1 c2)), .val (.int ex), .val (.int (own_sm (0 : Int32) c0 c1 c2)), .unset] [(.int (3 : Int32)), (.int (0 : Int32))]))
        refine own_go (fun t k => XS.icmpYes X102.here hx rfl (pc0 := 200) (pc' := 212) rfl (hb hby at_200) rfl (XT.ii_lt_t (by decide)) (by decide) (by decide) k) ?_
        show own_G p e below s (own_Q0 n0) 16 128 (T102.setTop (mkF m 212 #[.val (.int x0), .val (.int x1), .val (.int x2), .val (.int x3), .val (.int x4), .val (.int x5), .val (.int (0 : Int32)), .val (.int c0), .val (.int c1), .val (.int c2), .val (.int c3), .val (.ref a3), .val (.int (own_id c0 c1 c2)), .val (.int ex), .val (.int (own_sm (0 : Int32) c0 c1 c2)), .unset] []))
        refine own_go (fun t k => XS.iload X102.here hx rfl (hb hby at_212) rfl k) ?_
        show own_G p e below s (own_Q0 n0) 16 128 (T102.setTop (mkF m 214 #[.val (.int x0), .val (.int x1), .val (.int x2), .val (.int x3), .val (.int x4), .val (.int x5), .val (.int (0 : Int32)), .val (.int c0), .val (.int c1), .val (.int c2), .val (.int c3), .val (.ref a3), .val (.int (own_id c0 c1 c2)), .val (.int ex), .val (.int (own_sm (0 : Int32) c0 c1 c2)), .unset] [(.int (0 : Int32))]))
        refine own_go (fun t k => XS.iconst X102.here hx rfl (hb hby at_214) k) ?_
        show own_G p e below s (own_Q0 n0) 16 128 (T102.setTop (mkF m 215 #[.val (.int x0), .val (.int x1), .val (.int x2), .val (.int x3), .val (.int x4), .val (.int x5), .val (.int (0 : Int32)), .val (.int c0), .val (.int c1), .val (.int c2), .val (.int c3), .val (.ref a3), .val (.int (own_id c0 c1 c2)), .val (.int ex), .val (.int (own_sm (0 : Int32) c0 c1 c2)), .unset] [(.int (4 : Int32)), (.int (0 : Int32))]))
        refine own_go (fun t k => XS.icmpYes X102.here hx rfl (pc0 := 215) (pc' := 227) rfl (hb hby at_215) rfl (XT.ii_lt_t (by decide)) (by decide) (by decide) k) ?_
        show own_G p e below s (own_Q0 n0) 16 128 (T102.setTop (mkF m 227 #[.val (.int x0), .val (.int x1), .val (.int x2), .val (.int x3), .val (.int x4), .val (.int x5), .val (.int (0 : Int32)), .val (.int c0), .val (.int c1), .val (.int c2), .val (.int c3), .val (.ref a3), .val (.int (own_id c0 c1 c2)), .val (.int ex), .val (.int (own_sm (0 : Int32) c0 c1 c2)), .unset] []))
        refine own_go (fun t k => XS.iconst X102.here hx rfl (hb hby at_227) k) ?_
        show own_G p e below s (own_Q0 n0) 16 128 (T102.setTop (mkF m 228 #[.val (.int x0), .val (.int x1), .val (.int x2), .val (.int x3), .val (.int x4), .val (.int x5), .val (.int (0 : Int32)), .val (.int c0), .val (.int c1), .val (.int c2), .val (.int c3), .val (.ref a3), .val (.int (own_id c0 c1 c2)), .val (.int ex), .val (.int (own_sm (0 : Int32) c0 c1 c2)), .unset] [(.int (1 : Int32))]))
        refine own_go (fun t k => XS.goto X102.here hx rfl (pc0 := 228) (pc' := 232) rfl (hb hby at_228) (by decide) (by decide) k) ?_
        show own_G p e below s (own_Q0 n0) 16 128 (T102.setTop (mkF m 232 #[.val (.int x0), .val (.int x1), .val (.int x2), .val (.int x3), .val (.int x4), .val (.int x5), .val (.int (0 : Int32)), .val (.int c0), .val (.int c1), .val (.int c2), .val (.int c3), .val (.ref a3), .val (.int (own_id c0 c1 c2)), .val (.int ex), .val (.int (own_sm (0 : Int32) c0 c1 c2)), .unset] [(.int (1 : Int32))]))
        refine own_go (fun t k => XS.istore X102.here hx rfl (hb hby at_232) rfl (l' := #[.val (.int x0), .val (.int x1), .val (.int x2), .val (.int x3), .val (.int x4), .val (.int x5), .val (.int (0 : Int32)), .val (.int c0), .val (.int c1), .val (.int c2), .val (.int c3), .val (.ref a3), .val (.int (own_id c0 c1 c2)), .val (.int ex), .val (.int (own_sm (0 : Int32) c0 c1 c2)), .val (.int (1 : Int32))]) rfl k) ?_
        show own_G p e below s (own_Q0 n0) 16 128 (T102.setTop (mkF m 234 #[.val (.int x0), .val (.int x1), .val (.int x2), .val (.int x3), .val (.int x4), .val (.int x5), .val (.int (0 : Int32)), .val (.int c0), .val (.int c1), .val (.int c2), .val (.int c3), .val (.ref a3), .val (.int (own_id c0 c1 c2)), .val (.int ex), .val (.int (own_sm (0 : Int32) c0 c1 c2)), .val (.int (1 : Int32))] []))
        refine own_go (fun t k => XS.iload X102.here hx rfl (hb hby at_234) rfl k) ?_
        show own_G p e below s (own_Q0 n0) 16 128 (T102.setTop (mkF m 236 #[.val (.int x0), .val (.int x1), .val (.int x2), .val (.int x3), .val (.int x4), .val (.int x5), .val (.int (0 : Int32)), .val (.int c0), .val (.int c1), .val (.int c2), .val (.int c3), .val (.ref a3), .val (.int (own_id c0 c1 c2)), .val (.int ex), .val (.int (own_sm (0 : Int32) c0 c1 c2)), .val (.int (1 : Int32))] [(.int (own_sm (0 : Int32) c0 c1 c2))]))
        refine own_go (fun t k => XS.iload X102.here hx rfl (hb hby at_236) rfl k) ?_
        show own_G p e below s (own_Q0 n0) 16 128 (T102.setTop (mkF m 238 #[.val (.int x0), .val (.int x1), .val (.int x2), .val (.int x3), .val (.int x4), .val (.int x5), .val (.int (0 : Int32)), .val (.int c0), .val (.int c1), .val (.int c2), .val (.int c3), .val (.ref a3), .val (.int (own_id c0 c1 c2)), .val (.int ex), .val (.int (own_sm (0 : Int32) c0 c1 c2)), .val (.int (1 : Int32))] [(.int ex), (.int (own_sm (0 : Int32) c0 c1 c2))]))
        refine own_go (fun t k => XS.icmpNo X102.here hx rfl (hb hby at_238) rfl (XT.ii_ne_f hex) k) ?_
        show own_G p e below s (own_Q0 n0) 16 128 (T102.setTop (mkF m 241 #[.val (.int x0), .val (.int x1), .val (.int x2), .val (.int x3), .val (.int x4), .val (.int x5), .val (.int (0 : Int32)), .val (.int c0), .val (.int c1), .val (.int c2), .val (.int c3), .val (.ref a3), .val (.int (own_id c0 c1 c2)), .val (.int ex), .val (.int (own_sm (0 : Int32) c0 c1 c2)), .val (.int (1 : Int32))] []))
        refine own_go (fun t k => XS.iload X102.here hx rfl (hb hby at_241) rfl k) ?_
        show own_G p e below s (own_Q0 n0) 16 128 (T102.setTop (mkF m 243 #[.val (.int x0), .val (.int x1), .val (.int x2), .val (.int x3), .val (.int x4), .val (.int x5), .val (.int (0 : Int32)), .val (.int c0), .val (.int c1), .val (.int c2), .val (.int c3), .val (.ref a3), .val (.int (own_id c0 c1 c2)), .val (.int ex), .val (.int (own_sm (0 : Int32) c0 c1 c2)), .val (.int (1 : Int32))] [(.int (1 : Int32))]))
        refine own_go (fun t k => XS.ifNo X102.here hx rfl (hb hby at_243) rfl (XT.i0_eq_f (by decide)) k) ?_
        show own_G p e below s (own_Q0 n0) 16 128 (T102.setTop (mkF m 246 #[.val (.int x0), .val (.int x1), .val (.int x2), .val (.int x3), .val (.int x4), .val (.int x5), .val (.int (0 : Int32)), .val (.int c0), .val (.int c1), .val (.int c2), .val (.int c3), .val (.ref a3), .val (.int (own_id c0 c1 c2)), .val (.int ex), .val (.int (own_sm (0 : Int32) c0 c1 c2)), .val (.int (1 : Int32))] []))
        refine own_go (fun t k => XS.aload X102.here hx rfl (hb hby at_246) rfl rfl k) ?_
        show own_G p e below s (own_Q0 n0) 16 128 (T102.setTop (mkF m 248 #[.val (.int x0), .val (.int x1), .val (.int x2), .val (.int x3), .val (.int x4), .val (.int x5), .val (.int (0 : Int32)), .val (.int c0), .val (.int c1), .val (.int c2), .val (.int c3), .val (.ref a3), .val (.int (own_id c0 c1 c2)), .val (.int ex), .val (.int (own_sm (0 : Int32) c0 c1 c2)), .val (.int (1 : Int32))] [(.ref a3)]))
        refine own_go (own_len X102 hx hZ e102 V101 (g := (mkF m 248 #[.val (.int x0), .val (.int x1), .val (.int x2), .val (.int x3), .val (.int x4), .val (.int x5), .val (.int (0 : Int32)), .val (.int c0), .val (.int c1), .val (.int c2), .val (.int c3), .val (.ref a3), .val (.int (own_id c0 c1 c2)), .val (.int ex), .val (.int (own_sm (0 : Int32) c0 c1 c2)), .val (.int (1 : Int32))] [(.ref a3)])) rfl rfl (hb hby at_248)) ?_
        show own_G p e below s (own_Q0 n0) 16 128 (T102.setTop (mkF m 249 #[.val (.int x0), .val (.int x1), .val (.int x2), .val (.int x3), .val (.int x4), .val (.int x5), .val (.int (0 : Int32)), .val (.int c0), .val (.int c1), .val (.int c2), .val (.int c3), .val (.ref a3), .val (.int (own_id c0 c1 c2)), .val (.int ex), .val (.int (own_sm (0 : Int32) c0 c1 c2)), .val (.int (1 : Int32))] [(.int (0 : Int32))]))
        refine own_go (fun t k => XS.iload X102.here hx rfl (hb hby at_249) rfl k) ?_
        show own_G p e below s (own_Q0 n0) 16 128 (T102.setTop (mkF m 251 #[.val (.int x0), .val (.int x1), .val (.int x2), .val (.int x3), .val (.int x4), .val (.int x5), .val (.int (0 : Int32)), .val (.int c0), .val (.int c1), .val (.int c2), .val (.int c3), .val (.ref a3), .val (.int (own_id c0 c1 c2)), .val (.int ex), .val (.int (own_sm (0 : Int32) c0 c1 c2)), .val (.int (1 : Int32))] [(.int (0 : Int32)), (.int (0 : Int32))]))
        refine own_go (fun t k => XS.icmpNo X102.here hx rfl (hb hby at_251) rfl (XT.ii_ne_f rfl) k) ?_
        show own_G p e below s (own_Q0 n0) 16 128 (T102.setTop (mkF m 254 #[.val (.int x0), .val (.int x1), .val (.int x2), .val (.int x3), .val (.int x4), .val (.int x5), .val (.int (0 : Int32)), .val (.int c0), .val (.int c1), .val (.int c2), .val (.int c3), .val (.ref a3), .val (.int (own_id c0 c1 c2)), .val (.int ex), .val (.int (own_sm (0 : Int32) c0 c1 c2)), .val (.int (1 : Int32))] []))
        refine own_go (fun t k => XS.iconst X102.here hx rfl (hb hby at_254) k) ?_
        show own_G p e below s (own_Q0 n0) 16 128 (T102.setTop (mkF m 255 #[.val (.int x0), .val (.int x1), .val (.int x2), .val (.int x3), .val (.int x4), .val (.int x5), .val (.int (0 : Int32)), .val (.int c0), .val (.int c1), .val (.int c2), .val (.int c3), .val (.ref a3), .val (.int (own_id c0 c1 c2)), .val (.int ex), .val (.int (own_sm (0 : Int32) c0 c1 c2)), .val (.int (1 : Int32))] [(.int (1 : Int32))]))
        refine own_go (fun t k => XS.goto X102.here hx rfl (pc0 := 255) (pc' := 259) rfl (hb hby at_255) (by decide) (by decide) k) ?_
        show own_G p e below s (own_Q0 n0) 16 128 (T102.setTop (mkF m 259 #[.val (.int x0), .val (.int x1), .val (.int x2), .val (.int x3), .val (.int x4), .val (.int x5), .val (.int (0 : Int32)), .val (.int c0), .val (.int c1), .val (.int c2), .val (.int c3), .val (.ref a3), .val (.int (own_id c0 c1 c2)), .val (.int ex), .val (.int (own_sm (0 : Int32) c0 c1 c2)), .val (.int (1 : Int32))] [(.int (1 : Int32))]))
        exact own_leave X102 (some (.int (1 : Int32))) (fun h => by rw [Bd.returns] at h; cases h) Bd.notSynchronized (fun fs hr => retN X102 hx (t := .boolean) Bd.returns (by simp) (hb hby at_259) hr) ⟨rfl, (Fr.app (Fr.nil n0) (Fr.nil n0))⟩ (by decide) (by decide)
      refine own_go (fun t k => XS.icmpYes X101.here hx rfl (pc0 := 143) (pc' := 157) rfl (hb hby at_143) rfl (XT.ii_lt_t (by decide)) (by decide) (by decide) k) ?_
      show own_G p e below s (own_Q0 n0) 16 128 (T101.setTop (mkF m 157 #[.val (.int x0), .val (.int x1), .val (.int x2), .val (.int x3), .val (.int x4), .val (.int x5), .val (.int (0 : Int32)), .val (.int c0), .val (.int c1), .val (.int c2), .val (.int c3), .val (.ref a3), .val (.int (own_id c0 c1 c2)), .unset, .unset, .unset] []))
      refine own_go (fun t k => XS.iconst X101.here hx rfl (hb hby at_157) k) ?_
      show own_G p e below s (own_Q0 n0) 16 128 (T101.setTop (mkF m 158 #[.val (.int x0), .val (.int x1), .val (.int x2), .val (.int x3), .val (.int x4), .val (.int x5), .val (.int (0 : Int32)), .val (.int c0), .val (.int c1), .val (.int c2), .val (.int c3), .val (.ref a3), .val (.int (own_id c0 c1 c2)), .unset, .unset, .unset] [(.int (0 : Int32))]))
      refine own_go (fun t k => XS.istore X101.here hx rfl (hb hby at_158) rfl (l' := #[.val (.int x0), .val (.int x1), .val (.int x2), .val (.int x3), .val (.int x4), .val (.int x5), .val (.int (0 : Int32)), .val (.int c0), .val (.int c1), .val (.int c2), .val (.int c3), .val (.ref a3), .val (.int (own_id c0 c1 c2)), .val (.int (0 : Int32)), .unset, .unset]) rfl k) ?_
      show own_G p e below s (own_Q0 n0) 16 128 (T101.setTop (mkF m 160 #[.val (.int x0), .val (.int x1), .val (.int x2), .val (.int x3), .val (.int x4), .val (.int x5), .val (.int (0 : Int32)), .val (.int c0), .val (.int c1), .val (.int c2), .val (.int c3), .val (.ref a3), .val (.int (own_id c0 c1 c2)), .val (.int (0 : Int32)), .unset, .unset] []))
      exact J160 _ (own_sm_s (by decide))
    · skip
      show own_G p e below s (own_Q0 n0) 16 128 (s₁.setTop (mkF m 59 #[.val (.int x0), .val (.int x1), .val (.int x2), .val (.int x3), .val (.int x4), .val (.int x5), .val (.int (1 : Int32)), .val (.int c0), .val (.int c1), .val (.int c2), .val (.int c3), .unset, .unset, .unset, .unset, .unset] []))
      refine own_go (fun t k => XS.iload X0.here hx rfl (hb hby at_59) rfl k) ?_
      show own_G p e below s (own_Q0 n0) 16 128 (s₁.setTop (mkF m 61 #[.val (.int x0), .val (.int x1), .val (.int x2), .val (.int x3), .val (.int x4), .val (.int x5), .val (.int (1 : Int32)), .val (.int c0), .val (.int c1), .val (.int c2), .val (.int c3), .unset, .unset, .unset, .unset, .unset] [(.int (1 : Int32))]))
      obtain ⟨T103, h103, cA103, X103, e103, E103, A103, st103⟩ := newP X0 hx hZ (hw _ (List.mem_of_getElem? (i := 1) rfl)) e0 (g := (mkF m 61 #[.val (.int x0), .val (.int x1), .val (.int x2), .val (.int x3), .val (.int x4), .val (.int x5), .val (.int (1 : Int32)), .val (.int c0), .val (.int c1), .val (.int c2), .val (.int c3), .unset, .unset, .unset, .unset, .unset] [(.int (1 : Int32))])) rfl (hb hby at_61) rfl (by decide) (cap := 1) (by decide) (by decide) (by decide) (by decide)
      obtain ⟨a3, g103⟩ : ∃ z, z = h0.size := ⟨_, rfl⟩
      rw [← g103] at A103 st103
      have V103 : Arv Z h103 a3 cA103 .byte (1 : Int32) [(.int 0)] (.int 0) := (Arv.new A103 (by decide)).pad (pad_rep [] (.int 0) 1)
      refine own_go st103 ?_
      show own_G p e below s (own_Q0 n0) 16 128 (T103.setTop (mkF m 63 #[.val (.int x0), .val (.int x1), .val (.int x2), .val (.int x3), .val (.int x4), .val (.int x5), .val (.int (1 : Int32)), .val (.int c0), .val (.int c1), .val (.int c2), .val (.int c3), .unset, .unset, .unset, .unset, .unset] [(.ref a3)]))
      have g3 : n0 ≤ a3 := Nat.le_trans Z0 (Nat.le_of_eq g103.symm)
      refine own_go (fun t k => XS.astore X103.here hx rfl (hb hby at_63) rfl rfl (l' := #[.val (.int x0), .val (.int x1), .val (.int x2), .val (.int x3), .val (.int x4), .val (.int x5), .val (.int (1 : Int32)), .val (.int c0), .val (.int c1), .val (.int c2), .val (.int c3), .val (.ref a3), .unset, .unset, .unset, .unset]) rfl k) ?_
      show own_G p e below s (own_Q0 n0) 16 128 (T103.setTop (mkF m 65 #[.val (.int x0), .val (.int x1), .val (.int x2), .val (.int x3), .val (.int x4), .val (.int x5), .val (.int (1 : Int32)), .val (.int c0), .val (.int c1), .val (.int c2), .val (.int c3), .val (.ref a3), .unset, .unset, .unset, .unset] []))
      refine own_go (fun t k => XS.iload X103.here hx rfl (hb hby at_65) rfl k) ?_
      show own_G p e below s (own_Q0 n0) 16 128 (T103.setTop (mkF m 67 #[.val (.int x0), .val (.int x1), .val (.int x2), .val (.int x3), .val (.int x4), .val (.int x5), .val (.int (1 : Int32)), .val (.int c0), .val (.int c1), .val (.int c2), .val (.int c3), .val (.ref a3), .unset, .unset, .unset, .unset] [(.int (1 : Int32))]))
      refine own_go (fun t k => XS.ifNo X103.here hx rfl (hb hby at_67) rfl (XT.i0_le_f (by decide)) k) ?_
      show own_G p e below s (own_Q0 n0) 16 128 (T103.setTop (mkF m 70 #[.val (.int x0), .val (.int x1), .val (.int x2), .val (.int x3), .val (.int x4), .val (.int x5), .val (.int (1 : Int32)), .val (.int c0), .val (.int c1), .val (.int c2), .val (.int c3), .val (.ref a3), .unset, .unset, .unset, .unset] []))
      refine own_go (fun t k => XS.aload X103.here hx rfl (hb hby at_70) rfl rfl k) ?_
      show own_G p e below s (own_Q0 n0) 16 128 (T103.setTop (mkF m 72 #[.val (.int x0), .val (.int x1), .val (.int x2), .val (.int x3), .val (.int x4), .val (.int x5), .val (.int (1 : Int32)), .val (.int c0), .val (.int c1), .val (.int c2), .val (.int c3), .val (.ref a3), .unset, .unset, .unset, .unset] [(.ref a3)]))
      refine own_go (fun t k => XS.iconst X103.here hx rfl (hb hby at_72) k) ?_
      show own_G p e below s (own_Q0 n0) 16 128 (T103.setTop (mkF m 73 #[.val (.int x0), .val (.int x1), .val (.int x2), .val (.int x3), .val (.int x4), .val (.int x5), .val (.int (1 : Int32)), .val (.int c0), .val (.int c1), .val (.int c2), .val (.int c3), .val (.ref a3), .unset, .unset, .unset, .unset] [(.int (0 : Int32)), (.ref a3)]))
      refine own_go (fun t k => XS.iload X103.here hx rfl (hb hby at_73) rfl k) ?_
      show own_G p e below s (own_Q0 n0) 16 128 (T103.setTop (mkF m 75 #[.val (.int x0), .val (.int x1), .val (.int x2), .val (.int x3), .val (.int x4), .val (.int x5), .val (.int (1 : Int32)), .val (.int c0), .val (.int c1), .val (.int c2), .val (.int c3), .val (.ref a3), .unset, .unset, .unset, .unset] [(.int c0), (.int (0 : Int32)), (.ref a3)]))
      obtain ⟨T104, h104, X104, e104, W104, V104, st104⟩ := own_stB X103 hx hZ e103 V103 (j := (0 : Int32)) ⟨by decide, by decide⟩ 0 (by decide) (by simp) (vs' := [(.int c0)]) (by rw [m0]; rfl) (g := (mkF m 75 #[.val (.int x0), .val (.int x1), .val (.int x2), .val (.int x3), .val (.int x4), .val (.int x5), .val (.int (1 : Int32)), .val (.int c0), .val (.int c1), .val (.int c2), .val (.int c3), .val (.ref a3), .unset, .unset, .unset, .unset] [(.int c0), (.int (0 : Int32)), (.ref a3)])) rfl rfl (hb hby at_75)
      have N104 := Fr.snoc X104 (Fr.nil n0) g3
      refine own_go st104 ?_
      show own_G p e below s (own_Q0 n0) 16 128 (T104.setTop (mkF m 76 #[.val (.int x0), .val (.int x1), .val (.int x2), .val (.int x3), .val (.int x4), .val (.int x5), .val (.int (1 : Int32)), .val (.int c0), .val (.int c1), .val (.int c2), .val (.int c3), .val (.ref a3), .unset, .unset, .unset, .unset] []))
      refine own_go (fun t k => XS.iload X104.here hx rfl (hb hby at_76) rfl k) ?_
      show own_G p e below s (own_Q0 n0) 16 128 (T104.setTop (mkF m 78 #[.val (.int x0), .val (.int x1), .val (.int x2), .val (.int x3), .val (.int x4), .val (.int x5), .val (.int (1 : Int32)), .val (.int c0), .val (.int c1), .val (.int c2), .val (.int c3), .val (.ref a3), .unset, .unset, .unset, .unset] [(.int (1 : Int32))]))
      refine own_go (fun t k => XS.iconst X104.here hx rfl (hb hby at_78) k) ?_
      show own_G p e below s (own_Q0 n0) 16 128 (T104.setTop (mkF m 79 #[.val (.int x0), .val (.int x1), .val (.int x2), .val (.int x3), .val (.int x4), .val (.int x5), .val (.int (1 : Int32)), .val (.int c0), .val (.int c1), .val (.int c2), .val (.int c3), .val (.ref a3), .unset, .unset, .unset, .unset] [(.int (1 : Int32)), (.int (1 : Int32))]))
      refine own_go (fun t k => XS.icmpYes X104.here hx rfl (pc0 := 79) (pc' := 88) rfl (hb hby at_79) rfl (XT.ii_le_t (by decide)) (by decide) (by decide) k) ?_
      show own_G p e below s (own_Q0 n0) 16 128 (T104.setTop (mkF m 88 #[.val (.int x0), .val (.int x1), .val (.int x2), .val (.int x3), .val (.int x4), .val (.int x5), .val (.int (1 : Int32)), .val (.int c0), .val (.int c1), .val (.int c2), .val (.int c3), .val (.ref a3), .unset, .unset, .unset, .unset] []))
      refine own_go (fun t k => XS.iload X104.here hx rfl (hb hby at_88) rfl k) ?_
      show own_G p e below s (own_Q0 n0) 16 128 (T104.setTop (mkF m 90 #[.val (.int x0), .val (.int x1), .val (.int x2), .val (.int x3), .val (.int x4), .val (.int x5), .val (.int (1 : Int32)), .val (.int c0), .val (.int c1), .val (.int c2), .val (.int c3), .val (.ref a3), .unset, .unset, .unset, .unset] [(.int (1 : Int32))]))
      refine own_go (fun t k => XS.iconst X104.here hx rfl (hb hby at_90) k) ?_
      show own_G p e below s (own_Q0 n0) 16 128 (T104.setTop (mkF m 91 #[.val (.int x0), .val (.int x1), .val (.int x2), .val (.int x3), .val (.int x4), .val (.int x5), .val (.int (1 : Int32)), .val (.int c0), .val (.int c1), .val (.int c2), .val (.int c3), .val (.ref a3), .unset, .unset, .unset, .unset] [(.int (2 : Int32)), (.int (1 : Int32))]))
      refine own_go (fun t k => XS.icmpYes X104.here hx rfl (pc0 := 91) (pc' := 100) rfl (hb hby at_91) rfl (XT.ii_le_t (by decide)) (by decide) (by decide) k) ?_
      show own_G p e below s (own_Q0 n0) 16 128 (T104.setTop (mkF m 100 #[.val (.int x0), .val (.int x1), .val (.int x2), .val (.int x3), .val (.int x4), .val (.int x5), .val (.int (1 : Int32)), .val (.int c0), .val (.int c1), .val (.int c2), .val (.int c3), .val (.ref a3), .unset, .unset, .unset, .unset] []))
      refine own_go (fun t k => XS.iload X104.here hx rfl (hb hby at_100) rfl k) ?_
      show own_G p e below s (own_Q0 n0) 16 128 (T104.setTop (mkF m 102 #[.val (.int x0), .val (.int x1), .val (.int x2), .val (.int x3), .val (.int x4), .val (.int x5), .val (.int (1 : Int32)), .val (.int c0), .val (.int c1), .val (.int c2), .val (.int c3), .val (.ref a3), .unset, .unset, .unset, .unset] [(.int (1 : Int32))]))
      refine own_go (fun t k => XS.iconst X104.here hx rfl (hb hby at_102) k) ?_
      show own_G p e below s (own_Q0 n0) 16 128 (T104.setTop (mkF m 103 #[.val (.int x0), .val (.int x1), .val (.int x2), .val (.int x3), .val (.int x4), .val (.int x5), .val (.int (1 : Int32)), .val (.int c0), .val (.int c1), .val (.int c2), .val (.int c3), .val (.ref a3), .unset, .unset, .unset, .unset] [(.int (3 : Int32)), (.int (1 : Int32))]))
      refine own_go (fun t k => XS.icmpYes X104.here hx rfl (pc0 := 103) (pc' := 112) rfl (hb hby at_103) rfl (XT.ii_le_t (by decide)) (by decide) (by decide) k) ?_
      show own_G p e below s (own_Q0 n0) 16 128 (T104.setTop (mkF m 112 #[.val (.int x0), .val (.int x1), .val (.int x2), .val (.int x3), .val (.int x4), .val (.int x5), .val (.int (1 : Int32)), .val (.int c0), .val (.int c1), .val (.int c2), .val (.int c3), .val (.ref a3), .unset, .unset, .unset, .unset] []))
      refine own_go (fun t k => XS.iload X104.here hx rfl (hb hby at_112) rfl k) ?_
      show own_G p e below s (own_Q0 n0) 16 128 (T104.setTop (mkF m 114 #[.val (.int x0), .val (.int x1), .val (.int x2), .val (.int x3), .val (.int x4), .val (.int x5), .val (.int (1 : Int32)), .val (.int c0), .val (.int c1), .val (.int c2), .val (.int c3), .val (.ref a3), .unset, .unset, .unset, .unset] [(.int c0)]))
      refine own_go (fun t k => XS.sipush X104.here hx rfl (hb hby at_114) k) ?_
      show own_G p e below s (own_Q0 n0) 16 128 (T104.setTop (mkF m 117 #[.val (.int x0), .val (.int x1), .val (.int x2), .val (.int x3), .val (.int x4), .val (.int x5), .val (.int (1 : Int32)), .val (.int c0), .val (.int c1), .val (.int c2), .val (.int c3), .val (.ref a3), .unset, .unset, .unset, .unset] [(.int (255 : Int32)), (.int c0)]))
      refine own_go (fun t k => XS.iand X104.here hx rfl (hb hby at_117) rfl k) ?_
      show own_G p e below s (own_Q0 n0) 16 128 (T104.setTop (mkF m 118 #[.val (.int x0), .val (.int x1), .val (.int x2), .val (.int x3), .val (.int x4), .val (.int x5), .val (.int (1 : Int32)), .val (.int c0), .val (.int c1), .val (.int c2), .val (.int c3), .val (.ref a3), .unset, .unset, .unset, .unset] [(.int (c0 &&& (255 : Int32)))]))
      refine own_go (fun t k => XS.bipush X104.here hx rfl (hb hby at_118) k) ?_
      show own_G p e below s (own_Q0 n0) 16 128 (T104.setTop (mkF m 120 #[.val (.int x0), .val (.int x1), .val (.int x2), .val (.int x3), .val (.int x4), .val (.int x5), .val (.int (1 : Int32)), .val (.int c0), .val (.int c1), .val (.int c2), .val (.int c3), .val (.ref a3), .unset, .unset, .unset, .unset] [(.int (16 : Int32)), (.int (c0 &&& (255 : Int32)))]))
      refine own_go (fun t k => XT.ishl X104.here hx rfl (hb hby at_120) rfl k) ?_
      show own_G p e below s (own_Q0 n0) 16 128 (T104.setTop (mkF m 121 #[.val (.int x0), .val (.int x1), .val (.int x2), .val (.int x3), .val (.int x4), .val (.int x5), .val (.int (1 : Int32)), .val (.int c0), .val (.int c1), .val (.int c2), .val (.int c3), .val (.ref a3), .unset, .unset, .unset, .unset] [(.int ((c0 &&& (255 : Int32)) <<< ((16 : Int32) &&& 31)))]))
      refine own_go (fun t k => XS.iload X104.here hx rfl (hb hby at_121) rfl k) ?_
      show own_G p e below s (own_Q0 n0) 16 128 (T104.setTop (mkF m 123 #[.val (.int x0), .val (.int x1), .val (.int x2), .val (.int x3), .val (.int x4), .val (.int x5), .val (.int (1 : Int32)), .val (.int c0), .val (.int c1), .val (.int c2), .val (.int c3), .val (.ref a3), .unset, .unset, .unset, .unset] [(.int c1), (.int ((c0 &&& (255 : Int32)) <<< ((16 : Int32) &&& 31)))]))
      refine own_go (fun t k => XS.sipush X104.here hx rfl (hb hby at_123) k) ?_
      show own_G p e below s (own_Q0 n0) 16 128 (T104.setTop (mkF m 126 #[.val (.int x0), .val (.int x1), .val (.int x2), .val (.int x3), .val (.int x4), .val (.int x5), .val (.int (1 : Int32)), .val (.int c0), .val (.int c1), .val (.int c2), .val (.int c3), .val (.ref a3), .unset, .unset, .unset, .unset] [(.int (255 : Int32)), (.int c1), (.int ((c0 &&& (255 : Int32)) <<< ((16 : Int32) &&& 31)))]))
      refine own_go (fun t k => XS.iand X104.here hx rfl (hb hby at_126) rfl k) ?_
      show own_G p e below s (own_Q0 n0) 16 128 (T104.setTop (mkF m 127 #[.val (.int x0), .val (.int x1), .val (.int x2), .val (.int x3), .val (.int x4), .val (.int x5), .val (.int (1 : Int32)), .val (.int c0), .val (.int c1), .val (.int c2), .val (.int c3), .val (.ref a3), .unset, .unset, .unset, .unset] [(.int (c1 &&& (255 : Int32))), (.int ((c0 &&& (255 : Int32)) <<< ((16 : Int32) &&& 31)))]))
      refine own_go (fun t k => XS.bipush X104.here hx rfl (hb hby at_127) k) ?_
      show own_G p e below s (own_Q0 n0) 16 128 (T104.setTop (mkF m 129 #[.val (.int x0), .val (.int x1), .val (.int x2), .val (.int x3), .val (.int x4), .val (.int x5), .val (.int (1 : Int32)), .val (.int c0), .val (.int c1), .val (.int c2), .val (.int c3), .val (.ref a3), .unset, .unset, .unset, .unset] [(.int (8 : Int32)), (.int (c1 &&& (255 : Int32))), (.int ((c0 &&& (255 : Int32)) <<< ((16 : Int32) &&& 31)))]))
      refine own_go (fun t k => XT.ishl X104.here hx rfl (hb hby at_129) rfl k) ?_
      show own_G p e below s (own_Q0 n0) 16 128 (T104.setTop (mkF m 130 #[.val (.int x0), .val (.int x1), .val (.int x2), .val (.int x3), .val (.int x4), .val (.int x5), .val (.int (1 : Int32)), .val (.int c0), .val (.int c1), .val (.int c2), .val (.int c3), .val (.ref a3), .unset, .unset, .unset, .unset] [(.int ((c1 &&& (255 : Int32)) <<< ((8 : Int32) &&& 31))), (.int ((c0 &&& (255 : Int32)) <<< ((16 : Int32) &&& 31)))]))
      refine own_go (fun t k => XT.ior X104.here hx rfl (hb hby at_130) rfl k) ?_
      show own_G p e below s (own_Q0 n0) 16 128 (T104.setTop (mkF m 131 #[.val (.int x0), .val (.int x1), .val (.int x2), .val (.int x3), .val (.int x4), .val (.int x5), .val (.int (1 : Int32)), .val (.int c0), .val (.int c1), .val (.int c2), .val (.int c3), .val (.ref a3), .unset, .unset, .unset, .unset] [(.int (((c0 &&& (255 : Int32)) <<< ((16 : Int32) &&& 31)) ||| ((c1 &&& (255 : Int32)) <<< ((8 : Int32) &&& 31))))]))
      refine own_go (fun t k => XS.iload X104.here hx rfl (hb hby at_131) rfl k) ?_
      show own_G p e below s (own_Q0 n0) 16 128 (T104.setTop (mkF m 133 #[.val (.int x0), .val (.int x1), .val (.int x2), .val (.int x3), .val (.int x4), .val (.int x5), .val (.int (1 : Int32)), .val (.int c0), .val (.int c1), .val (.int c2), .val (.int c3), .val (.ref a3), .unset, .unset, .unset, .unset] [(.int c2), (.int (((c0 &&& (255 : Int32)) <<< ((16 : Int32) &&& 31)) ||| ((c1 &&& (255 : Int32)) <<< ((8 : Int32) &&& 31))))]))
      refine own_go (fun t k => XS.sipush X104.here hx rfl (hb hby at_133) k) ?_
      show own_G p e below s (own_Q0 n0) 16 128 (T104.setTop (mkF m 136 #[.val (.int x0), .val (.int x1), .val (.int x2), .val (.int x3), .val (.int x4), .val (.int x5), .val (.int (1 : Int32)), .val (.int c0), .val (.int c1), .val (.int c2), .val (.int c3), .val (.ref a3), .unset, .unset, .unset, .unset] [(.int (255 : Int32)), (.int c2), (.int (((c0 &&& (255 : Int32)) <<< ((16 : Int32) &&& 31)) ||| ((c1 &&& (255 : Int32)) <<< ((8 : Int32) &&& 31))))]))
      refine own_go (fun t k => XS.iand X104.here hx rfl (hb hby at_136) rfl k) ?_
      show own_G p e below s (own_Q0 n0) 16 128 (T104.setTop (mkF m 137 #[.val (.int x0), .val (.int x1), .val (.int x2), .val (.int x3), .val (.int x4), .val (.int x5), .val (.int (1 : Int32)), .val (.int c0), .val (.int c1), .val (.int c2), .val (.int c3), .val (.ref a3), .unset, .unset, .unset, .unset] [(.int (c2 &&& (255 : Int32))), (.int (((c0 &&& (255 : Int32)) <<< ((16 : Int32) &&& 31)) ||| ((c1 &&& (255 : Int32)) <<< ((8 : Int32) &&& 31))))]))
      refine own_go (fun t k => XT.ior X104.here hx rfl (hb hby at_137) rfl k) ?_
      show own_G p e below s (own_Q0 n0) 16 128 (T104.setTop (mkF m 138 #[.val (.int x0), .val (.int x1), .val (.int x2), .val (.int x3), .val (.int x4), .val (.int x5), .val (.int (1 : Int32)), .val (.int c0), .val (.int c1), .val (.int c2), .val (.int c3), .val (.ref a3), .unset, .unset, .unset, .unset] [(.int ((((c0 &&& (255 : Int32)) <<< ((16 : Int32) &&& 31)) ||| ((c1 &&& (255 : Int32)) <<< ((8 : Int32) &&& 31))) ||| (c2 &&& (255 : Int32))))]))
      refine own_go (fun t k => XS.istore X104.here hx rfl (hb hby at_138) rfl (l' := #[.val (.int x0), .val (.int x1), .val (.int x2), .val (.int x3), .val (.int x4), .val (.int x5), .val (.int (1 : Int32)), .val (.int c0), .val (.int c1), .val (.int c2), .val (.int c3), .val (.ref a3), .val (.int ((((c0 &&& (255 : Int32)) <<< ((16 : Int32) &&& 31)) ||| ((c1 &&& (255 : Int32)) <<< ((8 : Int32) &&& 31))) ||| (c2 &&& (255 : Int32)))), .unset, .unset, .unset]) rfl k) ?_
      show own_G p e below s (own_Q0 n0) 16 128 (T104.setTop (mkF m 140 #[.val (.int x0), .val (.int x1), .val (.int x2), .val (.int x3), .val (.int x4), .val (.int x5), .val (.int (1 : Int32)), .val (.int c0), .val (.int c1), .val (.int c2), .val (.int c3), .val (.ref a3), .val (.int ((((c0 &&& (255 : Int32)) <<< ((16 : Int32) &&& 31)) ||| ((c1 &&& (255 : Int32)) <<< ((8 : Int32) &&& 31))) ||| (c2 &&& (255 : Int32)))), .unset, .unset, .unset] []))
      show own_G p e below s (own_Q0 n0) 16 128 (T104.setTop (mkF m 140 #[.val (.int x0), .val (.int x1), .val (.int x2), .val (.int x3), .val (.int x4), .val (.int x5), .val (.int (1 : Int32)), .val (.int c0), .val (.int c1), .val (.int c2), .val (.int c3), .val (.ref a3), .val (.int (own_id c0 c1 c2)), .unset, .unset, .unset] []))
      refine own_go (fun t k => XS.iload X104.here hx rfl (hb hby at_140) rfl k) ?_
      show own_G p e below s (own_Q0 n0) 16 128 (T104.setTop (mkF m 142 #[.val (.int x0), .val (.int x1), .val (.int x2), .val (.int x3), .val (.int x4), .val (.int x5), .val (.int (1 : Int32)), .val (.int c0), .val (.int c1), .val (.int c2), .val (.int c3), .val (.ref a3), .val (.int (own_id c0 c1 c2)), .unset, .unset, .unset] [(.int (1 : Int32))]))
      refine own_go (fun t k => XS.iconst X104.here hx rfl (hb hby at_142) k) ?_
      show own_G p e below s (own_Q0 n0) 16 128 (T104.setTop (mkF m 143 #[.val (.int x0), .val (.int x1), .val (.int x2), .val (.int x3), .val (.int x4), .val (.int x5), .val (.int (1 : Int32)), .val (.int c0), .val (.int c1), .val (.int c2), .val (.int c3), .val (.ref a3), .val (.int (own_id c0 c1 c2)), .unset, .unset, .unset] [(.int (3 : Int32)), (.int (1 : Int32))]))
      have J160 : ∀ (ex : Int32) (hex : own_sm (1 : Int32) c0 c1 c2 = ex), own_G p e below s (own_Q0 n0) 16 128 (T104.setTop (mkF m 160 #[.val (.int x0), .val (.int x1), .val (.int x2), .val (.int x3), .val (.int x4), .val (.int x5), .val (.int (1 : Int32)), .val (.int c0), .val (.int c1), .val (.int c2), .val (.int c3), .val (.ref a3), .val (.int (own_id c0 c1 c2)), .val (.int ex), .unset, .unset] [])) := by
        intro ex hex
        refine own_go (fun t k => XS.aload X104.here hx rfl (hb hby at_160) rfl rfl k) ?_
        show own_G p e below s (own_Q0 n0) 16 128 (T104.setTop (mkF m 162 #[.val (.int x0), .val (.int x1), .val (.int x2), .val (.int x3), .val (.int x4), .val (.int x5), .val (.int (1 : Int32)), .val (.int c0), .val (.int c1), .val (.int c2), .val (.int c3), .val (.ref a3), .val (.int (own_id c0 c1 c2)), .val (.int ex), .unset, .unset] [(.ref a3)]))
        obtain ⟨_, _, ⟨T105, L105, k105, n105⟩, -, X105, ⟨Lc105, hQ105, l105, y105, z105⟩, st105⟩ := Jvm.LawKit.callS X104 hx (y := (⟨"com/example/graphalog/graphalog/io/GzipMembers", "startsMember", "([B)Z"⟩ : MethodName)) hown (mvT hZ (hw _ (List.mem_of_getElem? (i := 2) rfl))) (mvT hZ (hw _ (List.mem_of_getElem? (i := 3) rfl))) (mvT hZ (hw _ (List.mem_of_getElem? (i := 4) rfl))) (mvT hZ (hw _ (List.mem_of_getElem? (i := 5) rfl))) (by decide) (backOf (W := 0) (rm1 l Z a0 hw [] a3 cA103 (1 : Int32) c0 c1 c2 [(.int c0)] h104 V104 (fun q => absurd (by decide) q) (fun q => absurd (by decide) q) (fun q => absurd (by decide) q)) hZ (hw _ (List.mem_of_getElem? (i := 5) rfl)) (hw _ (List.mem_of_getElem? (i := 4) rfl)) (by decide) (by decide)) (g := (mkF m 162 #[.val (.int x0), .val (.int x1), .val (.int x2), .val (.int x3), .val (.int x4), .val (.int x5), .val (.int (1 : Int32)), .val (.int c0), .val (.int c1), .val (.int c2), .val (.int c3), .val (.ref a3), .val (.int (own_id c0 c1 c2)), .val (.int ex), .unset, .unset] [(.ref a3)])) rfl (by rw [hml]; rfl) (argsL := [(.ref a3)]) (rest := []) (lenOf pd1 rfl) rfl (by show 2 * 0 + _ ≤ _; exact Nat.le_of_eq rfl) (hb hby at_162) (fun _ _ => ⟨rfl, e104, (by decide : 1 + 0 ≤ _), (by decide : 1 + 0 ≤ _)⟩)
        dsimp only [Pt.U, Pt.locs, Pt.cells, Pt.slots] at X105 l105 y105 z105 st105 hQ105
        subst l105 y105 z105
        obtain ⟨rfl, rfl, e105⟩ := hQ105
        refine own_go (st105) ?_
        show own_G p e below s (own_Q0 n0) 16 128 (T105.setTop (mkF m 165 #[.val (.int x0), .val (.int x1), .val (.int x2), .val (.int x3), .val (.int x4), .val (.int x5), .val (.int (1 : Int32)), .val (.int c0), .val (.int c1), .val (.int c2), .val (.int c3), .val (.ref a3), .val (.int (own_id c0 c1 c2)), .val (.int ex), .unset, .unset] [(.int (own_sm (1 : Int32) c0 c1 c2))]))
        refine own_go (fun t k => XS.istore X105.here hx rfl (hb hby at_165) rfl (l' := #[.val (.int x0), .val (.int x1), .val (.int x2), .val (.int x3), .val (.int x4), .val (.int x5), .val (.int (1 : Int32)), .val (.int c0), .val (.int c1), .val (.int c2), .val (.int c3), .val (.ref a3), .val (.int (own_id c0 c1 c2)), .val (.int ex), .val (.int (own_sm (1 : Int32) c0 c1 c2)), .unset]) rfl k) ?_
        show own_G p e below s (own_Q0 n0) 16 128 (T105.setTop (mkF m 167 #[.val (.int x0), .val (.int x1), .val (.int x2), .val (.int x3), .val (.int x4), .val (.int x5), .val (.int (1 : Int32)), .val (.int c0), .val (.int c1), .val (.int c2), .val (.int c3), .val (.ref a3), .val (.int (own_id c0 c1 c2)), .val (.int ex), .val (.int (own_sm (1 : Int32) c0 c1 c2)), .unset] []))
        refine own_go (fun t k => XS.iload X105.here hx rfl (hb hby at_167) rfl k) ?_
        show own_G p e below s (own_Q0 n0) 16 128 (T105.setTop (mkF m 169 #[.val (.int x0), .val (.int x1), .val (.int x2), .val (.int x3), .val (.int x4), .val (.int x5), .val (.int (1 : Int32)), .val (.int c0), .val (.int c1), .val (.int c2), .val (.int c3), .val (.ref a3), .val (.int (own_id c0 c1 c2)), .val (.int ex), .val (.int (own_sm (1 : Int32) c0 c1 c2)), .unset] [(.int (1 : Int32))]))
        refine own_go (fun t k => XS.iconst X105.here hx rfl (hb hby at_169) k) ?_
        show own_G p e below s (own_Q0 n0) 16 128 (T105.setTop (mkF m 170 #[.val (.int x0), .val (.int x1), .val (.int x2), .val (.int x3), .val (.int x4), .val (.int x5), .val (.int (1 : Int32)), .val (.int c0), .val (.int c1), .val (.int c2), .val (.int c3), .val (.ref a3), .val (.int (own_id c0 c1 c2)), .val (.int ex), .val (.int (own_sm (1 : Int32) c0 c1 c2)), .unset] [(.int (1 : Int32)), (.int (1 : Int32))]))
        refine own_go (fun t k => XS.icmpNo X105.here hx rfl (hb hby at_170) rfl (XT.ii_lt_f (by decide)) k) ?_
        show own_G p e below s (own_Q0 n0) 16 128 (T105.setTop (mkF m 173 #[.val (.int x0), .val (.int x1), .val (.int x2), .val (.int x3), .val (.int x4), .val (.int x5), .val (.int (1 : Int32)), .val (.int c0), .val (.int c1), .val (.int c2), .val (.int c3), .val (.ref a3), .val (.int (own_id c0 c1 c2)), .val (.int ex), .val (.int (own_sm (1 : Int32) c0 c1 c2)), .unset] []))
        refine own_go (fun t k => XS.aload X105.here hx rfl (hb hby at_173) rfl rfl k) ?_
        show own_G p e below s (own_Q0 n0) 16 128 (T105.setTop (mkF m 175 #[.val (.int x0), .val (.int x1), .val (.int x2), .val (.int x3), .val (.int x4), .val (.int x5), .val (.int (1 : Int32)), .val (.int c0), .val (.int c1), .val (.int c2), .val (.int c3), .val (.ref a3), .val (.int (own_id c0 c1 c2)), .val (.int ex), .val (.int (own_sm (1 : Int32) c0 c1 c2)), .unset] [(.ref a3)]))
        refine own_go (fun t k => XS.iconst X105.here hx rfl (hb hby at_175) k) ?_
        show own_G p e below s (own_Q0 n0) 16 128 (T105.setTop (mkF m 176 #[.val (.int x0), .val (.int x1), .val (.int x2), .val (.int x3), .val (.int x4), .val (.int x5), .val (.int (1 : Int32)), .val (.int c0), .val (.int c1), .val (.int c2), .val (.int c3), .val (.ref a3), .val (.int (own_id c0 c1 c2)), .val (.int ex), .val (.int (own_sm (1 : Int32) c0 c1 c2)), .unset] [(.int (0 : Int32)), (.ref a3)]))
        refine own_go (own_ldB X105 hx hZ e105 V104 (j := (0 : Int32)) (v := (.int c0)) ⟨by decide, by decide⟩ rfl (g := (mkF m 176 #[.val (.int x0), .val (.int x1), .val (.int x2), .val (.int x3), .val (.int x4), .val (.int x5), .val (.int (1 : Int32)), .val (.int c0), .val (.int c1), .val (.int c2), .val (.int c3), .val (.ref a3), .val (.int (own_id c0 c1 c2)), .val (.int ex), .val (.int (own_sm (1 : Int32) c0 c1 c2)), .unset] [(.int (0 : Int32)), (.ref a3)])) rfl rfl (hb hby at_176)) ?_
        show own_G p e below s (own_Q0 n0) 16 128 (T105.setTop (mkF m 177 #[.val (.int x0), .val (.int x1), .val (.int x2), .val (.int x3), .val (.int x4), .val (.int x5), .val (.int (1 : Int32)), .val (.int c0), .val (.int c1), .val (.int c2), .val (.int c3), .val (.ref a3), .val (.int (own_id c0 c1 c2)), .val (.int ex), .val (.int (own_sm (1 : Int32) c0 c1 c2)), .unset] [(.int c0)]))
        refine own_go (fun t k => XS.iload X105.here hx rfl (hb hby at_177) rfl k) ?_
        show own_G p e below s (own_Q0 n0) 16 128 (T105.setTop (mkF m 179 #[.val (.int x0), .val (.int x1), .val (.int x2), .val (.int x3), .val (.int x4), .val (.int x5), .val (.int (1 : Int32)), .val (.int c0), .val (.int c1), .val (.int c2), .val (.int c3), .val (.ref a3), .val (.int (own_id c0 c1 c2)), .val (.int ex), .val (.int (own_sm (1 : Int32) c0 c1 c2)), .unset] [(.int c0), (.int c0)]))
        refine own_go (fun t k => XS.icmpNo X105.here hx rfl (hb hby at_179) rfl (XT.ii_ne_f rfl) k) ?_
        show own_G p e below s (own_Q0 n0) 16 128 (T105.setTop (mkF m 182 #[.val (.int x0), .val (.int x1), .val (.int x2), .val (.int x3), .val (.int x4), .val (.int x5), .val (.int (1 : Int32)), .val (.int c0), .val (.int c1), .val (.int c2), .val (.int c3), .val (.ref a3), .val (.int (own_id c0 c1 c2)), .val (.int ex), .val (.int (own_sm (1 : Int32) c0 c1 c2)), .unset] []))
        refine own_go (fun t k => XS.iload X105.here hx rfl (hb hby at_182) rfl k) ?_
        show own_G p e below s (own_Q0 n0) 16 128 (T105.setTop (mkF m 184 #[.val (.int x0), .val (.int x1), .val (.int x2), .val (.int x3), .val (.int x4), .val (.int x5), .val (.int (1 : Int32)), .val (.int c0), .val (.int c1), .val (.int c2), .val (.int c3), .val (.ref a3), .val (.int (own_id c0 c1 c2)), .val (.int ex), .val (.int (own_sm (1 : Int32) c0 c1 c2)), .unset] [(.int (1 : Int32))]))
        refine own_go (fun t k => XS.iconst X105.here hx rfl (hb hby at_184) k) ?_
        show own_G p e below s (own_Q0 n0) 16 128 (T105.setTop (mkF m 185 #[.val (.int x0), .val (.int x1), .val (.int x2), .val (.int x3), .val (.int x4), .val (.int x5), .val (.int (1 : Int32)), .val (.int c0), .val (.int c1), .val (.int c2), .val (.int c3), .val (.ref a3), .val (.int (own_id c0 c1 c2)), .val (.int ex), .val (.int (own_sm (1 : Int32) c0 c1 c2)), .unset] [(.int (2 : Int32)), (.int (1 : Int32))]))
        refine own_go (fun t k => XS.icmpYes X105.here hx rfl (pc0 := 185) (pc' := 197) rfl (hb hby at_185) rfl (XT.ii_lt_t (by decide)) (by decide) (by decide) k) ?_
        show own_G p e below s (own_Q0 n0) 16 128 (T105.setTop (mkF m 197 #[.val (.int x0), .val (.int x1), .val (.int x2), .val (.int x3), .val (.int x4), .val (.int x5), .val (.int (1 : Int32)), .val (.int c0), .val (.int c1), .val (.int c2), .val (.int c3), .val (.ref a3), .val (.int (own_id c0 c1 c2)), .val (.int ex), .val (.int (own_sm (1 : Int32) c0 c1 c2)), .unset] []))
        refine own_go (fun t k => XS.iload X105.here hx rfl (hb hby at_197) rfl k) ?_
        show own_G p e below s (own_Q0 n0) 16 128 (T105.setTop (mkF m 199 #[.val (.int x0), .val (.int x1), .val (.int x2), .val (.int x3), .val (.int x4), .val (.int x5), .val (.int (1 : Int32)), .val (.int c0), .val (.int c1), .val (.int c2), .val (.int c3), .val (.ref a3), .val (.int (own_id c0 c1 c2)), .val (.int ex), .val (.int (own_sm (1 : Int32) c0 c1 c2)), .unset] [(.int (1 : Int32))]))
        refine own_go (fun t k => XS.iconst X105.here hx rfl (hb hby at_199) k) ?_
        show own_G p e below s (own_Q0 n0) 16 128 (T105.setTop (mkF m 200 #[.val (.int x0), .val (.int x1), .val (.int x2), .val (.int x3), .val (.int x4), .val (.int x5), .val (.int (1 : Int32)), .val (.int c0), .val (.int c1), .val (.int c2), .val (.int c3), .val (.ref a3), .val (.int (own_id c0 c1 c2)), .val (.int ex), .val (.int (own_sm (1 : Int32) c0 c1 c2)), .unset] [(.int (3 : Int32)), (.int (1 : Int32))]))
        refine own_go (fun t k => XS.icmpYes X105.here hx rfl (pc0 := 200) (pc' := 212) rfl (hb hby at_200) rfl (XT.ii_lt_t (by decide)) (by decide) (by decide) k) ?_
        show own_G p e below s (own_Q0 n0) 16 128 (T105.setTop (mkF m 212 #[.val (.int x0), .val (.int x1), .val (.int x2), .val (.int x3), .val (.int x4), .val (.int x5), .val (.int (1 : Int32)), .val (.int c0), .val (.int c1), .val (.int c2), .val (.int c3), .val (.ref a3), .val (.int (own_id c0 c1 c2)), .val (.int ex), .val (.int (own_sm (1 : Int32) c0 c1 c2)), .unset] []))
        refine own_go (fun t k => XS.iload X105.here hx rfl (hb hby at_212) rfl k) ?_
        show own_G p e below s (own_Q0 n0) 16 128 (T105.setTop (mkF m 214 #[.val (.int x0), .val (.int x1), .val (.int x2), .val (.int x3), .val (.int x4), .val (.int x5), .val (.int (1 : Int32)), .val (.int c0), .val (.int c1), .val (.int c2), .val (.int c3), .val (.ref a3), .val (.int (own_id c0 c1 c2)), .val (.int ex), .val (.int (own_sm (1 : Int32) c0 c1 c2)), .unset] [(.int (1 : Int32))]))
        refine own_go (fun t k => XS.iconst X105.here hx rfl (hb hby at_214) k) ?_
        show own_G p e below s (own_Q0 n0) 16 128 (T105.setTop (mkF m 215 #[.val (.int x0), .val (.int x1), .val (.int x2), .val (.int x3), .val (.int x4), .val (.int x5), .val (.int (1 : Int32)), .val (.int c0), .val (.int c1), .val (.int c2), .val (.int c3), .val (.ref a3), .val (.int (own_id c0 c1 c2)), .val (.int ex), .val (.int (own_sm (1 : Int32) c0 c1 c2)), .unset] [(.int (4 : Int32)), (.int (1 : Int32))]))
        refine own_go (fun t k => XS.icmpYes X105.here hx rfl (pc0 := 215) (pc' := 227) rfl (hb hby at_215) rfl (XT.ii_lt_t (by decide)) (by decide) (by decide) k) ?_
        show own_G p e below s (own_Q0 n0) 16 128 (T105.setTop (mkF m 227 #[.val (.int x0), .val (.int x1), .val (.int x2), .val (.int x3), .val (.int x4), .val (.int x5), .val (.int (1 : Int32)), .val (.int c0), .val (.int c1), .val (.int c2), .val (.int c3), .val (.ref a3), .val (.int (own_id c0 c1 c2)), .val (.int ex), .val (.int (own_sm (1 : Int32) c0 c1 c2)), .unset] []))
        refine own_go (fun t k => XS.iconst X105.here hx rfl (hb hby at_227) k) ?_
        show own_G p e below s (own_Q0 n0) 16 128 (T105.setTop (mkF m 228 #[.val (.int x0), .val (.int x1), .val (.int x2), .val (.int x3), .val (.int x4), .val (.int x5), .val (.int (1 : Int32)), .val (.int c0), .val (.int c1), .val (.int c2), .val (.int c3), .val (.ref a3), .val (.int (own_id c0 c1 c2)), .val (.int ex), .val (.int (own_sm (1 : Int32) c0 c1 c2)), .unset] [(.int (1 : Int32))]))
        refine own_go (fun t k => XS.goto X105.here hx rfl (pc0 := 228) (pc' := 232) rfl (hb hby at_228) (by decide) (by decide) k) ?_
        show own_G p e below s (own_Q0 n0) 16 128 (T105.setTop (mkF m 232 #[.val (.int x0), .val (.int x1), .val (.int x2), .val (.int x3), .val (.int x4), .val (.int x5), .val (.int (1 : Int32)), .val (.int c0), .val (.int c1), .val (.int c2), .val (.int c3), .val (.ref a3), .val (.int (own_id c0 c1 c2)), .val (.int ex), .val (.int (own_sm (1 : Int32) c0 c1 c2)), .unset] [(.int (1 : Int32))]))
        refine own_go (fun t k => XS.istore X105.here hx rfl (hb hby at_232) rfl (l' := #[.val (.int x0), .val (.int x1), .val (.int x2), .val (.int x3), .val (.int x4), .val (.int x5), .val (.int (1 : Int32)), .val (.int c0), .val (.int c1), .val (.int c2), .val (.int c3), .val (.ref a3), .val (.int (own_id c0 c1 c2)), .val (.int ex), .val (.int (own_sm (1 : Int32) c0 c1 c2)), .val (.int (1 : Int32))]) rfl k) ?_
        show own_G p e below s (own_Q0 n0) 16 128 (T105.setTop (mkF m 234 #[.val (.int x0), .val (.int x1), .val (.int x2), .val (.int x3), .val (.int x4), .val (.int x5), .val (.int (1 : Int32)), .val (.int c0), .val (.int c1), .val (.int c2), .val (.int c3), .val (.ref a3), .val (.int (own_id c0 c1 c2)), .val (.int ex), .val (.int (own_sm (1 : Int32) c0 c1 c2)), .val (.int (1 : Int32))] []))
        refine own_go (fun t k => XS.iload X105.here hx rfl (hb hby at_234) rfl k) ?_
        show own_G p e below s (own_Q0 n0) 16 128 (T105.setTop (mkF m 236 #[.val (.int x0), .val (.int x1), .val (.int x2), .val (.int x3), .val (.int x4), .val (.int x5), .val (.int (1 : Int32)), .val (.int c0), .val (.int c1), .val (.int c2), .val (.int c3), .val (.ref a3), .val (.int (own_id c0 c1 c2)), .val (.int ex), .val (.int (own_sm (1 : Int32) c0 c1 c2)), .val (.int (1 : Int32))] [(.int (own_sm (1 : Int32) c0 c1 c2))]))
        refine own_go (fun t k => XS.iload X105.here hx rfl (hb hby at_236) rfl k) ?_
        show own_G p e below s (own_Q0 n0) 16 128 (T105.setTop (mkF m 238 #[.val (.int x0), .val (.int x1), .val (.int x2), .val (.int x3), .val (.int x4), .val (.int x5), .val (.int (1 : Int32)), .val (.int c0), .val (.int c1), .val (.int c2), .val (.int c3), .val (.ref a3), .val (.int (own_id c0 c1 c2)), .val (.int ex), .val (.int (own_sm (1 : Int32) c0 c1 c2)), .val (.int (1 : Int32))] [(.int ex), (.int (own_sm (1 : Int32) c0 c1 c2))]))
        refine own_go (fun t k => XS.icmpNo X105.here hx rfl (hb hby at_238) rfl (XT.ii_ne_f hex) k) ?_
        show own_G p e below s (own_Q0 n0) 16 128 (T105.setTop (mkF m 241 #[.val (.int x0), .val (.int x1), .val (.int x2), .val (.int x3), .val (.int x4), .val (.int x5), .val (.int (1 : Int32)), .val (.int c0), .val (.int c1), .val (.int c2), .val (.int c3), .val (.ref a3), .val (.int (own_id c0 c1 c2)), .val (.int ex), .val (.int (own_sm (1 : Int32) c0 c1 c2)), .val (.int (1 : Int32))] []))
        refine own_go (fun t k => XS.iload X105.here hx rfl (hb hby at_241) rfl k) ?_
        show own_G p e below s (own_Q0 n0) 16 128 (T105.setTop (mkF m 243 #[.val (.int x0), .val (.int x1), .val (.int x2), .val (.int x3), .val (.int x4), .val (.int x5), .val (.int (1 : Int32)), .val (.int c0), .val (.int c1), .val (.int c2), .val (.int c3), .val (.ref a3), .val (.int (own_id c0 c1 c2)), .val (.int ex), .val (.int (own_sm (1 : Int32) c0 c1 c2)), .val (.int (1 : Int32))] [(.int (1 : Int32))]))
        refine own_go (fun t k => XS.ifNo X105.here hx rfl (hb hby at_243) rfl (XT.i0_eq_f (by decide)) k) ?_
        show own_G p e below s (own_Q0 n0) 16 128 (T105.setTop (mkF m 246 #[.val (.int x0), .val (.int x1), .val (.int x2), .val (.int x3), .val (.int x4), .val (.int x5), .val (.int (1 : Int32)), .val (.int c0), .val (.int c1), .val (.int c2), .val (.int c3), .val (.ref a3), .val (.int (own_id c0 c1 c2)), .val (.int ex), .val (.int (own_sm (1 : Int32) c0 c1 c2)), .val (.int (1 : Int32))] []))
        refine own_go (fun t k => XS.aload X105.here hx rfl (hb hby at_246) rfl rfl k) ?_
        show own_G p e below s (own_Q0 n0) 16 128 (T105.setTop (mkF m 248 #[.val (.int x0), .val (.int x1), .val (.int x2), .val (.int x3), .val (.int x4), .val (.int x5), .val (.int (1 : Int32)), .val (.int c0), .val (.int c1), .val (.int c2), .val (.int c3), .val (.ref a3), .val (.int (own_id c0 c1 c2)), .val (.int ex), .val (.int (own_sm (1 : Int32) c0 c1 c2)), .val (.int (1 : Int32))] [(.ref a3)]))
        refine own_go (own_len X105 hx hZ e105 V104 (g := (mkF m 248 #[.val (.int x0), .val (.int x1), .val (.int x2), .val (.int x3), .val (.int x4), .val (.int x5), .val (.int (1 : Int32)), .val (.int c0), .val (.int c1), .val (.int c2), .val (.int c3), .val (.ref a3), .val (.int (own_id c0 c1 c2)), .val (.int ex), .val (.int (own_sm (1 : Int32) c0 c1 c2)), .val (.int (1 : Int32))] [(.ref a3)])) rfl rfl (hb hby at_248)) ?_
        show own_G p e below s (own_Q0 n0) 16 128 (T105.setTop (mkF m 249 #[.val (.int x0), .val (.int x1), .val (.int x2), .val (.int x3), .val (.int x4), .val (.int x5), .val (.int (1 : Int32)), .val (.int c0), .val (.int c1), .val (.int c2), .val (.int c3), .val (.ref a3), .val (.int (own_id c0 c1 c2)), .val (.int ex), .val (.int (own_sm (1 : Int32) c0 c1 c2)), .val (.int (1 : Int32))] [(.int (1 : Int32))]))
        refine own_go (fun t k => XS.iload X105.here hx rfl (hb hby at_249) rfl k) ?_
        show own_G p e below s (own_Q0 n0) 16 128 (T105.setTop (mkF m 251 #[.val (.int x0), .val (.int x1), .val (.int x2), .val (.int x3), .val (.int x4), .val (.int x5), .val (.int (1 : Int32)), .val (.int c0), .val (.int c1), .val (.int c2), .val (.int c3), .val (.ref a3), .val (.int (own_id c0 c1 c2)), .val (.int ex), .val (.int (own_sm (1 : Int32) c0 c1 c2)), .val (.int (1 : Int32))] [(.int (1 : Int32)), (.int (1 : Int32))]))
        refine own_go (fun t k => XS.icmpNo X105.here hx rfl (hb hby at_251) rfl (XT.ii_ne_f rfl) k) ?_
        show own_G p e below s (own_Q0 n0) 16 128 (T105.setTop (mkF m 254 #[.val (.int x0), .val (.int x1), .val (.int x2), .val (.int x3), .val (.int x4), .val (.int x5), .val (.int (1 : Int32)), .val (.int c0), .val (.int c1), .val (.int c2), .val (.int c3), .val (.ref a3), .val (.int (own_id c0 c1 c2)), .val (.int ex), .val (.int (own_sm (1 : Int32) c0 c1 c2)), .val (.int (1 : Int32))] []))
        refine own_go (fun t k => XS.iconst X105.here hx rfl (hb hby at_254) k) ?_
        show own_G p e below s (own_Q0 n0) 16 128 (T105.setTop (mkF m 255 #[.val (.int x0), .val (.int x1), .val (.int x2), .val (.int x3), .val (.int x4), .val (.int x5), .val (.int (1 : Int32)), .val (.int c0), .val (.int c1), .val (.int c2), .val (.int c3), .val (.ref a3), .val (.int (own_id c0 c1 c2)), .val (.int ex), .val (.int (own_sm (1 : Int32) c0 c1 c2)), .val (.int (1 : Int32))] [(.int (1 : Int32))]))
        refine own_go (fun t k => XS.goto X105.here hx rfl (pc0 := 255) (pc' := 259) rfl (hb hby at_255) (by decide) (by decide) k) ?_
        show own_G p e below s (own_Q0 n0) 16 128 (T105.setTop (mkF m 259 #[.val (.int x0), .val (.int x1), .val (.int x2), .val (.int x3), .val (.int x4), .val (.int x5), .val (.int (1 : Int32)), .val (.int c0), .val (.int c1), .val (.int c2), .val (.int c3), .val (.ref a3), .val (.int (own_id c0 c1 c2)), .val (.int ex), .val (.int (own_sm (1 : Int32) c0 c1 c2)), .val (.int (1 : Int32))] [(.int (1 : Int32))]))
        exact own_leave X105 (some (.int (1 : Int32))) (fun h => by rw [Bd.returns] at h; cases h) Bd.notSynchronized (fun fs hr => retN X105 hx (t := .boolean) Bd.returns (by simp) (hb hby at_259) hr) ⟨rfl, (Fr.app N104 (Fr.nil n0))⟩ (by decide) (by decide)
      refine own_go (fun t k => XS.icmpYes X104.here hx rfl (pc0 := 143) (pc' := 157) rfl (hb hby at_143) rfl (XT.ii_lt_t (by decide)) (by decide) (by decide) k) ?_
      show own_G p e below s (own_Q0 n0) 16 128 (T104.setTop (mkF m 157 #[.val (.int x0), .val (.int x1), .val (.int x2), .val (.int x3), .val (.int x4), .val (.int x5), .val (.int (1 : Int32)), .val (.int c0), .val (.int c1), .val (.int c2), .val (.int c3), .val (.ref a3), .val (.int (own_id c0 c1 c2)), .unset, .unset, .unset] []))
      refine own_go (fun t k => XS.iconst X104.here hx rfl (hb hby at_157) k) ?_
      show own_G p e below s (own_Q0 n0) 16 128 (T104.setTop (mkF m 158 #[.val (.int x0), .val (.int x1), .val (.int x2), .val (.int x3), .val (.int x4), .val (.int x5), .val (.int (1 : Int32)), .val (.int c0), .val (.int c1), .val (.int c2), .val (.int c3), .val (.ref a3), .val (.int (own_id c0 c1 c2)), .unset, .unset, .unset] [(.int (0 : Int32))]))
      refine own_go (fun t k => XS.istore X104.here hx rfl (hb hby at_158) rfl (l' := #[.val (.int x0), .val (.int x1), .val (.int x2), .val (.int x3), .val (.int x4), .val (.int x5), .val (.int (1 : Int32)), .val (.int c0), .val (.int c1), .val (.int c2), .val (.int c3), .val (.ref a3), .val (.int (own_id c0 c1 c2)), .val (.int (0 : Int32)), .unset, .unset]) rfl k) ?_
      show own_G p e below s (own_Q0 n0) 16 128 (T104.setTop (mkF m 160 #[.val (.int x0), .val (.int x1), .val (.int x2), .val (.int x3), .val (.int x4), .val (.int x5), .val (.int (1 : Int32)), .val (.int c0), .val (.int c1), .val (.int c2), .val (.int c3), .val (.ref a3), .val (.int (own_id c0 c1 c2)), .val (.int (0 : Int32)), .unset, .unset] []))
      exact J160 _ (own_sm_s (by decide))
    · skip
      show own_G p e below s (own_Q0 n0) 16 128 (s₁.setTop (mkF m 59 #[.val (.int x0), .val (.int x1), .val (.int x2), .val (.int x3), .val (.int x4), .val (.int x5), .val (.int (2 : Int32)), .val (.int c0), .val (.int c1), .val (.int c2), .val (.int c3), .unset, .unset, .unset, .unset, .unset] []))
      refine own_go (fun t k => XS.iload X0.here hx rfl (hb hby at_59) rfl k) ?_
      show own_G p e below s (own_Q0 n0) 16 128 (s₁.setTop (mkF m 61 #[.val (.int x0), .val (.int x1), .val (.int x2), .val (.int x3), .val (.int x4), .val (.int x5), .val (.int (2 : Int32)), .val (.int c0), .val (.int c1), .val (.int c2), .val (.int c3), .unset, .unset, .unset, .unset, .unset] [(.int (2 : Int32))]))
      obtain ⟨T106, h106, cA106, X106, e106, E106, A106, st106⟩ := newP X0 hx hZ (hw _ (List.mem_of_getElem? (i := 1) rfl)) e0 (g := (mkF m 61 #[.val (.int x0), .val (.int x1), .val (.int x2), .val (.int x3), .val (.int x4), .val (.int x5), .val (.int (2 : Int32)), .val (.int c0), .val (.int c1), .val (.int c2), .val (.int c3), .unset, .unset, .unset, .unset, .unset] [(.int (2 : Int32))])) rfl (hb hby at_61) rfl (by decide) (cap := 2) (by decide) (by decide) (by decide) (by decide)
      obtain ⟨a3, g106⟩ : ∃ z, z = h0.size := ⟨_, rfl⟩
      rw [← g106] at A106 st106
      have V106 : Arv Z h106 a3 cA106 .byte (2 : Int32) [(.int 0), (.int 0)] (.int 0) := (Arv.new A106 (by decide)).pad (pad_rep [] (.int 0) 2)
      refine own_go st106 ?_
      show own_G p e below s (own_Q0 n0) 16 128 (T106.setTop (mkF m 63 #[.val (.int x0), .val (.int x1), .val (.int x2), .val (.int x3), .val (.int x4), .val (.int x5), .val (.int (2 : Int32)), .val (.int c0), .val (.int c1), .val (.int c2), .val (.int c3), .unset, .unset, .unset, .unset, .unset] [(.ref a3)]))
      have g3 : n0 ≤ a3 := Nat.le_trans Z0 (Nat.le_of_eq g106.symm)
      refine own_go (fun t k => XS.astore X106.here hx rfl (hb hby at_63) rfl rfl (l' := #[.val (.int x0), .val (.int x1), .val (.int x2), .val (.int x3), .val (.int x4), .val (.int x5), .val (.int (2 : Int32)), .val (.int c0), .val (.int c1), .val (.int c2), .val (.int c3), .val (.ref a3), .unset, .unset, .unset, .unset]) rfl k) ?_
      show own_G p e below s (own_Q0 n0) 16 128 (T106.setTop (mkF m 65 #[.val (.int x0), .val (.int x1), .val (.int x2), .val (.int x3), .val (.int x4), .val (.int x5), .val (.int (2 : Int32)), .val (.int c0), .val (.int c1), .val (.int c2), .val (.int c3), .val (.ref a3), .unset, .unset, .unset, .unset] []))
      refine own_go (fun t k => XS.iload X106.here hx rfl (hb hby at_65) rfl k) ?_
      show own_G p e below s (own_Q0 n0) 16 128 (T106.setTop (mkF m 67 #[.val (.int x0), .val (.int x1), .val (.int x2), .val (.int x3), .val (.int x4), .val (.int x5), .val (.int (2 : Int32)), .val (.int c0), .val (.int c1), .val (.int c2), .val (.int c3), .val (.ref a3), .unset, .unset, .unset, .unset] [(.int (2 : Int32))]))
      refine own_go (fun t k => XS.ifNo X106.here hx rfl (hb hby at_67) rfl (XT.i0_le_f (by decide)) k) ?_
      show own_G p e below s (own_Q0 n0) 16 128 (T106.setTop (mkF m 70 #[.val (.int x0), .val (.int x1), .val (.int x2), .val (.int x3), .val (.int x4), .val (.int x5), .val (.int (2 : Int32)), .val (.int c0), .val (.int c1), .val (.int c2), .val (.int c3), .val (.ref a3), .unset, .unset, .unset, .unset] []))
      refine own_go (fun t k => XS.aload X106.here hx rfl (hb hby at_70) rfl rfl k) ?_
      show own_G p e below s (own_Q0 n0) 16 128 (T106.setTop (mkF m 72 #[.val (.int x0), .val (.int x1), .val (.int x2), .val (.int x3), .val (.int x4), .val (.int x5), .val (.int (2 : Int32)), .val (.int c0), .val (.int c1), .val (.int c2), .val (.int c3), .val (.ref a3), .unset, .unset, .unset, .unset] [(.ref a3)]))
      refine own_go (fun t k => XS.iconst X106.here hx rfl (hb hby at_72) k) ?_
      show own_G p e below s (own_Q0 n0) 16 128 (T106.setTop (mkF m 73 #[.val (.int x0), .val (.int x1), .val (.int x2), .val (.int x3), .val (.int x4), .val (.int x5), .val (.int (2 : Int32)), .val (.int c0), .val (.int c1), .val (.int c2), .val (.int c3), .val (.ref a3), .unset, .unset, .unset, .unset] [(.int (0 : Int32)), (.ref a3)]))
      refine own_go (fun t k => XS.iload X106.here hx rfl (hb hby at_73) rfl k) ?_
      show own_G p e below s (own_Q0 n0) 16 128 (T106.setTop (mkF m 75 #[.val (.int x0), .val (.int x1), .val (.int x2), .val (.int x3), .val (.int x4), .val (.int x5), .val (.int (2 : Int32)), .val (.int c0), .val (.int c1), .val (.int c2), .val (.int c3), .val (.ref a3), .unset, .unset, .unset, .unset] [(.int c0), (.int (0 : Int32)), (.ref a3)]))
      obtain ⟨T107, h107, X107, e107, W107, V107, st107⟩ := own_stB X106 hx hZ e106 V106 (j := (0 : Int32)) ⟨by decide, by decide⟩ 0 (by decide) (by simp) (vs' := [(.int c0), (.int 0)]) (by rw [m0]; rfl) (g := (mkF m 75 #[.val (.int x0), .val (.int x1), .val (.int x2), .val (.int x3), .val (.int x4), .val (.int x5), .val (.int (2 : Int32)), .val (.int c0), .val (.int c1), .val (.int c2), .val (.int c3), .val (.ref a3), .unset, .unset, .unset, .unset] [(.int c0), (.int (0 : Int32)), (.ref a3)])) rfl rfl (hb hby at_75)
      have N107 := Fr.snoc X107 (Fr.nil n0) g3
      refine own_go st107 ?_
      show own_G p e below s (own_Q0 n0) 16 128 (T107.setTop (mkF m 76 #[.val (.int x0), .val (.int x1), .val (.int x2), .val (.int x3), .val (.int x4), .val (.int x5), .val (.int (2 : Int32)), .val (.int c0), .val (.int c1), .val (.int c2), .val (.int c3), .val (.ref a3), .unset, .unset, .unset, .unset] []))
      refine own_go (fun t k => XS.iload X107.here hx rfl (hb hby at_76) rfl k) ?_
      show own_G p e below s (own_Q0 n0) 16 128 (T107.setTop (mkF m 78 #[.val (.int x0), .val (.int x1), .val (.int x2), .val (.int x3), .val (.int x4), .val (.int x5), .val (.int (2 : Int32)), .val (.int c0), .val (.int c1), .val (.int c2), .val (.int c3), .val (.ref a3), .unset, .unset, .unset, .unset] [(.int (2 : Int32))]))
      refine own_go (fun t k => XS.iconst X107.here hx rfl (hb hby at_78) k) ?_
      show own_G p e below s (own_Q0 n0) 16 128 (T107.setTop (mkF m 79 #[.val (.int x0), .val (.int x1), .val (.int x2), .val (.int x3), .val (.int x4), .val (.int x5), .val (.int (2 : Int32)), .val (.int c0), .val (.int c1), .val (.int c2), .val (.int c3), .val (.ref a3), .unset, .unset, .unset, .unset] [(.int (1 : Int32)), (.int (2 : Int32))]))
      refine own_go (fun t k => XS.icmpNo X107.here hx rfl (hb hby at_79) rfl (XT.ii_le_f (by decide)) k) ?_
      show own_G p e below s (own_Q0 n0) 16 128 (T107.setTop (mkF m 82 #[.val (.int x0), .val (.int x1), .val (.int x2), .val (.int x3), .val (.int x4), .val (.int x5), .val (.int (2 : Int32)), .val (.int c0), .val (.int c1), .val (.int c2), .val (.int c3), .val (.ref a3), .unset, .unset, .unset, .unset] []))
      refine own_go (fun t k => XS.aload X107.here hx rfl (hb hby at_82) rfl rfl k) ?_
      show own_G p e below s (own_Q0 n0) 16 128 (T107.setTop (mkF m 84 #[.val (.int x0), .val (.int x1), .val (.int x2), .val (.int x3), .val (.int x4), .val (.int x5), .val (.int (2 : Int32)), .val (.int c0), .val (.int c1), .val (.int c2), .val (.int c3), .val (.ref a3), .unset, .unset, .unset, .unset] [(.ref a3)]))
      refine own_go (fun t k => XS.iconst X107.here hx rfl (hb hby at_84) k) ?_
      show own_G p e below s (own_Q0 n0) 16 128 (T107.setTop (mkF m 85 #[.val (.int x0), .val (.int x1), .val (.int x2), .val (.int x3), .val (.int x4), .val (.int x5), .val (.int (2 : Int32)), .val (.int c0), .val (.int c1), .val (.int c2), .val (.int c3), .val (.ref a3), .unset, .unset, .unset, .unset] [(.int (1 : Int32)), (.ref a3)]))
      refine own_go (fun t k => XS.iload X107.here hx rfl (hb hby at_85) rfl k) ?_
      show own_G p e below s (own_Q0 n0) 16 128 (T107.setTop (mkF m 87 #[.val (.int x0), .val (.int x1), .val (.int x2), .val (.int x3), .val (.int x4), .val (.int x5), .val (.int (2 : Int32)), .val (.int c0), .val (.int c1), .val (.int c2), .val (.int c3), .val (.ref a3), .unset, .unset, .unset, .unset] [(.int c1), (.int (1 : Int32)), (.ref a3)]))
      obtain ⟨T108, h108, X108, e108, W108, V108, st108⟩ := own_stB X107 hx hZ e107 V107 (j := (1 : Int32)) ⟨by decide, by decide⟩ 1 (by decide) (by simp) (vs' := [(.int c0), (.int c1)]) (by rw [m1]; rfl) (g := (mkF m 87 #[.val (.int x0), .val (.int x1), .val (.int x2), .val (.int x3), .val (.int x4), .val (.int x5), .val (.int (2 : Int32)), .val (.int c0), .val (.int c1), .val (.int c2), .val (.int c3), .val (.ref a3), .unset, .unset, .unset, .unset] [(.int c1), (.int (1 : Int32)), (.ref a3)])) rfl rfl (hb hby at_87)
      have N108 := Fr.snoc X108 N107 g3
      refine own_go st108 ?_
      show own_G p e below s (own_Q0 n0) 16 128 (T108.setTop (mkF m 88 #[.val (.int x0), .val (.int x1), .val (.int x2), .val (.int x3), .val (.int x4), .val (.int x5), .val (.int (2 : Int32)), .val (.int c0), .val (.int c1), .val (.int c2), .val (.int c3), .val (.ref a3), .unset, .unset, .unset, .unset] []))
      refine own_go (fun t k => XS.iload X108.here hx rfl (hb hby at_88) rfl k) ?_
      show own_G p e below s (own_Q0 n0) 16 128 (T108.setTop (mkF m 90 #[.val (.int x0), .val (.int x1), .val (.int x2), .val (.int x3), .val (.int x4), .val (.int x5), .val (.int (2 : Int32)), .val (.int c0), .val (.int c1), .val (.int c2), .val (.int c3), .val (.ref a3), .unset, .unset, .unset, .unset] [(.int (2 : Int32))]))
      refine own_go (fun t k => XS.iconst X108.here hx rfl (hb hby at_90) k) ?_
      show own_G p e below s (own_Q0 n0) 16 128 (T108.setTop (mkF m 91 #[.val (.int x0), .val (.int x1), .val (.int x2), .val (.int x3), .val (.int x4), .val (.int x5), .val (.int (2 : Int32)), .val (.int c0), .val (.int c1), .val (.int c2), .val (.int c3), .val (.ref a3), .unset, .unset, .unset, .unset] [(.int (2 : Int32)), (.int (2 : Int32))]))
      refine own_go (fun t k => XS.icmpYes X108.here hx rfl (pc0 := 91) (pc' := 100) rfl (hb hby at_91) rfl (XT.ii_le_t (by decide)) (by decide) (by decide) k) ?_
      show own_G p e below s (own_Q0 n0) 16 128 (T108.setTop (mkF m 100 #[.val (.int x0), .val (.int x1), .val (.int x2), .val (.int x3), .val (.int x4), .val (.int x5), .val (.int (2 : Int32)), .val (.int c0), .val (.int c1), .val (.int c2), .val (.int c3), .val (.ref a3), .unset, .unset, .unset, .unset] []))
      refine own_go (fun t k => XS.iload X108.here hx rfl (hb hby at_100) rfl k) ?_
      show own_G p e below s (own_Q0 n0) 16 128 (T108.setTop (mkF m 102 #[.val (.int x0), .val (.int x1), .val (.int x2), .val (.int x3), .val (.int x4), .val (.int x5), .val (.int (2 : Int32)), .val (.int c0), .val (.int c1), .val (.int c2), .val (.int c3), .val (.ref a3), .unset, .unset, .unset, .unset] [(.int (2 : Int32))]))
      refine own_go (fun t k => XS.iconst X108.here hx rfl (hb hby at_102) k) ?_
      show own_G p e below s (own_Q0 n0) 16 128 (T108.setTop (mkF m 103 #[.val (.int x0), .val (.int x1), .val (.int x2), .val (.int x3), .val (.int x4), .val (.int x5), .val (.int (2 : Int32)), .val (.int c0), .val (.int c1), .val (.int c2), .val (.int c3), .val (.ref a3), .unset, .unset, .unset, .unset] [(.int (3 : Int32)), (.int (2 : Int32))]))
      refine own_go (fun t k => XS.icmpYes X108.here hx rfl (pc0 := 103) (pc' := 112) rfl (hb hby at_103) rfl (XT.ii_le_t (by decide)) (by decide) (by decide) k) ?_
      show own_G p e below s (own_Q0 n0) 16 128 (T108.setTop (mkF m 112 #[.val (.int x0), .val (.int x1), .val (.int x2), .val (.int x3), .val (.int x4), .val (.int x5), .val (.int (2 : Int32)), .val (.int c0), .val (.int c1), .val (.int c2), .val (.int c3), .val (.ref a3), .unset, .unset, .unset, .unset] []))
      refine own_go (fun t k => XS.iload X108.here hx rfl (hb hby at_112) rfl k) ?_
      show own_G p e below s (own_Q0 n0) 16 128 (T108.setTop (mkF m 114 #[.val (.int x0), .val (.int x1), .val (.int x2), .val (.int x3), .val (.int x4), .val (.int x5), .val (.int (2 : Int32)), .val (.int c0), .val (.int c1), .val (.int c2), .val (.int c3), .val (.ref a3), .unset, .unset, .unset, .unset] [(.int c0)]))
      refine own_go (fun t k => XS.sipush X108.here hx rfl (hb hby at_114) k) ?_
      show own_G p e below s (own_Q0 n0) 16 128 (T108.setTop (mkF m 117 #[.val (.int x0), .val (.int x1), .val (.int x2), .val (.int x3), .val (.int x4), .val (.int x5), .val (.int (2 : Int32)), .val (.int c0), .val (.int c1), .val (.int c2), .val (.int c3), .val (.ref a3), .unset, .unset, .unset, .unset] [(.int (255 : Int32)), (.int c0)]))
      refine own_go (fun t k => XS.iand X108.here hx rfl (hb hby at_117) rfl k) ?_
      show own_G p e below s (own_Q0 n0) 16 128 (T108.setTop (mkF m 118 #[.val (.int x0), .val (.int x1), .val (.int x2), .val (.int x3), .val (.int x4), .val (.int x5), .val (.int (2 : Int32)), .val (.int c0), .val (.int c1), .val (.int c2), .val (.int c3), .val (.ref a3), .unset, .unset, .unset, .unset] [(.int (c0 &&& (255 : Int32)))]))
      refine own_go (fun t k => XS.bipush X108.here hx rfl (hb hby at_118) k) ?_
      show own_G p e below s (own_Q0 n0) 16 128 (T108.setTop (mkF m 120 #[.val (.int x0), .val (.int x1), .val (.int x2), .val (.int x3), .val (.int x4), .val (.int x5), .val (.int (2 : Int32)), .val (.int c0), .val (.int c1), .val (.int c2), .val (.int c3), .val (.ref a3), .unset, .unset, .unset, .unset] [(.int (16 : Int32)), (.int (c0 &&& (255 : Int32)))]))
      refine own_go (fun t k => XT.ishl X108.here hx rfl (hb hby at_120) rfl k) ?_
      show own_G p e below s (own_Q0 n0) 16 128 (T108.setTop (mkF m 121 #[.val (.int x0), .val (.int x1), .val (.int x2), .val (.int x3), .val (.int x4), .val (.int x5), .val (.int (2 : Int32)), .val (.int c0), .val (.int c1), .val (.int c2), .val (.int c3), .val (.ref a3), .unset, .unset, .unset, .unset] [(.int ((c0 &&& (255 : Int32)) <<< ((16 : Int32) &&& 31)))]))
      refine own_go (fun t k => XS.iload X108.here hx rfl (hb hby at_121) rfl k) ?_
      show own_G p e below s (own_Q0 n0) 16 128 (T108.setTop (mkF m 123 #[.val (.int x0), .val (.int x1), .val (.int x2), .val (.int x3), .val (.int x4), .val (.int x5), .val (.int (2 : Int32)), .val (.int c0), .val (.int c1), .val (.int c2), .val (.int c3), .val (.ref a3), .unset, .unset, .unset, .unset] [(.int c1), (.int ((c0 &&& (255 : Int32)) <<< ((16 : Int32) &&& 31)))]))
      refine own_go (fun t k => XS.sipush X108.here hx rfl (hb hby at_123) k) ?_
      show own_G p e below s (own_Q0 n0) 16 128 (T108.setTop (mkF m 126 #[.val (.int x0), .val (.int x1), .val (.int x2), .val (.int x3), .val (.int x4), .val (.int x5), .val (.int (2 : Int32)), .val (.int c0), .val (.int c1), .val (.int c2), .val (.int c3), .val (.ref a3), .unset, .unset, .unset, .unset] [(.int (255 : Int32)), (.int c1), (.int ((c0 &&& (255 : Int32)) <<< ((16 : Int32) &&& 31)))]))
      refine own_go (fun t k => XS.iand X108.here hx rfl (hb hby at_126) rfl k) ?_
      show own_G p e below s (own_Q0 n0) 16 128 (T108.setTop (mkF m 127 #[.val (.int x0), .val (.int x1), .val (.int x2), .val (.int x3), .val (.int x4), .val (.int x5), .val (.int (2 : Int32)), .val (.int c0), .val (.int c1), .val (.int c2), .val (.int c3), .val (.ref a3), .unset, .unset, .unset, .unset] [(.int (c1 &&& (255 : Int32))), (.int ((c0 &&& (255 : Int32)) <<< ((16 : Int32) &&& 31)))]))
      refine own_go (fun t k => XS.bipush X108.here hx rfl (hb hby at_127) k) ?_
      show own_G p e below s (own_Q0 n0) 16 128 (T108.setTop (mkF m 129 #[.val (.int x0), .val (.int x1), .val (.int x2), .val (.int x3), .val (.int x4), .val (.int x5), .val (.int (2 : Int32)), .val (.int c0), .val (.int c1), .val (.int c2), .val (.int c3), .val (.ref a3), .unset, .unset, .unset, .unset] [(.int (8 : Int32)), (.int (c1 &&& (255 : Int32))), (.int ((c0 &&& (255 : Int32)) <<< ((16 : Int32) &&& 31)))]))
      refine own_go (fun t k => XT.ishl X108.here hx rfl (hb hby at_129) rfl k) ?_
      show own_G p e below s (own_Q0 n0) 16 128 (T108.setTop (mkF m 130 #[.val (.int x0), .val (.int x1), .val (.int x2), .val (.int x3), .val (.int x4), .val (.int x5), .val (.int (2 : Int32)), .val (.int c0), .val (.int c1), .val (.int c2), .val (.int c3), .val (.ref a3), .unset, .unset, .unset, .unset] [(.int ((c1 &&& (255 : Int32)) <<< ((8 : Int32) &&& 31))), (.int ((c0 &&& (255 : Int32)) <<< ((16 : Int32) &&& 31)))]))
      refine own_go (fun t k => XT.ior X108.here hx rfl (hb hby at_130) rfl k) ?_
      show own_G p e below s (own_Q0 n0) 16 128 (T108.setTop (mkF m 131 #[.val (.int x0), .val (.int x1), .val (.int x2), .val (.int x3), .val (.int x4), .val (.int x5), .val (.int (2 : Int32)), .val (.int c0), .val (.int c1), .val (.int c2), .val (.int c3), .val (.ref a3), .unset, .unset, .unset, .unset] [(.int (((c0 &&& (255 : Int32)) <<< ((16 : Int32) &&& 31)) ||| ((c1 &&& (255 : Int32)) <<< ((8 : Int32) &&& 31))))]))
      refine own_go (fun t k => XS.iload X108.here hx rfl (hb hby at_131) rfl k) ?_
      show own_G p e below s (own_Q0 n0) 16 128 (T108.setTop (mkF m 133 #[.val (.int x0), .val (.int x1), .val (.int x2), .val (.int x3), .val (.int x4), .val (.int x5), .val (.int (2 : Int32)), .val (.int c0), .val (.int c1), .val (.int c2), .val (.int c3), .val (.ref a3), .unset, .unset, .unset, .unset] [(.int c2), (.int (((c0 &&& (255 : Int32)) <<< ((16 : Int32) &&& 31)) ||| ((c1 &&& (255 : Int32)) <<< ((8 : Int32) &&& 31))))]))
      refine own_go (fun t k => XS.sipush X108.here hx rfl (hb hby at_133) k) ?_
      show own_G p e below s (own_Q0 n0) 16 128 (T108.setTop (mkF m 136 #[.val (.int x0), .val (.int x1), .val (.int x2), .val (.int x3), .val (.int x4), .val (.int x5), .val (.int (2 : Int32)), .val (.int c0), .val (.int c1), .val (.int c2), .val (.int c3), .val (.ref a3), .unset, .unset, .unset, .unset] [(.int (255 : Int32)), (.int c2), (.int (((c0 &&& (255 : Int32)) <<< ((16 : Int32) &&& 31)) ||| ((c1 &&& (255 : Int32)) <<< ((8 : Int32) &&& 31))))]))
      refine own_go (fun t k => XS.iand X108.here hx rfl (hb hby at_136) rfl k) ?_
      show own_G p e below s (own_Q0 n0) 16 128 (T108.setTop (mkF m 137 #[.val (.int x0), .val (.int x1), .val (.int x2), .val (.int x3), .val (.int x4), .val (.int x5), .val (.int (2 : Int32)), .val (.int c0), .val (.int c1), .val (.int c2), .val (.int c3), .val (.ref a3), .unset, .unset, .unset, .unset] [(.int (c2 &&& (255 : Int32))), (.int (((c0 &&& (255 : Int32)) <<< ((16 : Int32) &&& 31)) ||| ((c1 &&& (255 : Int32)) <<< ((8 : Int32) &&& 31))))]))
      refine own_go (fun t k => XT.ior X108.here hx rfl (hb hby at_137) rfl k) ?_
      show own_G p e below s (own_Q0 n0) 16 128 (T108.setTop (mkF m 138 #[.val (.int x0), .val (.int x1), .val (.int x2), .val (.int x3), .val (.int x4), .val (.int x5), .val (.int (2 : Int32)), .val (.int c0), .val (.int c1), .val (.int c2), .val (.int c3), .val (.ref a3), .unset, .unset, .unset, .unset] [(.int ((((c0 &&& (255 : Int32)) <<< ((16 : Int32) &&& 31)) ||| ((c1 &&& (255 : Int32)) <<< ((8 : Int32) &&& 31))) ||| (c2 &&& (255 : Int32))))]))
      refine own_go (fun t k => XS.istore X108.here hx rfl (hb hby at_138) rfl (l' := #[.val (.int x0), .val (.int x1), .val (.int x2), .val (.int x3), .val (.int x4), .val (.int x5), .val (.int (2 : Int32)), .val (.int c0), .val (.int c1), .val (.int c2), .val (.int c3), .val (.ref a3), .val (.int ((((c0 &&& (255 : Int32)) <<< ((16 : Int32) &&& 31)) ||| ((c1 &&& (255 : Int32)) <<< ((8 : Int32) &&& 31))) ||| (c2 &&& (255 : Int32)))), .unset, .unset, .unset]) rfl k) ?_
      show own_G p e below s (own_Q0 n0) 16 128 (T108.setTop (mkF m 140 #[.val (.int x0), .val (.int x1), .val (.int x2), .val (.int x3), .val (.int x4), .val (.int x5), .val (.int (2 : Int32)), .val (.int c0), .val (.int c1), .val (.int c2), .val (.int c3), .val (.ref a3), .val (.int ((((c0 &&& (255 : Int32)) <<< ((16 : Int32) &&& 31)) ||| ((c1 &&& (255 : Int32)) <<< ((8 : Int32) &&& 31))) ||| (c2 &&& (255 : Int32)))), .unset, .unset, .unset] []))
      show own_G p e below s (own_Q0 n0) 16 128 (T108.setTop (mkF m 140 #[.val (.int x0), .val (.int x1), .val (.int x2), .val (.int x3), .val (.int x4), .val (.int x5), .val (.int (2 : Int32)), .val (.int c0), .val (.int c1), .val (.int c2), .val (.int c3), .val (.ref a3), .val (.int (own_id c0 c1 c2)), .unset, .unset, .unset] []))
      refine own_go (fun t k => XS.iload X108.here hx rfl (hb hby at_140) rfl k) ?_
      show own_G p e below s (own_Q0 n0) 16 128 (T108.setTop (mkF m 142 #[.val (.int x0), .val (.int x1), .val (.int x2), .val (.int x3), .val (.int x4), .val (.int x5), .val (.int (2 : Int32)), .val (.int c0), .val (.int c1), .val (.int c2), .val (.int c3), .val (.ref a3), .val (.int (own_id c0 c1 c2)), .unset, .unset, .unset] [(.int (2 : Int32))]))
      refine own_go (fun t k => XS.iconst X108.here hx rfl (hb hby at_142) k) ?_
      show own_G p e below s (own_Q0 n0) 16 128 (T108.setTop (mkF m 143 #[.val (.int x0), .val (.int x1), .val (.int x2), .val (.int x3), .val (.int x4), .val (.int x5), .val (.int (2 : Int32)), .val (.int c0), .val (.int c1), .val (.int c2), .val (.int c3), .val (.ref a3), .val (.int (own_id c0 c1 c2)), .unset, .unset, .unset] [(.int (3 : Int32)), (.int (2 : Int32))]))
      have J160 : ∀ (ex : Int32) (hex : own_sm (2 : Int32) c0 c1 c2 = ex), own_G p e below s (own_Q0 n0) 16 128 (T108.setTop (mkF m 160 #[.val (.int x0), .val (.int x1), .val (.int x2), .val (.int x3), .val (.int x4), .val (.int x5), .val (.int (2 : Int32)), .val (.int c0), .val (.int c1), .val (.int c2), .val (.int c3), .val (.ref a3), .val (.int (own_id c0 c1 c2)), .val (.int ex), .unset, .unset] [])) := by
        intro ex hex
        refine own_go (fun t k => XS.aload X108.here hx rfl (hb hby at_160) rfl rfl k) ?_
        show own_G p e below s (own_Q0 n0) 16 128 (T108.setTop (mkF m 162 #[.val (.int x0), .val (.int x1), .val (.int x2), .val (.int x3), .val (.int x4), .val (.int x5), .val (.int (2 : Int32)), .val (.int c0), .val (.int c1), .val (.int c2), .val (.int c3), .val (.ref a3), .val (.int (own_id c0 c1 c2)), .val (.int ex), .unset, .unset] [(.ref a3)]))
        obtain ⟨_, _, ⟨T109, L109, k109, n109⟩, -, X109, ⟨Lc109, hQ109, l109, y109, z109⟩, st109⟩ := Jvm.LawKit.callS X108 hx (y := (⟨"com/example/graphalog/graphalog/io/GzipMembers", "startsMember", "([B)Z"⟩ : MethodName)) hown (mvT hZ (hw _ (List.mem_of_getElem? (i := 2) rfl))) (mvT hZ (hw _ (List.mem_of_getElem? (i := 3) rfl))) (mvT hZ (hw _ (List.mem_of_getElem? (i := 4) rfl))) (mvT hZ (hw _ (List.mem_of_getElem? (i := 5) rfl))) (by decide) (backOf (W := 0) (rm1 l Z a0 hw [] a3 cA106 (2 : Int32) c0 c1 c2 [(.int c0), (.int c1)] h108 V108 (fun q => absurd (by decide) q) (fun q => absurd (by decide) q) (fun q => absurd (by decide) q)) hZ (hw _ (List.mem_of_getElem? (i := 5) rfl)) (hw _ (List.mem_of_getElem? (i := 4) rfl)) (by decide) (by decide)) (g := (mkF m 162 #[.val (.int x0), .val (.int x1), .val (.int x2), .val (.int x3), .val (.int x4), .val (.int x5), .val (.int (2 : Int32)), .val (.int c0), .val (.int c1), .val (.int c2), .val (.int c3), .val (.ref a3), .val (.int (own_id c0 c1 c2)), .val (.int ex), .unset, .unset] [(.ref a3)])) rfl (by rw [hml]; rfl) (argsL := [(.ref a3)]) (rest := []) (lenOf pd1 rfl) rfl (by show 2 * 0 + _ ≤ _; exact Nat.le_of_eq rfl) (hb hby at_162) (fun _ _ => ⟨rfl, e108, (by decide : 1 + 0 ≤ _), (by decide : 2 + 0 ≤ _)⟩)
        dsimp only [Pt.U, Pt.locs, Pt.cells, Pt.slots] at X109 l109 y109 z109 st109 hQ109
        subst l109 y109 z109
        obtain ⟨rfl, rfl, e109⟩ := hQ109
        refine own_go (st109) ?_
        show own_G p e below s (own_Q0 n0) 16 128 (T109.setTop (mkF m 165 #[.val (.int x0), .val (.int x1), .val (.int x2), .val (.int x3), .val (.int x4), .val (.int x5), .val (.int (2 : Int32)), .val (.int c0), .val (.int c1), .val (.int c2), .val (.int c3), .val (.ref a3), .val (.int (own_id c0 c1 c2)), .val (.int ex), .unset, .unset] [(.int (own_sm (2 : Int32) c0 c1 c2))]))
        refine own_go (fun t k => XS.istore X109.here hx rfl (hb hby at_165) rfl (l' := #[.val (.int x0), .val (.int x1), .val (.int x2), .val (.int x3), .val (.int x4), .val (.int x5), .val (.int (2 : Int32)), .val (.int c0), .val (.int c1), .val (.int c2), .val (.int c3), .val (.ref a3), .val (.int (own_id c0 c1 c2)), .val (.int ex), .val (.int (own_sm (2 : Int32) c0 c1 c2)), .unset]) rfl k) ?_
        show own_G p e below s (own_Q0 n0) 16 128 (T109.setTop (mkF m 167 #[.val (.int x0), .val (.int x1), .val (.int x2), .val (.int x3), .val (.int x4), .val (.int x5), .val (.int (2 : Int32)), .val (.int c0), .val (.int c1), .val (.int c2), .val (.int c3), .val (.ref a3), .val (.int (own_id c0 c1 c2)), .val (.int ex), .val (.int (own_sm (2 : Int32) c0 c1 c2)), .unset] []))
        refine own_go (fun t k => XS.iload X109.here hx rfl (hb hby at_167) rfl k) ?_
        show own_G p e below s (own_Q0 n0) 16 128 (T109.setTop (mkF m 169 #[.val (.int x0), .val (.int x1), .val (.int x2), .val (.int x3), .val (.int x4), .val (.int x5), .val (.int (2 : Int32)), .val (.int c0), .val (.int c1), .val (.int c2), .val (.int c3), .val (.ref a3), .val (.int (own_id c0 c1 c2)), .val (.int ex), .val (.int (own_sm (2 : Int32) c0 c1 c2)), .unset] [(.int (2 : Int32))]))
        refine own_go (fun t k => XS.iconst X109.here hx rfl (hb hby at_169) k) ?_
        show own_G p e below s (own_Q0 n0) 16 128 (T109.setTop (mkF m 170 #[.val (.int x0), .val (.int x1), .val (.int x2), .val (.int x3), .val (.int x4), .val (.int x5), .val (.int (2 : Int32)), .val (.int c0), .val (.int c1), .val (.int c2), .val (.int c3), .val (.ref a3), .val (.int (own_id c0 c1 c2)), .val (.int ex), .val (.int (own_sm (2 : Int32) c0 c1 c2)), .unset] [(.int (1 : Int32)), (.int (2 : Int32))]))
        refine own_go (fun t k => XS.icmpNo X109.here hx rfl (hb hby at_170) rfl (XT.ii_lt_f (by decide)) k) ?_
        show own_G p e below s (own_Q0 n0) 16 128 (T109.setTop (mkF m 173 #[.val (.int x0), .val (.int x1), .val (.int x2), .val (.int x3), .val (.int x4), .val (.int x5), .val (.int (2 : Int32)), .val (.int c0), .val (.int c1), .val (.int c2), .val (.int c3), .val (.ref a3), .val (.int (own_id c0 c1 c2)), .val (.int ex), .val (.int (own_sm (2 : Int32) c0 c1 c2)), .unset] []))
        refine own_go (fun t k => XS.aload X109.here hx rfl (hb hby at_173) rfl rfl k) ?_
        show own_G p e below s (own_Q0 n0) 16 128 (T109.setTop (mkF m 175 #[.val (.int x0), .val (.int x1), .val (.int x2), .val (.int x3), .val (.int x4), .val (.int x5), .val (.int (2 : Int32)), .val (.int c0), .val (.int c1), .val (.int c2), .val (.int c3), .val (.ref a3), .val (.int (own_id c0 c1 c2)), .val (.int ex), .val (.int (own_sm (2 : Int32) c0 c1 c2)), .unset] [(.ref a3)]))
        refine own_go (fun t k => XS.iconst X109.here hx rfl (hb hby at_175) k) ?_
        show own_G p e below s (own_Q0 n0) 16 128 (T109.setTop (mkF m 176 #[.val (.int x0), .val (.int x1), .val (.int x2), .val (.int x3), .val (.int x4), .val (.int x5), .val (.int (2 : Int32)), .val (.int c0), .val (.int c1), .val (.int c2), .val (.int c3), .val (.ref a3), .val (.int (own_id c0 c1 c2)), .val (.int ex), .val (.int (own_sm (2 : Int32) c0 c1 c2)), .unset] [(.int (0 : Int32)), (.ref a3)]))
        refine own_go (own_ldB X109 hx hZ e109 V108 (j := (0 : Int32)) (v := (.int c0)) ⟨by decide, by decide⟩ rfl (g := (mkF m 176 #[.val (.int x0), .val (.int x1), .val (.int x2), .val (.int x3), .val (.int x4), .val (.int x5), .val (.int (2 : Int32)), .val (.int c0), .val (.int c1), .val (.int c2), .val (.int c3), .val (.ref a3), .val (.int (own_id c0 c1 c2)), .val (.int ex), .val (.int (own_sm (2 : Int32) c0 c1 c2)), .unset] [(.int (0 : Int32)), (.ref a3)])) rfl rfl (hb hby at_176)) ?_
        show own_G p e below s (own_Q0 n0) 16 128 (T109.setTop (mkF m 177 #[.val (.int x0), .val (.int x1), .val (.int x2), .val (.int x3), .val (.int x4), .val (.int x5), .val (.int (2 : Int32)), .val (.int c0), .val (.int c1), .val (.int c2), .val (.int c3), .val (.ref a3), .val (.int (own_id c0 c1 c2)), .val (.int ex), .val (.int (own_sm (2 : Int32) c0 c1 c2)), .unset] [(.int c0)]))
        refine own_go (fun t k => XS.iload X109.here hx rfl (hb hby at_177) rfl k) ?_
        show own_G p e below s (own_Q0 n0) 16 128 (T109.setTop (mkF m 179 #[.val (.int x0), .val (.int x1), .val (.int x2), .val (.int x3), .val (.int x4), .val (.int x5), .val (.int (2 : Int32)), .val (.int c0), .val (.int c1), .val (.int c2), .val (.int c3), .val (.ref a3), .val (.int (own_id c0 c1 c2)), .val (.int ex), .val (.int (own_sm (2 : Int32) c0 c1 c2)), .unset] [(.int c0), (.int c0)]))
        refine own_go (fun t k => XS.icmpNo X109.here hx rfl (hb hby at_179) rfl (XT.ii_ne_f rfl) k) ?_
        show own_G p e below s (own_Q0 n0) 16 128 (T109.setTop (mkF m 182 #[.val (.int x0), .val (.int x1), .val (.int x2), .val (.int x3), .val (.int x4), .val (.int x5), .val (.int (2 : Int32)), .val (.int c0), .val (.int c1), .val (.int c2), .val (.int c3), .val (.ref a3), .val (.int (own_id c0 c1 c2)), .val (.int ex), .val (.int (own_sm (2 : Int32) c0 c1 c2)), .unset] []))
        refine own_go (fun t k => XS.iload X109.here hx rfl (hb hby at_182) rfl k) ?_
        show own_G p e below s (own_Q0 n0) 16 128 (T109.setTop (mkF m 184 #[.val (.int x0), .val (.int x1), .val (.int x2), .val (.int x3), .val (.int x4), .val (.int x5), .val (.int (2 : Int32)), .val (.int c0), .val (.int c1), .val (.int c2), .val (.int c3), .val (.ref a3), .val (.int (own_id c0 c1 c2)), .val (.int ex), .val (.int (own_sm (2 : Int32) c0 c1 c2)), .unset] [(.int (2 : Int32))]))
        refine own_go (fun t k => XS.iconst X109.here hx rfl (hb hby at_184) k) ?_
        show own_G p e below s (own_Q0 n0) 16 128 (T109.setTop (mkF m 185 #[.val (.int x0), .val (.int x1), .val (.int x2), .val (.int x3), .val (.int x4), .val (.int x5), .val (.int (2 : Int32)), .val (.int c0), .val (.int c1), .val (.int c2), .val (.int c3), .val (.ref a3), .val (.int (own_id c0 c1 c2)), .val (.int ex), .val (.int (own_sm (2 : Int32) c0 c1 c2)), .unset] [(.int (2 : Int32)), (.int (2 : Int32))]))
        refine own_go (fun t k => XS.icmpNo X109.here hx rfl (hb hby at_185) rfl (XT.ii_lt_f (by decide)) k) ?_
        show own_G p e below s (own_Q0 n0) 16 128 (T109.setTop (mkF m 188 #[.val (.int x0), .val (.int x1), .val (.int x2), .val (.int x3), .val (.int x4), .val (.int x5), .val (.int (2 : Int32)), .val (.int c0), .val (.int c1), .val (.int c2), .val (.int c3), .val (.ref a3), .val (.int (own_id c0 c1 c2)), .val (.int ex), .val (.int (own_sm (2 : Int32) c0 c1 c2)), .unset] []))
        refine own_go (fun t k => XS.aload X109.here hx rfl (hb hby at_188) rfl rfl k) ?_
        show own_G p e below s (own_Q0 n0) 16 128 (T109.setTop (mkF m 190 #[.val (.int x0), .val (.int x1), .val (.int x2), .val (.int x3), .val (.int x4), .val (.int x5), .val (.int (2 : Int32)), .val (.int c0), .val (.int c1), .val (.int c2), .val (.int c3), .val (.ref a3), .val (.int (own_id c0 c1 c2)), .val (.int ex), .val (.int (own_sm (2 : Int32) c0 c1 c2)), .unset] [(.ref a3)]))
        refine own_go (fun t k => XS.iconst X109.here hx rfl (hb hby at_190) k) ?_
        show own_G p e below s (own_Q0 n0) 16 128 (T109.setTop (mkF m 191 #[.val (.int x0), .val (.int x1), .val (.int x2), .val (.int x3), .val (.int x4), .val (.int x5), .val (.int (2 : Int32)), .val (.int c0), .val (.int c1), .val (.int c2), .val (.int c3), .val (.ref a3), .val (.int (own_id c0 c1 c2)), .val (.int ex), .val (.int (own_sm (2 : Int32) c0 c1 c2)), .unset] [(.int (1 : Int32)), (.ref a3)]))
        refine own_go (own_ldB X109 hx hZ e109 V108 (j := (1 : Int32)) (v := (.int c1)) ⟨by decide, by decide⟩ rfl (g := (mkF m 191 #[.val (.int x0), .val (.int x1), .val (.int x2), .val (.int x3), .val (.int x4), .val (.int x5), .val (.int (2 : Int32)), .val (.int c0), .val (.int c1), .val (.int c2), .val (.int c3), .val (.ref a3), .val (.int (own_id c0 c1 c2)), .val (.int ex), .val (.int (own_sm (2 : Int32) c0 c1 c2)), .unset] [(.int (1 : Int32)), (.ref a3)])) rfl rfl (hb hby at_191)) ?_
        show own_G p e below s (own_Q0 n0) 16 128 (T109.setTop (mkF m 192 #[.val (.int x0), .val (.int x1), .val (.int x2), .val (.int x3), .val (.int x4), .val (.int x5), .val (.int (2 : Int32)), .val (.int c0), .val (.int c1), .val (.int c2), .val (.int c3), .val (.ref a3), .val (.int (own_id c0 c1 c2)), .val (.int ex), .val (.int (own_sm (2 : Int32) c0 c1 c2)), .unset] [(.int c1)]))
        refine own_go (fun t k => XS.iload X109.here hx rfl (hb hby at_192) rfl k) ?_
        show own_G p e below s (own_Q0 n0) 16 128 (T109.setTop (mkF m 194 #[.val (.int x0), .val (.int x1), .val (.int x2), .val (.int x3), .val (.int x4), .val (.int x5), .val (.int (2 : Int32)), .val (.int c0), .val (.int c1), .val (.int c2), .val (.int c3), .val (.ref a3), .val (.int (own_id c0 c1 c2)), .val (.int ex), .val (.int (own_sm (2 : Int32) c0 c1 c2)), .unset] [(.int c1), (.int c1)]))
        refine own_go (fun t k => XS.icmpNo X109.here hx rfl (hb hby at_194) rfl (XT.ii_ne_f rfl) k) ?_
        show own_G p e below s (own_Q0 n0) 16 128 (T109.setTop (mkF m 197 #[.val (.int x0), .val (.int x1), .val (.int x2), .val (.int x3), .val (.int x4), .val (.int x5), .val (.int (2 : Int32)), .val (.int c0), .val (.int c1), .val (.int c2), .val (.int c3), .val (.ref a3), .val (.int (own_id c0 c1 c2)), .val (.int ex), .val (.int (own_sm (2 : Int32) c0 c1 c2)), .unset] []))
        refine own_go (fun t k => XS.iload X109.here hx rfl (hb hby at_197) rfl k) ?_
        show own_G p e below s (own_Q0 n0) 16 128 (T109.setTop (mkF m 199 #[.val (.int x0), .val (.int x1), .val (.int x2), .val (.int x3), .val (.int x4), .val (.int x5), .val (.int (2 : Int32)), .val (.int c0), .val (.int c1), .val (.int c2), .val (.int c3), .val (.ref a3), .val (.int (own_id c0 c1 c2)), .val (.int ex), .val (.int (own_sm (2 : Int32) c0 c1 c2)), .unset] [(.int (2 : Int32))]))
        refine own_go (fun t k => XS.iconst X109.here hx rfl (hb hby at_199) k) ?_
        show own_G p e below s (own_Q0 n0) 16 128 (T109.setTop (mkF m 200 #[.val (.int x0), .val (.int x1), .val (.int x2), .val (.int x3), .val (.int x4), .val (.int x5), .val (.int (2 : Int32)), .val (.int c0), .val (.int c1), .val (.int c2), .val (.int c3), .val (.ref a3), .val (.int (own_id c0 c1 c2)), .val (.int ex), .val (.int (own_sm (2 : Int32) c0 c1 c2)), .unset] [(.int (3 : Int32)), (.int (2 : Int32))]))
        refine own_go (fun t k => XS.icmpYes X109.here hx rfl (pc0 := 200) (pc' := 212) rfl (hb hby at_200) rfl (XT.ii_lt_t (by decide)) (by decide) (by decide) k) ?_
        show own_G p e below s (own_Q0 n0) 16 128 (T109.setTop (mkF m 212 #[.val (.int x0), .val (.int x1), .val (.int x2), .val (.int x3), .val (.int x4), .val (.int x5), .val (.int (2 : Int32)), .val (.int c0), .val (.int c1), .val (.int c2), .val (.int c3), .val (.ref a3), .val (.int (own_id c0 c1 c2)), .val (.int ex), .val (.int (own_sm (2 : Int32) c0 c1 c2)), .unset] []))
        refine own_go (fun t k => XS.iload X109.here hx rfl (hb hby at_212) rfl k) ?_
        show own_G p e below s (own_Q0 n0) 16 128 (T109.setTop (mkF m 214 #[.val (.int x0), .val (.int x1), .val (.int x2), .val (.int x3), .val (.int x4), .val (.int x5), .val (.int (2 : Int32)), .val (.int c0), .val (.int c1), .val (.int c2), .val (.int c3), .val (.ref a3), .val (.int (own_id c0 c1 c2)), .val (.int ex), .val (.int (own_sm (2 : Int32) c0 c1 c2)), .unset] [(.int (2 : Int32))]))
        refine own_go (fun t k => XS.iconst X109.here hx rfl (hb hby at_214) k) ?_
        show own_G p e below s (own_Q0 n0) 16 128 (T109.setTop (mkF m 215 #[.val (.int x0), .val (.int x1), .val (.int x2), .val (.int x3), .val (.int x4), .val (.int x5), .val (.int (2 : Int32)), .val (.int c0), .val (.int c1), .val (.int c2), .val (.int c3), .val (.ref a3), .val (.int (own_id c0 c1 c2)), .val (.int ex), .val (.int (own_sm (2 : Int32) c0 c1 c2)), .unset] [(.int (4 : Int32)), (.int (2 : Int32))]))
        refine own_go (fun t k => XS.icmpYes X109.here hx rfl (pc0 := 215) (pc' := 227) rfl (hb hby at_215) rfl (XT.ii_lt_t (by decide)) (by decide) (by decide) k) ?_
        show own_G p e below s (own_Q0 n0) 16 128 (T109.setTop (mkF m 227 #[.val (.int x0), .val (.int x1), .val (.int x2), .val (.int x3), .val (.int x4), .val (.int x5), .val (.int (2 : Int32)), .val (.int c0), .val (.int c1), .val (.int c2), .val (.int c3), .val (.ref a3), .val (.int (own_id c0 c1 c2)), .val (.int ex), .val (.int (own_sm (2 : Int32) c0 c1 c2)), .unset] []))
        refine own_go (fun t k => XS.iconst X109.here hx rfl (hb hby at_227) k) ?_
        show own_G p e below s (own_Q0 n0) 16 128 (T109.setTop (mkF m 228 #[.val (.int x0), .val (.int x1), .val (.int x2), .val (.int x3), .val (.int x4), .val (.int x5), .val (.int (2 : Int32)), .val (.int c0), .val (.int c1), .val (.int c2), .val (.int c3), .val (.ref a3), .val (.int (own_id c0 c1 c2)), .val (.int ex), .val (.int (own_sm (2 : Int32) c0 c1 c2)), .unset] [(.int (1 : Int32))]))
        refine own_go (fun t k => XS.goto X109.here hx rfl (pc0 := 228) (pc' := 232) rfl (hb hby at_228) (by decide) (by decide) k) ?_
        show own_G p e below s (own_Q0 n0) 16 128 (T109.setTop (mkF m 232 #[.val (.int x0), .val (.int x1), .val (.int x2), .val (.int x3), .val (.int x4), .val (.int x5), .val (.int (2 : Int32)), .val (.int c0), .val (.int c1), .val (.int c2), .val (.int c3), .val (.ref a3), .val (.int (own_id c0 c1 c2)), .val (.int ex), .val (.int (own_sm (2 : Int32) c0 c1 c2)), .unset] [(.int (1 : Int32))]))
        refine own_go (fun t k => XS.istore X109.here hx rfl (hb hby at_232) rfl (l' := #[.val (.int x0), .val (.int x1), .val (.int x2), .val (.int x3), .val (.int x4), .val (.int x5), .val (.int (2 : Int32)), .val (.int c0), .val (.int c1), .val (.int c2), .val (.int c3), .val (.ref a3), .val (.int (own_id c0 c1 c2)), .val (.int ex), .val (.int (own_sm (2 : Int32) c0 c1 c2)), .val (.int (1 : Int32))]) rfl k) ?_
        show own_G p e below s (own_Q0 n0) 16 128 (T109.setTop (mkF m 234 #[.val (.int x0), .val (.int x1), .val (.int x2), .val (.int x3), .val (.int x4), .val (.int x5), .val (.int (2 : Int32)), .val (.int c0), .val (.int c1), .val (.int c2), .val (.int c3), .val (.ref a3), .val (.int (own_id c0 c1 c2)), .val (.int ex), .val (.int (own_sm (2 : Int32) c0 c1 c2)), .val (.int (1 : Int32))] []))
        refine own_go (fun t k => XS.iload X109.here hx rfl (hb hby at_234) rfl k) ?_
        show own_G p e below s (own_Q0 n0) 16 128 (T109.setTop (mkF m 236 #[.val (.int x0), .val (.int x1), .val (.int x2), .val (.int x3), .val (.int x4), .val (.int x5), .val (.int (2 : Int32)), .val (.int c0), .val (.int c1), .val (.int c2), .val (.int c3), .val (.ref a3), .val (.int (own_id c0 c1 c2)), .val (.int ex), .val (.int (own_sm (2 : Int32) c0 c1 c2)), .val (.int (1 : Int32))] [(.int (own_sm (2 : Int32) c0 c1 c2))]))
        refine own_go (fun t k => XS.iload X109.here hx rfl (hb hby at_236) rfl k) ?_
        show own_G p e below s (own_Q0 n0) 16 128 (T109.setTop (mkF m 238 #[.val (.int x0), .val (.int x1), .val (.int x2), .val (.int x3), .val (.int x4), .val (.int x5), .val (.int (2 : Int32)), .val (.int c0), .val (.int c1), .val (.int c2), .val (.int c3), .val (.ref a3), .val (.int (own_id c0 c1 c2)), .val (.int ex), .val (.int (own_sm (2 : Int32) c0 c1 c2)), .val (.int (1 : Int32))] [(.int ex), (.int (own_sm (2 : Int32) c0 c1 c2))]))
        refine own_go (fun t k => XS.icmpNo X109.here hx rfl (hb hby at_238) rfl (XT.ii_ne_f hex) k) ?_
        show own_G p e below s (own_Q0 n0) 16 128 (T109.setTop (mkF m 241 #[.val (.int x0), .val (.int x1), .val (.int x2), .val (.int x3), .val (.int x4), .val (.int x5), .val (.int (2 : Int32)), .val (.int c0), .val (.int c1), .val (.int c2), .val (.int c3), .val (.ref a3), .val (.int (own_id c0 c1 c2)), .val (.int ex), .val (.int (own_sm (2 : Int32) c0 c1 c2)), .val (.int (1 : Int32))] []))
        refine own_go (fun t k => XS.iload X109.here hx rfl (hb hby at_241) rfl k) ?_
        show own_G p e below s (own_Q0 n0) 16 128 (T109.setTop (mkF m 243 #[.val (.int x0), .val (.int x1), .val (.int x2), .val (.int x3), .val (.int x4), .val (.int x5), .val (.int (2 : Int32)), .val (.int c0), .val (.int c1), .val (.int c2), .val (.int c3), .val (.ref a3), .val (.int (own_id c0 c1 c2)), .val (.int ex), .val (.int (own_sm (2 : Int32) c0 c1 c2)), .val (.int (1 : Int32))] [(.int (1 : Int32))]))
        refine own_go (fun t k => XS.ifNo X109.here hx rfl (hb hby at_243) rfl (XT.i0_eq_f (by decide)) k) ?_
        show own_G p e below s (own_Q0 n0) 16 128 (T109.setTop (mkF m 246 #[.val (.int x0), .val (.int x1), .val (.int x2), .val (.int x3), .val (.int x4), .val (.int x5), .val (.int (2 : Int32)), .val (.int c0), .val (.int c1), .val (.int c2), .val (.int c3), .val (.ref a3), .val (.int (own_id c0 c1 c2)), .val (.int ex), .val (.int (own_sm (2 : Int32) c0 c1 c2)), .val (.int (1 : Int32))] []))
        refine own_go (fun t k => XS.aload X109.here hx rfl (hb hby at_246) rfl rfl k) ?_
        show own_G p e below s (own_Q0 n0) 16 128 (T109.setTop (mkF m 248 #[.val (.int x0), .val (.int x1), .val (.int x2), .val (.int x3), .val (.int x4), .val (.int x5), .val (.int (2 : Int32)), .val (.int c0), .val (.int c1), .val (.int c2), .val (.int c3), .val (.ref a3), .val (.int (own_id c0 c1 c2)), .val (.int ex), .val (.int (own_sm (2 : Int32) c0 c1 c2)), .val (.int (1 : Int32))] [(.ref a3)]))
        refine own_go (own_len X109 hx hZ e109 V108 (g := (mkF m 248 #[.val (.int x0), .val (.int x1), .val (.int x2), .val (.int x3), .val (.int x4), .val (.int x5), .val (.int (2 : Int32)), .val (.int c0), .val (.int c1), .val (.int c2), .val (.int c3), .val (.ref a3), .val (.int (own_id c0 c1 c2)), .val (.int ex), .val (.int (own_sm (2 : Int32) c0 c1 c2)), .val (.int (1 : Int32))] [(.ref a3)])) rfl rfl (hb hby at_248)) ?_
        show own_G p e below s (own_Q0 n0) 16 128 (T109.setTop (mkF m 249 #[.val (.int x0), .val (.int x1), .val (.int x2), .val (.int x3), .val (.int x4), .val (.int x5), .val (.int (2 : Int32)), .val (.int c0), .val (.int c1), .val (.int c2), .val (.int c3), .val (.ref a3), .val (.int (own_id c0 c1 c2)), .val (.int ex), .val (.int (own_sm (2 : Int32) c0 c1 c2)), .val (.int (1 : Int32))] [(.int (2 : Int32))]))
        refine own_go (fun t k => XS.iload X109.here hx rfl (hb hby at_249) rfl k) ?_
        show own_G p e below s (own_Q0 n0) 16 128 (T109.setTop (mkF m 251 #[.val (.int x0), .val (.int x1), .val (.int x2), .val (.int x3), .val (.int x4), .val (.int x5), .val (.int (2 : Int32)), .val (.int c0), .val (.int c1), .val (.int c2), .val (.int c3), .val (.ref a3), .val (.int (own_id c0 c1 c2)), .val (.int ex), .val (.int (own_sm (2 : Int32) c0 c1 c2)), .val (.int (1 : Int32))] [(.int (2 : Int32)), (.int (2 : Int32))]))
        refine own_go (fun t k => XS.icmpNo X109.here hx rfl (hb hby at_251) rfl (XT.ii_ne_f rfl) k) ?_
        show own_G p e below s (own_Q0 n0) 16 128 (T109.setTop (mkF m 254 #[.val (.int x0), .val (.int x1), .val (.int x2), .val (.int x3), .val (.int x4), .val (.int x5), .val (.int (2 : Int32)), .val (.int c0), .val (.int c1), .val (.int c2), .val (.int c3), .val (.ref a3), .val (.int (own_id c0 c1 c2)), .val (.int ex), .val (.int (own_sm (2 : Int32) c0 c1 c2)), .val (.int (1 : Int32))] []))
        refine own_go (fun t k => XS.iconst X109.here hx rfl (hb hby at_254) k) ?_
        show own_G p e below s (own_Q0 n0) 16 128 (T109.setTop (mkF m 255 #[.val (.int x0), .val (.int x1), .val (.int x2), .val (.int x3), .val (.int x4), .val (.int x5), .val (.int (2 : Int32)), .val (.int c0), .val (.int c1), .val (.int c2), .val (.int c3), .val (.ref a3), .val (.int (own_id c0 c1 c2)), .val (.int ex), .val (.int (own_sm (2 : Int32) c0 c1 c2)), .val (.int (1 : Int32))] [(.int (1 : Int32))]))
        refine own_go (fun t k => XS.goto X109.here hx rfl (pc0 := 255) (pc' := 259) rfl (hb hby at_255) (by decide) (by decide) k) ?_
        show own_G p e below s (own_Q0 n0) 16 128 (T109.setTop (mkF m 259 #[.val (.int x0), .val (.int x1), .val (.int x2), .val (.int x3), .val (.int x4), .val (.int x5), .val (.int (2 : Int32)), .val (.int c0), .val (.int c1), .val (.int c2), .val (.int c3), .val (.ref a3), .val (.int (own_id c0 c1 c2)), .val (.int ex), .val (.int (own_sm (2 : Int32) c0 c1 c2)), .val (.int (1 : Int32))] [(.int (1 : Int32))]))
        exact own_leave X109 (some (.int (1 : Int32))) (fun h => by rw [Bd.returns] at h; cases h) Bd.notSynchronized (fun fs hr => retN X109 hx (t := .boolean) Bd.returns (by simp) (hb hby at_259) hr) ⟨rfl, (Fr.app N108 (Fr.nil n0))⟩ (by decide) (by decide)
      refine own_go (fun t k => XS.icmpYes X108.here hx rfl (pc0 := 143) (pc' := 157) rfl (hb hby at_143) rfl (XT.ii_lt_t (by decide)) (by decide) (by decide) k) ?_
      show own_G p e below s (own_Q0 n0) 16 128 (T108.setTop (mkF m 157 #[.val (.int x0), .val (.int x1), .val (.int x2), .val (.int x3), .val (.int x4), .val (.int x5), .val (.int (2 : Int32)), .val (.int c0), .val (.int c1), .val (.int c2), .val (.int c3), .val (.ref a3), .val (.int (own_id c0 c1 c2)), .unset, .unset, .unset] []))
      refine own_go (fun t k => XS.iconst X108.here hx rfl (hb hby at_157) k) ?_
      show own_G p e below s (own_Q0 n0) 16 128 (T108.setTop (mkF m 158 #[.val (.int x0), .val (.int x1), .val (.int x2), .val (.int x3), .val (.int x4), .val (.int x5), .val (.int (2 : Int32)), .val (.int c0), .val (.int c1), .val (.int c2), .val (.int c3), .val (.ref a3), .val (.int (own_id c0 c1 c2)), .unset, .unset, .unset] [(.int (0 : Int32))]))
      refine own_go (fun t k => XS.istore X108.here hx rfl (hb hby at_158) rfl (l' := #[.val (.int x0), .val (.int x1), .val (.int x2), .val (.int x3), .val (.int x4), .val (.int x5), .val (.int (2 : Int32)), .val (.int c0), .val (.int c1), .val (.int c2), .val (.int c3), .val (.ref a3), .val (.int (own_id c0 c1 c2)), .val (.int (0 : Int32)), .unset, .unset]) rfl k) ?_
      show own_G p e below s (own_Q0 n0) 16 128 (T108.setTop (mkF m 160 #[.val (.int x0), .val (.int x1), .val (.int x2), .val (.int x3), .val (.int x4), .val (.int x5), .val (.int (2 : Int32)), .val (.int c0), .val (.int c1), .val (.int c2), .val (.int c3), .val (.ref a3), .val (.int (own_id c0 c1 c2)), .val (.int (0 : Int32)), .unset, .unset] []))
      exact J160 _ (own_sm_s (by decide))
    · skip
      show own_G p e below s (own_Q0 n0) 16 128 (s₁.setTop (mkF m 59 #[.val (.int x0), .val (.int x1), .val (.int x2), .val (.int x3), .val (.int x4), .val (.int x5), .val (.int (3 : Int32)), .val (.int c0), .val (.int c1), .val (.int c2), .val (.int c3), .unset, .unset, .unset, .unset, .unset] []))
      refine own_go (fun t k => XS.iload X0.here hx rfl (hb hby at_59) rfl k) ?_
      show own_G p e below s (own_Q0 n0) 16 128 (s₁.setTop (mkF m 61 #[.val (.int x0), .val (.int x1), .val (.int x2), .val (.int x3), .val (.int x4), .val (.int x5), .val (.int (3 : Int32)), .val (.int c0), .val (.int c1), .val (.int c2), .val (.int c3), .unset, .unset, .unset, .unset, .unset] [(.int (3 : Int32))]))
      obtain ⟨T110, h110, cA110, X110, e110, E110, A110, st110⟩ := newP X0 hx hZ (hw _ (List.mem_of_getElem? (i := 1) rfl)) e0 (g := (mkF m 61 #[.val (.int x0), .val (.int x1), .val (.int x2), .val (.int x3), .val (.int x4), .val (.int x5), .val (.int (3 : Int32)), .val (.int c0), .val (.int c1), .val (.int c2), .val (.int c3), .unset, .unset, .unset, .unset, .unset] [(.int (3 : Int32))])) rfl (hb hby at_61) rfl (by decide) (cap := 3) (by decide) (by decide) (by decide) (by decide)
      obtain ⟨a3, g110⟩ : ∃ z, z = h0.size := ⟨_, rfl⟩
      rw [← g110] at A110 st110
      have V110 : Arv Z h110 a3 cA110 .byte (3 : Int32) [(.int 0), (.int 0), (.int 0)] (.int 0) := (Arv.new A110 (by decide)).pad (pad_rep [] (.int 0) 3)
      refine own_go st110 ?_
      show own_G p e below s (own_Q0 n0) 16 128 (T110.setTop (mkF m 63 #[.val (.int x0), .val (.int x1), .val (.int x2), .val (.int x3), .val (.int x4), .val (.int x5), .val (.int (3 : Int32)), .val (.int c0), .val (.int c1), .val (.int c2), .val (.int c3), .unset, .unset, .unset, .unset, .unset] [(.ref a3)]))
      have g3 : n0 ≤ a3 := Nat.le_trans Z0 (Nat.le_of_eq g110.symm)
      refine own_go (fun t k => XS.astore X110.here hx rfl (hb hby at_63) rfl rfl (l' := #[.val (.int x0), .val (.int x1), .val (.int x2), .val (.int x3), .val (.int x4), .val (.int x5), .val (.int (3 : Int32)), .val (.int c0), .val (.int c1), .val (.int c2), .val (.int c3), .val (.ref a3), .unset, .unset, .unset, .unset]) rfl k) ?_
      show own_G p e below s (own_Q0 n0) 16 128 (T110.setTop (mkF m 65 #[.val (.int x0), .val (.int x1), .val (.int x2), .val (.int x3), .val (.int x4), .val (.int x5), .val (.int (3 : Int32)), .val (.int c0), .val (.int c1), .val (.int c2), .val (.int c3), .val (.ref a3), .unset, .unset, .unset, .unset] []))
      refine own_go (fun t k => XS.iload X110.here hx rfl (hb hby at_65) rfl k) ?_
      show own_G p e below s (own_Q0 n0) 16 128 (T110.setTop (mkF m 67 #[.val (.int x0), .val (.int x1), .val (.int x2), .val (.int x3), .val (.int x4), .val (.int x5), .val (.int (3 : Int32)), .val (.int c0), .val (.int c1), .val (.int c2), .val (.int c3), .val (.ref a3), .unset, .unset, .unset, .unset] [(.int (3 : Int32))]))
      refine own_go (fun t k => XS.ifNo X110.here hx rfl (hb hby at_67) rfl (XT.i0_le_f (by decide)) k) ?_
      show own_G p e below s (own_Q0 n0) 16 128 (T110.setTop (mkF m 70 #[.val (.int x0), .val (.int x1), .val (.int x2), .val (.int x3), .val (.int x4), .val (.int x5), .val (.int (3 : Int32)), .val (.int c0), .val (.int c1), .val (.int c2), .val (.int c3), .val (.ref a3), .unset, .unset, .unset, .unset] []))
      refine own_go (fun t k => XS.aload X110.here hx rfl (hb hby at_70) rfl rfl k) ?_
      show own_G p e below s (own_Q0 n0) 16 128 (T110.setTop (mkF m 72 #[.val (.int x0), .val (.int x1), .val (.int x2), .val (.int x3), .val (.int x4), .val (.int x5), .val (.int (3 : Int32)), .val (.int c0), .val (.int c1), .val (.int c2), .val (.int c3), .val (.ref a3), .unset, .unset, .unset, .unset] [(.ref a3)]))
      refine own_go (fun t k => XS.iconst X110.here hx rfl (hb hby at_72) k) ?_
      show own_G p e below s (own_Q0 n0) 16 128 (T110.setTop (mkF m 73 #[.val (.int x0), .val (.int x1), .val (.int x2), .val (.int x3), .val (.int x4), .val (.int x5), .val (.int (3 : Int32)), .val (.int c0), .val (.int c1), .val (.int c2), .val (.int c3), .val (.ref a3), .unset, .unset, .unset, .unset] [(.int (0 : Int32)), (.ref a3)]))
      refine own_go (fun t k => XS.iload X110.here hx rfl (hb hby at_73) rfl k) ?_
      show own_G p e below s (own_Q0 n0) 16 128 (T110.setTop (mkF m 75 #[.val (.int x0), .val (.int x1), .val (.int x2), .val (.int x3), .val (.int x4), .val (.int x5), .val (.int (3 : Int32)), .val (.int c0), .val (.int c1), .val (.int c2), .val (.int c3), .val (.ref a3), .unset, .unset, .unset, .unset] [(.int c0), (.int (0 : Int32)), (.ref a3)]))
      obtain ⟨T111, h111, X111, e111, W111, V111, st111⟩ := own_stB X110 hx hZ e110 V110 (j := (0 : Int32)) ⟨by decide, by decide⟩ 0 (by decide) (by simp) (vs' := [(.int c0), (.int 0), (.int 0)]) (by rw [m0]; rfl) (g := (mkF m 75 #[.val (.int x0), .val (.int x1), .val (.int x2), .val (.int x3), .val (.int x4), .val (.int x5), .val (.int (3 : Int32)), .val (.int c0), .val (.int c1), .val (.int c2), .val (.int c3), .val (.ref a3), .unset, .unset, .unset, .unset] [(.int c0), (.int (0 : Int32)), (.ref a3)])) rfl rfl (hb hby at_75)
      have N111 := Fr.snoc X111 (Fr.nil n0) g3
      refine own_go st111 ?_
      show own_G p e below s (own_Q0 n0) 16 128 (T111.setTop (mkF m 76 #[.val (.int x0), .val (.int x1), .val (.int x2), .val (.int x3), .val (.int x4), .val (.int x5), .val (.int (3 : Int32)), .val (.int c0), .val (.int c1), .val (.int c2), .val (.int c3), .val (.ref a3), .unset, .unset, .unset, .unset] []))
      refine own_go (fun t k => XS.iload X111.here hx rfl (hb hby at_76) rfl k) ?_
      show own_G p e below s (own_Q0 n0) 16 128 (T111.setTop (mkF m 78 #[.val (.int x0), .val (.int x1), .val (.int x2), .val (.int x3), .val (.int x4), .val (.int x5), .val (.int (3 : Int32)), .val (.int c0), .val (.int c1), .val (.int c2), .val (.int c3), .val (.ref a3), .unset, .unset, .unset, .unset] [(.int (3 : Int32))]))
      refine own_go (fun t k => XS.iconst X111.here hx rfl (hb hby at_78) k) ?_
      show own_G p e below s (own_Q0 n0) 16 128 (T111.setTop (mkF m 79 #[.val (.int x0), .val (.int x1), .val (.int x2), .val (.int x3), .val (.int x4), .val (.int x5), .val (.int (3 : Int32)), .val (.int c0), .val (.int c1), .val (.int c2), .val (.int c3), .val (.ref a3), .unset, .unset, .unset, .unset] [(.int (1 : Int32)), (.int (3 : Int32))]))
      refine own_go (fun t k => XS.icmpNo X111.here hx rfl (hb hby at_79) rfl (XT.ii_le_f (by decide)) k) ?_
      show own_G p e below s (own_Q0 n0) 16 128 (T111.setTop (mkF m 82 #[.val (.int x0), .val (.int x1), .val (.int x2), .val (.int x3), .val (.int x4), .val (.int x5), .val (.int (3 : Int32)), .val (.int c0), .val (.int c1), .val (.int c2), .val (.int c3), .val (.ref a3), .unset, .unset, .unset, .unset] []))
      refine own_go (fun t k => XS.aload X111.here hx rfl (hb hby at_82) rfl rfl k) ?_
      show own_G p e below s (own_Q0 n0) 16 128 (T111.setTop (mkF m 84 #[.val (.int x0), .val (.int x1), .val (.int x2), .val (.int x3), .val (.int x4), .val (.int x5), .val (.int (3 : Int32)), .val (.int c0), .val (.int c1), .val (.int c2), .val (.int c3), .val (.ref a3), .unset, .unset, .unset, .unset] [(.ref a3)]))
      refine own_go (fun t k => XS.iconst X111.here hx rfl (hb hby at_84) k) ?_
      show own_G p e below s (own_Q0 n0) 16 128 (T111.setTop (mkF m 85 #[.val (.int x0), .val (.int x1), .val (.int x2), .val (.int x3), .val (.int x4), .val (.int x5), .val (.int (3 : Int32)), .val (.int c0), .val (.int c1), .val (.int c2), .val (.int c3), .val (.ref a3), .unset, .unset, .unset, .unset] [(.int (1 : Int32)), (.ref a3)]))
      refine own_go (fun t k => XS.iload X111.here hx rfl (hb hby at_85) rfl k) ?_
      show own_G p e below s (own_Q0 n0) 16 128 (T111.setTop (mkF m 87 #[.val (.int x0), .val (.int x1), .val (.int x2), .val (.int x3), .val (.int x4), .val (.int x5), .val (.int (3 : Int32)), .val (.int c0), .val (.int c1), .val (.int c2), .val (.int c3), .val (.ref a3), .unset, .unset, .unset, .unset] [(.int c1), (.int (1 : Int32)), (.ref a3)]))
      obtain ⟨T112, h112, X112, e112, W112, V112, st112⟩ := own_stB X111 hx hZ e111 V111 (j := (1 : Int32)) ⟨by decide, by decide⟩ 1 (by decide) (by simp) (vs' := [(.int c0), (.int c1), (.int 0)]) (by rw [m1]; rfl) (g := (mkF m 87 #[.val (.int x0), .val (.int x1), .val (.int x2), .val (.int x3), .val (.int x4), .val (.int x5), .val (.int (3 : Int32)), .val (.int c0), .val (.int c1), .val (.int c2), .val (.int c3), .val (.ref a3), .unset, .unset, .unset, .unset] [(.int c1), (.int (1 : Int32)), (.ref a3)])) rfl rfl (hb hby at_87)
      have N112 := Fr.snoc X112 N111 g3
      refine own_go st112 ?_
      show own_G p e below s (own_Q0 n0) 16 128 (T112.setTop (mkF m 88 #[.val (.int x0), .val (.int x1), .val (.int x2), .val (.int x3), .val (.int x4), .val (.int x5), .val (.int (3 : Int32)), .val (.int c0), .val (.int c1), .val (.int c2), .val (.int c3), .val (.ref a3), .unset, .unset, .unset, .unset] []))
      refine own_go (fun t k => XS.iload X112.here hx rfl (hb hby at_88) rfl k) ?_
      show own_G p e below s (own_Q0 n0) 16 128 (T112.setTop (mkF m 90 #[.val (.int x0), .val (.int x1), .val (.int x2), .val (.int x3), .val (.int x4), .val (.int x5), .val (.int (3 : Int32)), .val (.int c0), .val (.int c1), .val (.int c2), .val (.int c3), .val (.ref a3), .unset, .unset, .unset, .unset] [(.int (3 : Int32))]))
      refine own_go (fun t k => XS.iconst X112.here hx rfl (hb hby at_90) k) ?_
      show own_G p e below s (own_Q0 n0) 16 128 (T112.setTop (mkF m 91 #[.val (.int x0), .val (.int x1), .val (.int x2), .val (.int x3), .val (.int x4), .val (.int x5), .val (.int (3 : Int32)), .val (.int c0), .val (.int c1), .val (.int c2), .val (.int c3), .val (.ref a3), .unset, .unset, .unset, .unset] [(.int (2 : Int32)), (.int (3 : Int32))]))
      refine own_go (fun t k => XS.icmpNo X112.here hx rfl (hb hby at_91) rfl (XT.ii_le_f (by decide)) k) ?_
      show own_G p e below s (own_Q0 n0) 16 128 (T112.setTop (mkF m 94 #[.val (.int x0), .val (.int x1), .val (.int x2), .val (.int x3), .val (.int x4), .val (.int x5), .val (.int (3 : Int32)), .val (.int c0), .val (.int c1), .val (.int c2), .val (.int c3), .val (.ref a3), .unset, .unset, .unset, .unset] []))
      refine own_go (fun t k => XS.aload X112.here hx rfl (hb hby at_94) rfl rfl k) ?_
      show own_G p e below s (own_Q0 n0) 16 128 (T112.setTop (mkF m 96 #[.val (.int x0), .val (.int x1), .val (.int x2), .val (.int x3), .val (.int x4), .val (.int x5), .val (.int (3 : Int32)), .val (.int c0), .val (.int c1), .val (.int c2), .val (.int c3), .val (.ref a3), .unset, .unset, .unset, .unset] [(.ref a3)]))
      refine own_go (fun t k => XS.iconst X112.here hx rfl (hb hby at_96) k) ?_
      show own_G p e below s (own_Q0 n0) 16 128 (T112.setTop (mkF m 97 #[.val (.int x0), .val (.int x1), .val (.int x2), .val (.int x3), .val (.int x4), .val (.int x5), .val (.int (3 : Int32)), .val (.int c0), .val (.int c1), .val (.int c2), .val (.int c3), .val (.ref a3), .unset, .unset, .unset, .unset] [(.int (2 : Int32)), (.ref a3)]))
      refine own_go (fun t k => XS.iload X112.here hx rfl (hb hby at_97) rfl k) ?_
      show own_G p e below s (own_Q0 n0) 16 128 (T112.setTop (mkF m 99 #[.val (.int x0), .val (.int x1), .val (.int x2), .val (.int x3), .val (.int x4), .val (.int x5), .val (.int (3 : Int32)), .val (.int c0), .val (.int c1), .val (.int c2), .val (.int c3), .val (.ref a3), .unset, .unset, .unset, .unset] [(.int c2), (.int (2 : Int32)), (.ref a3)]))
      obtain ⟨T113, h113, X113, e113, W113, V113, st113⟩ := own_stB X112 hx hZ e112 V112 (j := (2 : Int32)) ⟨by decide, by decide⟩ 2 (by decide) (by simp) (vs' := [(.int c0), (.int c1), (.int c2)]) (by rw [m2]; rfl) (g := (mkF m 99 #[.val (.int x0), .val (.int x1), .val (.int x2), .val (.int x3), .val (.int x4), .val (.int x5), .val (.int (3 : Int32)), .val (.int c0), .val (.int c1), .val (.int c2), .val (.int c3), .val (.ref a3), .unset, .unset, .unset, .unset] [(.int c2), (.int (2 : Int32)), (.ref a3)])) rfl rfl (hb hby at_99)
      have N113 := Fr.snoc X113 N112 g3
      refine own_go st113 ?_
      show own_G p e below s (own_Q0 n0) 16 128 (T113.setTop (mkF m 100 #[.val (.int x0), .val (.int x1), .val (.int x2), .val (.int x3), .val (.int x4), .val (.int x5), .val (.int (3 : Int32)), .val (.int c0), .val (.int c1), .val (.int c2), .val (.int c3), .val (.ref a3), .unset, .unset, .unset, .unset] []))
      refine own_go (fun t k => XS.iload X113.here hx rfl (hb hby at_100) rfl k) ?_
      show own_G p e below s (own_Q0 n0) 16 128 (T113.setTop (mkF m 102 #[.val (.int x0), .val (.int x1), .val (.int x2), .val (.int x3), .val (.int x4), .val (.int x5), .val (.int (3 : Int32)), .val (.int c0), .val (.int c1), .val (.int c2), .val (.int c3), .val (.ref a3), .unset, .unset, .unset, .unset] [(.int (3 : Int32))]))
      refine own_go (fun t k => XS.iconst X113.here hx rfl (hb hby at_102) k) ?_
      show own_G p e below s (own_Q0 n0) 16 128 (T113.setTop (mkF m 103 #[.val (.int x0), .val (.int x1), .val (.int x2), .val (.int x3), .val (.int x4), .val (.int x5), .val (.int (3 : Int32)), .val (.int c0), .val (.int c1), .val (.int c2), .val (.int c3), .val (.ref a3), .unset, .unset, .unset, .unset] [(.int (3 : Int32)), (.int (3 : Int32))]))
      refine own_go (fun t k => XS.icmpYes X113.here hx rfl (pc0 := 103) (pc' := 112) rfl (hb hby at_103) rfl (XT.ii_le_t (by decide)) (by decide) (by decide) k) ?_
      show own_G p e below s (own_Q0 n0) 16 128 (T113.setTop (mkF m 112 #[.val (.int x0), .val (.int x1), .val (.int x2), .val (.int x3), .val (.int x4), .val (.int x5), .val (.int (3 : Int32)), .val (.int c0), .val (.int c1), .val (.int c2), .val (.int c3), .val (.ref a3), .unset, .unset, .unset, .unset] []))
      refine own_go (fun t k => XS.iload X113.here hx rfl (hb hby at_112) rfl k) ?_
      show own_G p e below s (own_Q0 n0) 16 128 (T113.setTop (mkF m 114 #[.val (.int x0), .val (.int x1), .val (.int x2), .val (.int x3), .val (.int x4), .val (.int x5), .val (.int (3 : Int32)), .val (.int c0), .val (.int c1), .val (.int c2), .val (.int c3), .val (.ref a3), .unset, .unset, .unset, .unset] [(.int c0)]))
      refine own_go (fun t k => XS.sipush X113.here hx rfl (hb hby at_114) k) ?_
      show own_G p e below s (own_Q0 n0) 16 128 (T113.setTop (mkF m 117 #[.val (.int x0), .val (.int x1), .val (.int x2), .val (.int x3), .val (.int x4), .val (.int x5), .val (.int (3 : Int32)), .val (.int c0), .val (.int c1), .val (.int c2), .val (.int c3), .val (.ref a3), .unset, .unset, .unset, .unset] [(.int (255 : Int32)), (.int c0)]))
      refine own_go (fun t k => XS.iand X113.here hx rfl (hb hby at_117) rfl k) ?_
      show own_G p e below s (own_Q0 n0) 16 128 (T113.setTop (mkF m 118 #[.val (.int x0), .val (.int x1), .val (.int x2), .val (.int x3), .val (.int x4), .val (.int x5), .val (.int (3 : Int32)), .val (.int c0), .val (.int c1), .val (.int c2), .val (.int c3), .val (.ref a3), .unset, .unset, .unset, .unset] [(.int (c0 &&& (255 : Int32)))]))
      refine own_go (fun t k => XS.bipush X113.here hx rfl (hb hby at_118) k) ?_
      show own_G p e below s (own_Q0 n0) 16 128 (T113.setTop (mkF m 120 #[.val (.int x0), .val (.int x1), .val (.int x2), .val (.int x3), .val (.int x4), .val (.int x5), .val (.int (3 : Int32)), .val (.int c0), .val (.int c1), .val (.int c2), .val (.int c3), .val (.ref a3), .unset, .unset, .unset, .unset] [(.int (16 : Int32)), (.int (c0 &&& (255 : Int32)))]))
      refine own_go (fun t k => XT.ishl X113.here hx rfl (hb hby at_120) rfl k) ?_
      show own_G p e below s (own_Q0 n0) 16 128 (T113.setTop (mkF m 121 #[.val (.int x0), .val (.int x1), .val (.int x2), .val (.int x3), .val (.int x4), .val (.int x5), .val (.int (3 : Int32)), .val (.int c0), .val (.int c1), .val (.int c2), .val (.int c3), .val (.ref a3), .unset, .unset, .unset, .unset] [(.int ((c0 &&& (255 : Int32)) <<< ((16 : Int32) &&& 31)))]))
      refine own_go (fun t k => XS.iload X113.here hx rfl (hb hby at_121) rfl k) ?_
      show own_G p e below s (own_Q0 n0) 16 128 (T113.setTop (mkF m 123 #[.val (.int x0), .val (.int x1), .val (.int x2), .val (.int x3), .val (.int x4), .val (.int x5), .val (.int (3 : Int32)), .val (.int c0), .val (.int c1), .val (.int c2), .val (.int c3), .val (.ref a3), .unset, .unset, .unset, .unset] [(.int c1), (.int ((c0 &&& (255 : Int32)) <<< ((16 : Int32) &&& 31)))]))
      refine own_go (fun t k => XS.sipush X113.here hx rfl (hb hby at_123) k) ?_
      show own_G p e below s (own_Q0 n0) 16 128 (T113.setTop (mkF m 126 #[.val (.int x0), .val (.int x1), .val (.int x2), .val (.int x3), .val (.int x4), .val (.int x5), .val (.int (3 : Int32)), .val (.int c0), .val (.int c1), .val (.int c2), .val (.int c3), .val (.ref a3), .unset, .unset, .unset, .unset] [(.int (255 : Int32)), (.int c1), (.int ((c0 &&& (255 : Int32)) <<< ((16 : Int32) &&& 31)))]))
      refine own_go (fun t k => XS.iand X113.here hx rfl (hb hby at_126) rfl k) ?_
      show own_G p e below s (own_Q0 n0) 16 128 (T113.setTop (mkF m 127 #[.val (.int x0), .val (.int x1), .val (.int x2), .val (.int x3), .val (.int x4), .val (.int x5), .val (.int (3 : Int32)), .val (.int c0), .val (.int c1), .val (.int c2), .val (.int c3), .val (.ref a3), .unset, .unset, .unset, .unset] [(.int (c1 &&& (255 : Int32))), (.int ((c0 &&& (255 : Int32)) <<< ((16 : Int32) &&& 31)))]))
      refine own_go (fun t k => XS.bipush X113.here hx rfl (hb hby at_127) k) ?_
      show own_G p e below s (own_Q0 n0) 16 128 (T113.setTop (mkF m 129 #[.val (.int x0), .val (.int x1), .val (.int x2), .val (.int x3), .val (.int x4), .val (.int x5), .val (.int (3 : Int32)), .val (.int c0), .val (.int c1), .val (.int c2), .val (.int c3), .val (.ref a3), .unset, .unset, .unset, .unset] [(.int (8 : Int32)), (.int (c1 &&& (255 : Int32))), (.int ((c0 &&& (255 : Int32)) <<< ((16 : Int32) &&& 31)))]))
      refine own_go (fun t k => XT.ishl X113.here hx rfl (hb hby at_129) rfl k) ?_
      show own_G p e below s (own_Q0 n0) 16 128 (T113.setTop (mkF m 130 #[.val (.int x0), .val (.int x1), .val (.int x2), .val (.int x3), .val (.int x4), .val (.int x5), .val (.int (3 : Int32)), .val (.int c0), .val (.int c1), .val (.int c2), .val (.int c3), .val (.ref a3), .unset, .unset, .unset, .unset] [(.int ((c1 &&& (255 : Int32)) <<< ((8 : Int32) &&& 31))), (.int ((c0 &&& (255 : Int32)) <<< ((16 : Int32) &&& 31)))]))
      refine own_go (fun t k => XT.ior X113.here hx rfl (hb hby at_130) rfl k) ?_
      show own_G p e below s (own_Q0 n0) 16 128 (T113.setTop (mkF m 131 #[.val (.int x0), .val (.int x1), .val (.int x2), .val (.int x3), .val (.int x4), .val (.int x5), .val (.int (3 : Int32)), .val (.int c0), .val (.int c1), .val (.int c2), .val (.int c3), .val (.ref a3), .unset, .unset, .unset, .unset] [(.int (((c0 &&& (255 : Int32)) <<< ((16 : Int32) &&& 31)) ||| ((c1 &&& (255 : Int32)) <<< ((8 : Int32) &&& 31))))]))
      refine own_go (fun t k => XS.iload X113.here hx rfl (hb hby at_131) rfl k) ?_
      show own_G p e below s (own_Q0 n0) 16 128 (T113.setTop (mkF m 133 #[.val (.int x0), .val (.int x1), .val (.int x2), .val (.int x3), .val (.int x4), .val (.int x5), .val (.int (3 : Int32)), .val (.int c0), .val (.int c1), .val (.int c2), .val (.int c3), .val (.ref a3), .unset, .unset, .unset, .unset] [(.int c2), (.int (((c0 &&& (255 : Int32)) <<< ((16 : Int32) &&& 31)) ||| ((c1 &&& (255 : Int32)) <<< ((8 : Int32) &&& 31))))]))
      refine own_go (fun t k => XS.sipush X113.here hx rfl (hb hby at_133) k) ?_
      show own_G p e below s (own_Q0 n0) 16 128 (T113.setTop (mkF m 136 #[.val (.int x0), .val (.int x1), .val (.int x2), .val (.int x3), .val (.int x4), .val (.int x5), .val (.int (3 : Int32)), .val (.int c0), .val (.int c1), .val (.int c2), .val (.int c3), .val (.ref a3), .unset, .unset, .unset, .unset] [(.int (255 : Int32)), (.int c2), (.int (((c0 &&& (255 : Int32)) <<< ((16 : Int32) &&& 31)) ||| ((c1 &&& (255 : Int32)) <<< ((8 : Int32) &&& 31))))]))
      refine own_go (fun t k => XS.iand X113.here hx rfl (hb hby at_136) rfl k) ?_
      show own_G p e below s (own_Q0 n0) 16 128 (T113.setTop (mkF m 137 #[.val (.int x0), .val (.int x1), .val (.int x2), .val (.int x3), .val (.int x4), .val (.int x5), .val (.int (3 : Int32)), .val (.int c0), .val (.int c1), .val (.int c2), .val (.int c3), .val (.ref a3), .unset, .unset, .unset, .unset] [(.int (c2 &&& (255 : Int32))), (.int (((c0 &&& (255 : Int32)) <<< ((16 : Int32) &&& 31)) ||| ((c1 &&& (255 : Int32)) <<< ((8 : Int32) &&& 31))))]))
      refine own_go (fun t k => XT.ior X113.here hx rfl (hb hby at_137) rfl k) ?_
      show own_G p e below s (own_Q0 n0) 16 128 (T113.setTop (mkF m 138 #[.val (.int x0), .val (.int x1), .val (.int x2), .val (.int x3), .val (.int x4), .val (.int x5), .val (.int (3 : Int32)), .val (.int c0), .val (.int c1), .val (.int c2), .val (.int c3), .val (.ref a3), .unset, .unset, .unset, .unset] [(.int ((((c0 &&& (255 : Int32)) <<< ((16 : Int32) &&& 31)) ||| ((c1 &&& (255 : Int32)) <<< ((8 : Int32) &&& 31))) ||| (c2 &&& (255 : Int32))))]))
      refine own_go (fun t k => XS.istore X113.here hx rfl (hb hby at_138) rfl (l' := #[.val (.int x0), .val (.int x1), .val (.int x2), .val (.int x3), .val (.int x4), .val (.int x5), .val (.int (3 : Int32)), .val (.int c0), .val (.int c1), .val (.int c2), .val (.int c3), .val (.ref a3), .val (.int ((((c0 &&& (255 : Int32)) <<< ((16 : Int32) &&& 31)) ||| ((c1 &&& (255 : Int32)) <<< ((8 : Int32) &&& 31))) ||| (c2 &&& (255 : Int32)))), .unset, .unset, .unset]) rfl k) ?_
      show own_G p e below s (own_Q0 n0) 16 128 (T113.setTop (mkF m 140 #[.val (.int x0), .val (.int x1), .val (.int x2), .val (.int x3), .val (.int x4), .val (.int x5), .val (.int (3 : Int32)), .val (.int c0), .val (.int c1), .val (.int c2), .val (.int c3), .val (.ref a3), .val (.int ((((c0 &&& (255 : Int32)) <<< ((16 : Int32) &&& 31)) ||| ((c1 &&& (255 : Int32)) <<< ((8 : Int32) &&& 31))) ||| (c2 &&& (255 : Int32)))), .unset, .unset, .unset] []))
      show own_G p e below s (own_Q0 n0) 16 128 (T113.setTop (mkF m 140 #[.val (.int x0), .val (.int x1), .val (.int x2), .val (.int x3), .val (.int x4), .val (.int x5), .val (.int (3 : Int32)), .val (.int c0), .val (.int c1), .val (.int c2), .val (.int c3), .val (.ref a3), .val (.int (own_id c0 c1 c2)), .unset, .unset, .unset] []))
      refine own_go (fun t k => XS.iload X113.here hx rfl (hb hby at_140) rfl k) ?_
      show own_G p e below s (own_Q0 n0) 16 128 (T113.setTop (mkF m 142 #[.val (.int x0), .val (.int x1), .val (.int x2), .val (.int x3), .val (.int x4), .val (.int x5), .val (.int (3 : Int32)), .val (.int c0), .val (.int c1), .val (.int c2), .val (.int c3), .val (.ref a3), .val (.int (own_id c0 c1 c2)), .unset, .unset, .unset] [(.int (3 : Int32))]))
      refine own_go (fun t k => XS.iconst X113.here hx rfl (hb hby at_142) k) ?_
      show own_G p e below s (own_Q0 n0) 16 128 (T113.setTop (mkF m 143 #[.val (.int x0), .val (.int x1), .val (.int x2), .val (.int x3), .val (.int x4), .val (.int x5), .val (.int (3 : Int32)), .val (.int c0), .val (.int c1), .val (.int c2), .val (.int c3), .val (.ref a3), .val (.int (own_id c0 c1 c2)), .unset, .unset, .unset] [(.int (3 : Int32)), (.int (3 : Int32))]))
      have J160 : ∀ (ex : Int32) (hex : own_sm (3 : Int32) c0 c1 c2 = ex), own_G p e below s (own_Q0 n0) 16 128 (T113.setTop (mkF m 160 #[.val (.int x0), .val (.int x1), .val (.int x2), .val (.int x3), .val (.int x4), .val (.int x5), .val (.int (3 : Int32)), .val (.int c0), .val (.int c1), .val (.int c2), .val (.int c3), .val (.ref a3), .val (.int (own_id c0 c1 c2)), .val (.int ex), .unset, .unset] [])) := by
        intro ex hex
        refine own_go (fun t k => XS.aload X113.here hx rfl (hb hby at_160) rfl rfl k) ?_
        show own_G p e below s (own_Q0 n0) 16 128 (T113.setTop (mkF m 162 #[.val (.int x0), .val (.int x1), .val (.int x2), .val (.int x3), .val (.int x4), .val (.int x5), .val (.int (3 : Int32)), .val (.int c0), .val (.int c1), .val (.int c2), .val (.int c3), .val (.ref a3), .val (.int (own_id c0 c1 c2)), .val (.int ex), .unset, .unset] [(.ref a3)]))
        obtain ⟨_, _, ⟨T114, L114, k114, n114⟩, -, X114, ⟨Lc114, hQ114, l114, y114, z114⟩, st114⟩ := Jvm.LawKit.callS X113 hx (y := (⟨"com/example/graphalog/graphalog/io/GzipMembers", "startsMember", "([B)Z"⟩ : MethodName)) hown (mvT hZ (hw _ (List.mem_of_getElem? (i := 2) rfl))) (mvT hZ (hw _ (List.mem_of_getElem? (i := 3) rfl))) (mvT hZ (hw _ (List.mem_of_getElem? (i := 4) rfl))) (mvT hZ (hw _ (List.mem_of_getElem? (i := 5) rfl))) (by decide) (backOf (W := 0) (rm1 l Z a0 hw [] a3 cA110 (3 : Int32) c0 c1 c2 [(.int c0), (.int c1), (.int c2)] h113 V113 (fun _ => rfl) (fun _ => rfl) (fun _ => rfl)) hZ (hw _ (List.mem_of_getElem? (i := 5) rfl)) (hw _ (List.mem_of_getElem? (i := 4) rfl)) (by decide) (by decide)) (g := (mkF m 162 #[.val (.int x0), .val (.int x1), .val (.int x2), .val (.int x3), .val (.int x4), .val (.int x5), .val (.int (3 : Int32)), .val (.int c0), .val (.int c1), .val (.int c2), .val (.int c3), .val (.ref a3), .val (.int (own_id c0 c1 c2)), .val (.int ex), .unset, .unset] [(.ref a3)])) rfl (by rw [hml]; rfl) (argsL := [(.ref a3)]) (rest := []) (lenOf pd1 rfl) rfl (by show 2 * 0 + _ ≤ _; exact Nat.le_of_eq rfl) (hb hby at_162) (fun _ _ => ⟨rfl, e113, (by decide : 1 + 0 ≤ _), (by decide : 3 + 0 ≤ _)⟩)
        dsimp only [Pt.U, Pt.locs, Pt.cells, Pt.slots] at X114 l114 y114 z114 st114 hQ114
        subst l114 y114 z114
        obtain ⟨rfl, rfl, e114⟩ := hQ114
        refine own_go (st114) ?_
        show own_G p e below s (own_Q0 n0) 16 128 (T114.setTop (mkF m 165 #[.val (.int x0), .val (.int x1), .val (.int x2), .val (.int x3), .val (.int x4), .val (.int x5), .val (.int (3 : Int32)), .val (.int c0), .val (.int c1), .val (.int c2), .val (.int c3), .val (.ref a3), .val (.int (own_id c0 c1 c2)), .val (.int ex), .unset, .unset] [(.int (own_sm (3 : Int32) c0 c1 c2))]))
        refine own_go (fun t k => XS.istore X114.here hx rfl (hb hby at_165) rfl (l' := #[.val (.int x0), .val (.int x1), .val (.int x2), .val (.int x3), .val (.int x4), .val (.int x5), .val (.int (3 : Int32)), .val (.int c0), .val (.int c1), .val (.int c2), .val (.int c3), .val (.ref a3), .val (.int (own_id c0 c1 c2)), .val (.int ex), .val (.int (own_sm (3 : Int32) c0 c1 c2)), .unset]) rfl k) ?_
        show own_G p e below s (own_Q0 n0) 16 128 (T114.setTop (mkF m 167 #[.val (.int x0), .val (.int x1), .val (.int x2), .val (.int x3), .val (.int x4), .val (.int x5), .val (.int (3 : Int32)), .val (.int c0), .val (.int c1), .val (.int c2), .val (.int c3), .val (.ref a3), .val (.int (own_id c0 c1 c2)), .val (.int ex), .val (.int (own_sm (3 : Int32) c0 c1 c2)), .unset] []))
        refine own_go (fun t k => XS.iload X114.here hx rfl (hb hby at_167) rfl k) ?_
        show own_G p e below s (own_Q0 n0) 16 128 (T114.setTop (mkF m 169 #[.val (.int x0), .val (.int x1), .val (.int x2), .val (.int x3), .val (.int x4), .val (.int x5), .val (.int (3 : Int32)), .val (.int c0), .val (.int c1), .val (.int c2), .val (.int c3), .val (.ref a3), .val (.int (own_id c0 c1 c2)), .val (.int ex), .val (.int (own_sm (3 : Int32) c0 c1 c2)), .unset] [(.int (3 : Int32))]))
        refine own_go (fun t k => XS.iconst X114.here hx rfl (hb hby at_169) k) ?_
        show own_G p e below s (own_Q0 n0) 16 128 (T114.setTop (mkF m 170 #[.val (.int x0), .val (.int x1), .val (.int x2), .val (.int x3), .val (.int x4), .val (.int x5), .val (.int (3 : Int32)), .val (.int c0), .val (.int c1), .val (.int c2), .val (.int c3), .val (.ref a3), .val (.int (own_id c0 c1 c2)), .val (.int ex), .val (.int (own_sm (3 : Int32) c0 c1 c2)), .unset] [(.int (1 : Int32)), (.int (3 : Int32))]))
        refine own_go (fun t k => XS.icmpNo X114.here hx rfl (hb hby at_170) rfl (XT.ii_lt_f (by decide)) k) ?_
        show own_G p e below s (own_Q0 n0) 16 128 (T114.setTop (mkF m 173 #[.val (.int x0), .val (.int x1), .val (.int x2), .val (.int x3), .val (.int x4), .val (.int x5), .val (.int (3 : Int32)), .val (.int c0), .val (.int c1), .val (.int c2), .val (.int c3), .val (.ref a3), .val (.int (own_id c0 c1 c2)), .val (.int ex), .val (.int (own_sm (3 : Int32) c0 c1 c2)), .unset] []))
        refine own_go (fun t k => XS.aload X114.here hx rfl (hb hby at_173) rfl rfl k) ?_
        show own_G p e below s (own_Q0 n0) 16 128 (T114.setTop (mkF m 175 #[.val (.int x0), .val (.int x1), .val (.int x2), .val (.int x3), .val (.int x4), .val (.int x5), .val (.int (3 : Int32)), .val (.int c0), .val (.int c1), .val (.int c2), .val (.int c3), .val (.ref a3), .val (.int (own_id c0 c1 c2)), .val (.int ex), .val (.int (own_sm (3 : Int32) c0 c1 c2)), .unset] [(.ref a3)]))
        refine own_go (fun t k => XS.iconst X114.here hx rfl (hb hby at_175) k) ?_
        show own_G p e below s (own_Q0 n0) 16 128 (T114.setTop (mkF m 176 #[.val (.int x0), .val (.int x1), .val (.int x2), .val (.int x3), .val (.int x4), .val (.int x5), .val (.int (3 : Int32)), .val (.int c0), .val (.int c1), .val (.int c2), .val (.int c3), .val (.ref a3), .val (.int (own_id c0 c1 c2)), .val (.int ex), .val (.int (own_sm (3 : Int32) c0 c1 c2)), .unset] [(.int (0 : Int32)), (.ref a3)]))
        refine own_go (own_ldB X114 hx hZ e114 V113 (j := (0 : Int32)) (v := (.int c0)) ⟨by decide, by decide⟩ rfl (g := (mkF m 176 #[.val (.int x0), .val (.int x1), .val (.int x2), .val (.int x3), .val (.int x4), .val (.int x5), .val (.int (3 : Int32)), .val (.int c0), .val (.int c1), .val (.int c2), .val (.int c3), .val (.ref a3), .val (.int (own_id c0 c1 c2)), .val (.int ex), .val (.int (own_sm (3 : Int32) c0 c1 c2)), .unset] [(.int (0 : Int32)), (.ref a3)])) rfl rfl (hb hby at_176)) ?_
        show own_G p e below s (own_Q0 n0) 16 128 (T114.setTop (mkF m 177 #[.val (.int x0), .val (.int x1), .val (.int x2), .val (.int x3), .val (.int x4), .val (.int x5), .val (.int (3 : Int32)), .val (.int c0), .val (.int c1), .val (.int c2), .val (.int c3), .val (.ref a3), .val (.int (own_id c0 c1 c2)), .val (.int ex), .val (.int (own_sm (3 : Int32) c0 c1 c2)), .unset] [(.int c0)]))
        refine own_go (fun t k => XS.iload X114.here hx rfl (hb hby at_177) rfl k) ?_
        show own_G p e below s (own_Q0 n0) 16 128 (T114.setTop (mkF m 179 #[.val (.int x0), .val (.int x1), .val (.int x2), .val (.int x3), .val (.int x4), .val (.int x5), .val (.int (3 : Int32)), .val (.int c0), .val (.int c1), .val (.int c2), .val (.int c3), .val (.ref a3), .val (.int (own_id c0 c1 c2)), .val (.int ex), .val (.int (own_sm (3 : Int32) c0 c1 c2)), .unset] [(.int c0), (.int c0)]))
        refine own_go (fun t k => XS.icmpNo X114.here hx rfl (hb hby at_179) rfl (XT.ii_ne_f rfl) k) ?_
        show own_G p e below s (own_Q0 n0) 16 128 (T114.setTop (mkF m 182 #[.val (.int x0), .val (.int x1), .val (.int x2), .val (.int x3), .val (.int x4), .val (.int x5), .val (.int (3 : Int32)), .val (.int c0), .val (.int c1), .val (.int c2), .val (.int c3), .val (.ref a3), .val (.int (own_id c0 c1 c2)), .val (.int ex), .val (.int (own_sm (3 : Int32) c0 c1 c2)), .unset] []))
        refine own_go (fun t k => XS.iload X114.here hx rfl (hb hby at_182) rfl k) ?_
        show own_G p e below s (own_Q0 n0) 16 128 (T114.setTop (mkF m 184 #[.val (.int x0), .val (.int x1), .val (.int x2), .val (.int x3), .val (.int x4), .val (.int x5), .val (.int (3 : Int32)), .val (.int c0), .val (.int c1), .val (.int c2), .val (.int c3), .val (.ref a3), .val (.int (own_id c0 c1 c2)), .val (.int ex), .val (.int (own_sm (3 : Int32) c0 c1 c2)), .unset] [(.int (3 : Int32))]))
        refine own_go (fun t k => XS.iconst X114.here hx rfl (hb hby at_184) k) ?_
        show own_G p e below s (own_Q0 n0) 16 128 (T114.setTop (mkF m 185 #[.val (.int x0), .val (.int x1), .val (.int x2), .val (.int x3), .val (.int x4), .val (.int x5), .val (.int (3 : Int32)), .val (.int c0), .val (.int c1), .val (.int c2), .val (.int c3), .val (.ref a3), .val (.int (own_id c0 c1 c2)), .val (.int ex), .val (.int (own_sm (3 : Int32) c0 c1 c2)), .unset] [(.int (2 : Int32)), (.int (3 : Int32))]))
        refine own_go (fun t k => XS.icmpNo X114.here hx rfl (hb hby at_185) rfl (XT.ii_lt_f (by decide)) k) ?_
        show own_G p e below s (own_Q0 n0) 16 128 (T114.setTop (mkF m 188 #[.val (.int x0), .val (.int x1), .val (.int x2), .val (.int x3), .val (.int x4), .val (.int x5), .val (.int (3 : Int32)), .val (.int c0), .val (.int c1), .val (.int c2), .val (.int c3), .val (.ref a3), .val (.int (own_id c0 c1 c2)), .val (.int ex), .val (.int (own_sm (3 : Int32) c0 c1 c2)), .unset] []))
        refine own_go (fun t k => XS.aload X114.here hx rfl (hb hby at_188) rfl rfl k) ?_
        show own_G p e below s (own_Q0 n0) 16 128 (T114.setTop (mkF m 190 #[.val (.int x0), .val (.int x1), .val (.int x2), .val (.int x3), .val (.int x4), .val (.int x5), .val (.int (3 : Int32)), .val (.int c0), .val (.int c1), .val (.int c2), .val (.int c3), .val (.ref a3), .val (.int (own_id c0 c1 c2)), .val (.int ex), .val (.int (own_sm (3 : Int32) c0 c1 c2)), .unset] [(.ref a3)]))
        refine own_go (fun t k => XS.iconst X114.here hx rfl (hb hby at_190) k) ?_
        show own_G p e below s (own_Q0 n0) 16 128 (T114.setTop (mkF m 191 #[.val (.int x0), .val (.int x1), .val (.int x2), .val (.int x3), .val (.int x4), .val (.int x5), .val (.int (3 : Int32)), .val (.int c0), .val (.int c1), .val (.int c2), .val (.int c3), .val (.ref a3), .val (.int (own_id c0 c1 c2)), .val (.int ex), .val (.int (own_sm (3 : Int32) c0 c1 c2)), .unset] [(.int (1 : Int32)), (.ref a3)]))
        refine own_go (own_ldB X114 hx hZ e114 V113 (j := (1 : Int32)) (v := (.int c1)) ⟨by decide, by decide⟩ rfl (g := (mkF m 191 #[.val (.int x0), .val (.int x1), .val (.int x2), .val (.int x3), .val (.int x4), .val (.int x5), .val (.int (3 : Int32)), .val (.int c0), .val (.int c1), .val (.int c2), .val (.int c3), .val (.ref a3), .val (.int (own_id c0 c1 c2)), .val (.int ex), .val (.int (own_sm (3 : Int32) c0 c1 c2)), .unset] [(.int (1 : Int32)), (.ref a3)])) rfl rfl (hb hby at_191)) ?_
        show own_G p e below s (own_Q0 n0) 16 128 (T114.setTop (mkF m 192 #[.val (.int x0), .val (.int x1), .val (.int x2), .val (.int x3), .val (.int x4), .val (.int x5), .val (.int (3 : Int32)), .val (.int c0), .val (.int c1), .val (.int c2), .val (.int c3), .val (.ref a3), .val (.int (own_id c0 c1 c2)), .val (.int ex), .val (.int (own_sm (3 : Int32) c0 c1 c2)), .unset] [(.int c1)]))
        refine own_go (fun t k => XS.iload X114.here hx rfl (hb hby at_192) rfl k) ?_
        show own_G p e below s (own_Q0 n0) 16 128 (T114.setTop (mkF m 194 #[.val (.int x0), .val (.int x1), .val (.int x2), .val (.int x3), .val (.int x4), .val (.int x5), .val (.int (3 : Int32)), .val (.int c0), .val (.int c1), .val (.int c2), .val (.int c3), .val (.ref a3), .val (.int (own_id c0 c1 c2)), .val (.int ex), .val (.int (own_sm (3 : Int32) c0 c1 c2)), .unset] [(.int c1), (.int c1)]))
        refine own_go (fun t k => XS.icmpNo X114.here hx rfl (hb hby at_194) rfl (XT.ii_ne_f rfl) k) ?_
        show own_G p e below s (own_Q0 n0) 16 128 (T114.setTop (mkF m 197 #[.val (.int x0), .val (.int x1), .val (.int x2), .val (.int x3), .val (.int x4), .val (.int x5), .val (.int (3 : Int32)), .val (.int c0), .val (.int c1), .val (.int c2), .val (.int c3), .val (.ref a3), .val (.int (own_id c0 c1 c2)), .val (.int ex), .val (.int (own_sm (3 : Int32) c0 c1 c2)), .unset] []))
        refine own_go (fun t k => XS.iload X114.here hx rfl (hb hby at_197) rfl k) ?_
        show own_G p e below s (own_Q0 n0) 16 128 (T114.setTop (mkF m 199 #[.val (.int x0), .val (.int x1), .val (.int x2), .val (.int x3), .val (.int x4), .val (.int x5), .val (.int (3 : Int32)), .val (.int c0), .val (.int c1), .val (.int c2), .val (.int c3), .val (.ref a3), .val (.int (own_id c0 c1 c2)), .val (.int ex), .val (.int (own_sm (3 : Int32) c0 c1 c2)), .unset] [(.int (3 : Int32))]))
        refine own_go (fun t k => XS.iconst X114.here hx rfl (hb hby at_199) k) ?_
        show own_G p e below s (own_Q0 n0) 16 128 (T114.setTop (mkF m 200 #[.val (.int x0), .val (.int x1), .val (.int x2), .val (.int x3), .val (.int x4), .val (.int x5), .val (.int (3 : Int32)), .val (.int c0), .val (.int c1), .val (.int c2), .val (.int c3), .val (.ref a3), .val (.int (own_id c0 c1 c2)), .val (.int ex), .val (.int (own_sm (3 : Int32) c0 c1 c2)), .unset] [(.int (3 : Int32)), (.int (3 : Int32))]))
        refine own_go (fun t k => XS.icmpNo X114.here hx rfl (hb hby at_200) rfl (XT.ii_lt_f (by decide)) k) ?_
        show own_G p e below s (own_Q0 n0) 16 128 (T114.setTop (mkF m 203 #[.val (.int x0), .val (.int x1), .val (.int x2), .val (.int x3), .val (.int x4), .val (.int x5), .val (.int (3 : Int32)), .val (.int c0), .val (.int c1), .val (.int c2), .val (.int c3), .val (.ref a3), .val (.int (own_id c0 c1 c2)), .val (.int ex), .val (.int (own_sm (3 : Int32) c0 c1 c2)), .unset] []))
        refine own_go (fun t k => XS.aload X114.here hx rfl (hb hby at_203) rfl rfl k) ?_
        show own_G p e below s (own_Q0 n0) 16 128 (T114.setTop (mkF m 205 #[.val (.int x0), .val (.int x1), .val (.int x2), .val (.int x3), .val (.int x4), .val (.int x5), .val (.int (3 : Int32)), .val (.int c0), .val (.int c1), .val (.int c2), .val (.int c3), .val (.ref a3), .val (.int (own_id c0 c1 c2)), .val (.int ex), .val (.int (own_sm (3 : Int32) c0 c1 c2)), .unset] [(.ref a3)]))
        refine own_go (fun t k => XS.iconst X114.here hx rfl (hb hby at_205) k) ?_
        show own_G p e below s (own_Q0 n0) 16 128 (T114.setTop (mkF m 206 #[.val (.int x0), .val (.int x1), .val (.int x2), .val (.int x3), .val (.int x4), .val (.int x5), .val (.int (3 : Int32)), .val (.int c0), .val (.int c1), .val (.int c2), .val (.int c3), .val (.ref a3), .val (.int (own_id c0 c1 c2)), .val (.int ex), .val (.int (own_sm (3 : Int32) c0 c1 c2)), .unset] [(.int (2 : Int32)), (.ref a3)]))
        refine own_go (own_ldB X114 hx hZ e114 V113 (j := (2 : Int32)) (v := (.int c2)) ⟨by decide, by decide⟩ rfl (g := (mkF m 206 #[.val (.int x0), .val (.int x1), .val (.int x2), .val (.int x3), .val (.int x4), .val (.int x5), .val (.int (3 : Int32)), .val (.int c0), .val (.int c1), .val (.int c2), .val (.int c3), .val (.ref a3), .val (.int (own_id c0 c1 c2)), .val (.int ex), .val (.int (own_sm (3 : Int32) c0 c1 c2)), .unset] [(.int (2 : Int32)), (.ref a3)])) rfl rfl (hb hby at_206)) ?_
        show own_G p e below s (own_Q0 n0) 16 128 (T114.setTop (mkF m 207 #[.val (.int x0), .val (.int x1), .val (.int x2), .val (.int x3), .val (.int x4), .val (.int x5), .val (.int (3 : Int32)), .val (.int c0), .val (.int c1), .val (.int c2), .val (.int c3), .val (.ref a3), .val (.int (own_id c0 c1 c2)), .val (.int ex), .val (.int (own_sm (3 : Int32) c0 c1 c2)), .unset] [(.int c2)]))
        refine own_go (fun t k => XS.iload X114.here hx rfl (hb hby at_207) rfl k) ?_
        show own_G p e below s (own_Q0 n0) 16 128 (T114.setTop (mkF m 209 #[.val (.int x0), .val (.int x1), .val (.int x2), .val (.int x3), .val (.int x4), .val (.int x5), .val (.int (3 : Int32)), .val (.int c0), .val (.int c1), .val (.int c2), .val (.int c3), .val (.ref a3), .val (.int (own_id c0 c1 c2)), .val (.int ex), .val (.int (own_sm (3 : Int32) c0 c1 c2)), .unset] [(.int c2), (.int c2)]))
        refine own_go (fun t k => XS.icmpNo X114.here hx rfl (hb hby at_209) rfl (XT.ii_ne_f rfl) k) ?_
        show own_G p e below s (own_Q0 n0) 16 128 (T114.setTop (mkF m 212 #[.val (.int x0), .val (.int x1), .val (.int x2), .val (.int x3), .val (.int x4), .val (.int x5), .val (.int (3 : Int32)), .val (.int c0), .val (.int c1), .val (.int c2), .val (.int c3), .val (.ref a3), .val (.int (own_id c0 c1 c2)), .val (.int ex), .val (.int (own_sm (3 : Int32) c0 c1 c2)), .unset] []))
        refine own_go (fun t k => XS.iload X114.here hx rfl (hb hby at_212) rfl k) ?_
        show own_G p e below s (own_Q0 n0) 16 128 (T114.setTop (mkF m 214 #[.val (.int x0), .val (.int x1), .val (.int x2), .val (.int x3), .val (.int x4), .val (.int x5), .val (.int (3 : Int32)), .val (.int c0), .val (.int c1), .val (.int c2), .val (.int c3), .val (.ref a3), .val (.int (own_id c0 c1 c2)), .val (.int ex), .val (.int (own_sm (3 : Int32) c0 c1 c2)), .unset] [(.int (3 : Int32))]))
        refine own_go (fun t k => XS.iconst X114.here hx rfl (hb hby at_214) k) ?_
        show own_G p e below s (own_Q0 n0) 16 128 (T114.setTop (mkF m 215 #[.val (.int x0), .val (.int x1), .val (.int x2), .val (.int x3), .val (.int x4), .val (.int x5), .val (.int (3 : Int32)), .val (.int c0), .val (.int c1), .val (.int c2), .val (.int c3), .val (.ref a3), .val (.int (own_id c0 c1 c2)), .val (.int ex), .val (.int (own_sm (3 : Int32) c0 c1 c2)), .unset] [(.int (4 : Int32)), (.int (3 : Int32))]))
        refine own_go (fun t k => XS.icmpYes X114.here hx rfl (pc0 := 215) (pc' := 227) rfl (hb hby at_215) rfl (XT.ii_lt_t (by decide)) (by decide) (by decide) k) ?_
        show own_G p e below s (own_Q0 n0) 16 128 (T114.setTop (mkF m 227 #[.val (.int x0), .val (.int x1), .val (.int x2), .val (.int x3), .val (.int x4), .val (.int x5), .val (.int (3 : Int32)), .val (.int c0), .val (.int c1), .val (.int c2), .val (.int c3), .val (.ref a3), .val (.int (own_id c0 c1 c2)), .val (.int ex), .val (.int (own_sm (3 : Int32) c0 c1 c2)), .unset] []))
        refine own_go (fun t k => XS.iconst X114.here hx rfl (hb hby at_227) k) ?_
        show own_G p e below s (own_Q0 n0) 16 128 (T114.setTop (mkF m 228 #[.val (.int x0), .val (.int x1), .val (.int x2), .val (.int x3), .val (.int x4), .val (.int x5), .val (.int (3 : Int32)), .val (.int c0), .val (.int c1), .val (.int c2), .val (.int c3), .val (.ref a3), .val (.int (own_id c0 c1 c2)), .val (.int ex), .val (.int (own_sm (3 : Int32) c0 c1 c2)), .unset] [(.int (1 : Int32))]))
        refine own_go (fun t k => XS.goto X114.here hx rfl (pc0 := 228) (pc' := 232) rfl (hb hby at_228) (by decide) (by decide) k) ?_
        show own_G p e below s (own_Q0 n0) 16 128 (T114.setTop (mkF m 232 #[.val (.int x0), .val (.int x1), .val (.int x2), .val (.int x3), .val (.int x4), .val (.int x5), .val (.int (3 : Int32)), .val (.int c0), .val (.int c1), .val (.int c2), .val (.int c3), .val (.ref a3), .val (.int (own_id c0 c1 c2)), .val (.int ex), .val (.int (own_sm (3 : Int32) c0 c1 c2)), .unset] [(.int (1 : Int32))]))
        refine own_go (fun t k => XS.istore X114.here hx rfl (hb hby at_232) rfl (l' := #[.val (.int x0), .val (.int x1), .val (.int x2), .val (.int x3), .val (.int x4), .val (.int x5), .val (.int (3 : Int32)), .val (.int c0), .val (.int c1), .val (.int c2), .val (.int c3), .val (.ref a3), .val (.int (own_id c0 c1 c2)), .val (.int ex), .val (.int (own_sm (3 : Int32) c0 c1 c2)), .val (.int (1 : Int32))]) rfl k) ?_
        show own_G p e below s (own_Q0 n0) 16 128 (T114.setTop (mkF m 234 #[.val (.int x0), .val (.int x1), .val (.int x2), .val (.int x3), .val (.int x4), .val (.int x5), .val (.int (3 : Int32)), .val (.int c0), .val (.int c1), .val (.int c2), .val (.int c3), .val (.ref a3), .val (.int (own_id c0 c1 c2)), .val (.int ex), .val (.int (own_sm (3 : Int32) c0 c1 c2)), .val (.int (1 : Int32))] []))
        refine own_go (fun t k => XS.iload X114.here hx rfl (hb hby at_234) rfl k) ?_
        show own_G p e below s (own_Q0 n0) 16 128 (T114.setTop (mkF m 236 #[.val (.int x0), .val (.int x1), .val (.int x2), .val (.int x3), .val (.int x4), .val (.int x5), .val (.int (3 : Int32)), .val (.int c0), .val (.int c1), .val (.int c2), .val (.int c3), .val (.ref a3), .val (.int (own_id c0 c1 c2)), .val (.int ex), .val (.int (own_sm (3 : Int32) c0 c1 c2)), .val (.int (1 : Int32))] [(.int (own_sm (3 : Int32) c0 c1 c2))]))
        refine own_go (fun t k => XS.iload X114.here hx rfl (hb hby at_236) rfl k) ?_
        show own_G p e below s (own_Q0 n0) 16 128 (T114.setTop (mkF m 238 #[.val (.int x0), .val (.int x1), .val (.int x2), .val (.int x3), .val (.int x4), .val (.int x5), .val (.int (3 : Int32)), .val (.int c0), .val (.int c1), .val (.int c2), .val (.int c3), .val (.ref a3), .val (.int (own_id c0 c1 c2)), .val (.int ex), .val (.int (own_sm (3 : Int32) c0 c1 c2)), .val (.int (1 : Int32))] [(.int ex), (.int (own_sm (3 : Int32) c0 c1 c2))]))
        refine own_go (fun t k => XS.icmpNo X114.here hx rfl (hb hby at_238) rfl (XT.ii_ne_f hex) k) ?_
        show own_G p e below s (own_Q0 n0) 16 128 (T114.setTop (mkF m 241 #[.val (.int x0), .val (.int x1), .val (.int x2), .val (.int x3), .val (.int x4), .val (.int x5), .val (.int (3 : Int32)), .val (.int c0), .val (.int c1), .val (.int c2), .val (.int c3), .val (.ref a3), .val (.int (own_id c0 c1 c2)), .val (.int ex), .val (.int (own_sm (3 : Int32) c0 c1 c2)), .val (.int (1 : Int32))] []))
        refine own_go (fun t k => XS.iload X114.here hx rfl (hb hby at_241) rfl k) ?_
        show own_G p e below s (own_Q0 n0) 16 128 (T114.setTop (mkF m 243 #[.val (.int x0), .val (.int x1), .val (.int x2), .val (.int x3), .val (.int x4), .val (.int x5), .val (.int (3 : Int32)), .val (.int c0), .val (.int c1), .val (.int c2), .val (.int c3), .val (.ref a3), .val (.int (own_id c0 c1 c2)), .val (.int ex), .val (.int (own_sm (3 : Int32) c0 c1 c2)), .val (.int (1 : Int32))] [(.int (1 : Int32))]))
        refine own_go (fun t k => XS.ifNo X114.here hx rfl (hb hby at_243) rfl (XT.i0_eq_f (by decide)) k) ?_
        show own_G p e below s (own_Q0 n0) 16 128 (T114.setTop (mkF m 246 #[.val (.int x0), .val (.int x1), .val (.int x2), .val (.int x3), .val (.int x4), .val (.int x5), .val (.int (3 : Int32)), .val (.int c0), .val (.int c1), .val (.int c2), .val (.int c3), .val (.ref a3), .val (.int (own_id c0 c1 c2)), .val (.int ex), .val (.int (own_sm (3 : Int32) c0 c1 c2)), .val (.int (1 : Int32))] []))
        refine own_go (fun t k => XS.aload X114.here hx rfl (hb hby at_246) rfl rfl k) ?_
        show own_G p e below s (own_Q0 n0) 16 128 (T114.setTop (mkF m 248 #[.val (.int x0), .val (.int x1), .val (.int x2), .val (.int x3), .val (.int x4), .val (.int x5), .val (.int (3 : Int32)), .val (.int c0), .val (.int c1), .val (.int c2), .val (.int c3), .val (.ref a3), .val (.int (own_id c0 c1 c2)), .val (.int ex), .val (.int (own_sm (3 : Int32) c0 c1 c2)), .val (.int (1 : Int32))] [(.ref a3)]))
        refine own_go (own_len X114 hx hZ e114 V113 (g := (mkF m 248 #[.val (.int x0), .val (.int x1), .val (.int x2), .val (.int x3), .val (.int x4), .val (.int x5), .val (.int (3 : Int32)), .val (.int c0), .val (.int c1), .val (.int c2), .val (.int c3), .val (.ref a3), .val (.int (own_id c0 c1 c2)), .val (.int ex), .val (.int (own_sm (3 : Int32) c0 c1 c2)), .val (.int (1 : Int32))] [(.ref a3)])) rfl rfl (hb hby at_248)) ?_
        show own_G p e below s (own_Q0 n0) 16 128 (T114.setTop (mkF m 249 #[.val (.int x0), .val (.int x1), .val (.int x2), .val (.int x3), .val (.int x4), .val (.int x5), .val (.int (3 : Int32)), .val (.int c0), .val (.int c1), .val (.int c2), .val (.int c3), .val (.ref a3), .val (.int (own_id c0 c1 c2)), .val (.int ex), .val (.int (own_sm (3 : Int32) c0 c1 c2)), .val (.int (1 : Int32))] [(.int (3 : Int32))]))
        refine own_go (fun t k => XS.iload X114.here hx rfl (hb hby at_249) rfl k) ?_
        show own_G p e below s (own_Q0 n0) 16 128 (T114.setTop (mkF m 251 #[.val (.int x0), .val (.int x1), .val (.int x2), .val (.int x3), .val (.int x4), .val (.int x5), .val (.int (3 : Int32)), .val (.int c0), .val (.int c1), .val (.int c2), .val (.int c3), .val (.ref a3), .val (.int (own_id c0 c1 c2)), .val (.int ex), .val (.int (own_sm (3 : Int32) c0 c1 c2)), .val (.int (1 : Int32))] [(.int (3 : Int32)), (.int (3 : Int32))]))
        refine own_go (fun t k => XS.icmpNo X114.here hx rfl (hb hby at_251) rfl (XT.ii_ne_f rfl) k) ?_
        show own_G p e below s (own_Q0 n0) 16 128 (T114.setTop (mkF m 254 #[.val (.int x0), .val (.int x1), .val (.int x2), .val (.int x3), .val (.int x4), .val (.int x5), .val (.int (3 : Int32)), .val (.int c0), .val (.int c1), .val (.int c2), .val (.int c3), .val (.ref a3), .val (.int (own_id c0 c1 c2)), .val (.int ex), .val (.int (own_sm (3 : Int32) c0 c1 c2)), .val (.int (1 : Int32))] []))
        refine own_go (fun t k => XS.iconst X114.here hx rfl (hb hby at_254) k) ?_
        show own_G p e below s (own_Q0 n0) 16 128 (T114.setTop (mkF m 255 #[.val (.int x0), .val (.int x1), .val (.int x2), .val (.int x3), .val (.int x4), .val (.int x5), .val (.int (3 : Int32)), .val (.int c0), .val (.int c1), .val (.int c2), .val (.int c3), .val (.ref a3), .val (.int (own_id c0 c1 c2)), .val (.int ex), .val (.int (own_sm (3 : Int32) c0 c1 c2)), .val (.int (1 : Int32))] [(.int (1 : Int32))]))
        refine own_go (fun t k => XS.goto X114.here hx rfl (pc0 := 255) (pc' := 259) rfl (hb hby at_255) (by decide) (by decide) k) ?_
        show own_G p e below s (own_Q0 n0) 16 128 (T114.setTop (mkF m 259 #[.val (.int x0), .val (.int x1), .val (.int x2), .val (.int x3), .val (.int x4), .val (.int x5), .val (.int (3 : Int32)), .val (.int c0), .val (.int c1), .val (.int c2), .val (.int c3), .val (.ref a3), .val (.int (own_id c0 c1 c2)), .val (.int ex), .val (.int (own_sm (3 : Int32) c0 c1 c2)), .val (.int (1 : Int32))] [(.int (1 : Int32))]))
        exact own_leave X114 (some (.int (1 : Int32))) (fun h => by rw [Bd.returns] at h; cases h) Bd.notSynchronized (fun fs hr => retN X114 hx (t := .boolean) Bd.returns (by simp) (hb hby at_259) hr) ⟨rfl, (Fr.app N113 (Fr.nil n0))⟩ (by decide) (by decide)
      refine own_go (fun t k => XS.icmpNo X113.here hx rfl (hb hby at_143) rfl (XT.ii_lt_f (by decide)) k) ?_
      show own_G p e below s (own_Q0 n0) 16 128 (T113.setTop (mkF m 146 #[.val (.int x0), .val (.int x1), .val (.int x2), .val (.int x3), .val (.int x4), .val (.int x5), .val (.int (3 : Int32)), .val (.int c0), .val (.int c1), .val (.int c2), .val (.int c3), .val (.ref a3), .val (.int (own_id c0 c1 c2)), .unset, .unset, .unset] []))
      refine own_go (fun t k => XS.iload X113.here hx rfl (hb hby at_146) rfl k) ?_
      show own_G p e below s (own_Q0 n0) 16 128 (T113.setTop (mkF m 148 #[.val (.int x0), .val (.int x1), .val (.int x2), .val (.int x3), .val (.int x4), .val (.int x5), .val (.int (3 : Int32)), .val (.int c0), .val (.int c1), .val (.int c2), .val (.int c3), .val (.ref a3), .val (.int (own_id c0 c1 c2)), .unset, .unset, .unset] [(.int (own_id c0 c1 c2))]))
      refine own_go (X113.ldcInt hx hown (mvT hZ (hw _ (List.mem_of_getElem? (i := 6) rfl))) (g := (mkF m 148 #[.val (.int x0), .val (.int x1), .val (.int x2), .val (.int x3), .val (.int x4), .val (.int x5), .val (.int (3 : Int32)), .val (.int c0), .val (.int c1), .val (.int c2), .val (.int c3), .val (.ref a3), .val (.int (own_id c0 c1 c2)), .unset, .unset, .unset] [(.int (own_id c0 c1 c2))])) rfl (hb hby at_148)) ?_
      show own_G p e below s (own_Q0 n0) 16 128 (T113.setTop (mkF m 150 #[.val (.int x0), .val (.int x1), .val (.int x2), .val (.int x3), .val (.int x4), .val (.int x5), .val (.int (3 : Int32)), .val (.int c0), .val (.int c1), .val (.int c2), .val (.int c3), .val (.ref a3), .val (.int (own_id c0 c1 c2)), .unset, .unset, .unset] [(.int (2067208 : Int32)), (.int (own_id c0 c1 c2))]))
      by_cases h9 : (own_id c0 c1 c2) = (2067208 : Int32)
      · skip
        refine own_go (fun t k => XS.icmpNo X113.here hx rfl (hb hby at_150) rfl (XT.ii_ne_f h9) k) ?_
        show own_G p e below s (own_Q0 n0) 16 128 (T113.setTop (mkF m 153 #[.val (.int x0), .val (.int x1), .val (.int x2), .val (.int x3), .val (.int x4), .val (.int x5), .val (.int (3 : Int32)), .val (.int c0), .val (.int c1), .val (.int c2), .val (.int c3), .val (.ref a3), .val (.int (own_id c0 c1 c2)), .unset, .unset, .unset] []))
        refine own_go (fun t k => XS.iconst X113.here hx rfl (hb hby at_153) k) ?_
        show own_G p e below s (own_Q0 n0) 16 128 (T113.setTop (mkF m 154 #[.val (.int x0), .val (.int x1), .val (.int x2), .val (.int x3), .val (.int x4), .val (.int x5), .val (.int (3 : Int32)), .val (.int c0), .val (.int c1), .val (.int c2), .val (.int c3), .val (.ref a3), .val (.int (own_id c0 c1 c2)), .unset, .unset, .unset] [(.int (1 : Int32))]))
        refine own_go (fun t k => XS.goto X113.here hx rfl (pc0 := 154) (pc' := 158) rfl (hb hby at_154) (by decide) (by decide) k) ?_
        show own_G p e below s (own_Q0 n0) 16 128 (T113.setTop (mkF m 158 #[.val (.int x0), .val (.int x1), .val (.int x2), .val (.int x3), .val (.int x4), .val (.int x5), .val (.int (3 : Int32)), .val (.int c0), .val (.int c1), .val (.int c2), .val (.int c3), .val (.ref a3), .val (.int (own_id c0 c1 c2)), .unset, .unset, .unset] [(.int (1 : Int32))]))
        refine own_go (fun t k => XS.istore X113.here hx rfl (hb hby at_158) rfl (l' := #[.val (.int x0), .val (.int x1), .val (.int x2), .val (.int x3), .val (.int x4), .val (.int x5), .val (.int (3 : Int32)), .val (.int c0), .val (.int c1), .val (.int c2), .val (.int c3), .val (.ref a3), .val (.int (own_id c0 c1 c2)), .val (.int (1 : Int32)), .unset, .unset]) rfl k) ?_
        show own_G p e below s (own_Q0 n0) 16 128 (T113.setTop (mkF m 160 #[.val (.int x0), .val (.int x1), .val (.int x2), .val (.int x3), .val (.int x4), .val (.int x5), .val (.int (3 : Int32)), .val (.int c0), .val (.int c1), .val (.int c2), .val (.int c3), .val (.ref a3), .val (.int (own_id c0 c1 c2)), .val (.int (1 : Int32)), .unset, .unset] []))
        exact J160 _ (own_id_yes m0 m1 m2 (by decide) h9)
      · skip
        refine own_go (fun t k => XS.icmpYes X113.here hx rfl (pc0 := 150) (pc' := 157) rfl (hb hby at_150) rfl (XT.ii_ne_t h9) (by decide) (by decide) k) ?_
        show own_G p e below s (own_Q0 n0) 16 128 (T113.setTop (mkF m 157 #[.val (.int x0), .val (.int x1), .val (.int x2), .val (.int x3), .val (.int x4), .val (.int x5), .val (.int (3 : Int32)), .val (.int c0), .val (.int c1), .val (.int c2), .val (.int c3), .val (.ref a3), .val (.int (own_id c0 c1 c2)), .unset, .unset, .unset] []))
        refine own_go (fun t k => XS.iconst X113.here hx rfl (hb hby at_157) k) ?_
        show own_G p e below s (own_Q0 n0) 16 128 (T113.setTop (mkF m 158 #[.val (.int x0), .val (.int x1), .val (.int x2), .val (.int x3), .val (.int x4), .val (.int x5), .val (.int (3 : Int32)), .val (.int c0), .val (.int c1), .val (.int c2), .val (.int c3), .val (.ref a3), .val (.int (own_id c0 c1 c2)), .unset, .unset, .unset] [(.int (0 : Int32))]))
        refine own_go (fun t k => XS.istore X113.here hx rfl (hb hby at_158) rfl (l' := #[.val (.int x0), .val (.int x1), .val (.int x2), .val (.int x3), .val (.int x4), .val (.int x5), .val (.int (3 : Int32)), .val (.int c0), .val (.int c1), .val (.int c2), .val (.int c3), .val (.ref a3), .val (.int (own_id c0 c1 c2)), .val (.int (0 : Int32)), .unset, .unset]) rfl k) ?_
        show own_G p e below s (own_Q0 n0) 16 128 (T113.setTop (mkF m 160 #[.val (.int x0), .val (.int x1), .val (.int x2), .val (.int x3), .val (.int x4), .val (.int x5), .val (.int (3 : Int32)), .val (.int c0), .val (.int c1), .val (.int c2), .val (.int c3), .val (.ref a3), .val (.int (own_id c0 c1 c2)), .val (.int (0 : Int32)), .unset, .unset] []))
        exact J160 _ (own_id_no (by decide) h9)
    · skip
      show own_G p e below s (own_Q0 n0) 16 128 (s₁.setTop (mkF m 59 #[.val (.int x0), .val (.int x1), .val (.int x2), .val (.int x3), .val (.int x4), .val (.int x5), .val (.int (4 : Int32)), .val (.int c0), .val (.int c1), .val (.int c2), .val (.int c3), .unset, .unset, .unset, .unset, .unset] []))
      refine own_go (fun t k => XS.iload X0.here hx rfl (hb hby at_59) rfl k) ?_
      show own_G p e below s (own_Q0 n0) 16 128 (s₁.setTop (mkF m 61 #[.val (.int x0), .val (.int x1), .val (.int x2), .val (.int x3), .val (.int x4), .val (.int x5), .val (.int (4 : Int32)), .val (.int c0), .val (.int c1), .val (.int c2), .val (.int c3), .unset, .unset, .unset, .unset, .unset] [(.int (4 : Int32))]))
      obtain ⟨T115, h115, cA115, X115, e115, E115, A115, st115⟩ := newP X0 hx hZ (hw _ (List.mem_of_getElem? (i := 1) rfl)) e0 (g := (mkF m 61 #[.val (.int x0), .val (.int x1), .val (.int x2), .val (.int x3), .val (.int x4), .val (.int x5), .val (.int (4 : Int32)), .val (.int c0), .val (.int c1), .val (.int c2), .val (.int c3), .unset, .unset, .unset, .unset, .unset] [(.int (4 : Int32))])) rfl (hb hby at_61) rfl (by decide) (cap := 4) (by decide) (by decide) (by decide) (by decide)
      obtain ⟨a3, g115⟩ : ∃ z, z = h0.size := ⟨_, rfl⟩
      rw [← g115] at A115 st115
      have V115 : Arv Z h115 a3 cA115 .byte (4 : Int32) [(.int 0), (.int 0), (.int 0), (.int 0)] (.int 0) := (Arv.new A115 (by decide)).pad (pad_rep [] (.int 0) 4)
      refine own_go st115 ?_
      show own_G p e below s (own_Q0 n0) 16 128 (T115.setTop (mkF m 63 #[.val (.int x0), .val (.int x1), .val (.int x2), .val (.int x3), .val (.int x4), .val (.int x5), .val (.int (4 : Int32)), .val (.int c0), .val (.int c1), .val (.int c2), .val (.int c3), .unset, .unset, .unset, .unset, .unset] [(.ref a3)]))
      have g3 : n0 ≤ a3 := Nat.le_trans Z0 (Nat.le_of_eq g115.symm)
      refine own_go (fun t k => XS.astore X115.here hx rfl (hb hby at_63) rfl rfl (l' := #[.val (.int x0), .val (.int x1), .val (.int x2), .val (.int x3), .val (.int x4), .val (.int x5), .val (.int (4 : Int32)), .val (.int c0), .val (.int c1), .val (.int c2), .val (.int c3), .val (.ref a3), .unset, .unset, .unset, .unset]) rfl k) ?_
      show own_G p e below s (own_Q0 n0) 16 128 (T115.setTop (mkF m 65 #[.val (.int x0), .val (.int x1), .val (.int x2), .val (.int x3), .val (.int x4), .val (.int x5), .val (.int (4 : Int32)), .val (.int c0), .val (.int c1), .val (.int c2), .val (.int c3), .val (.ref a3), .unset, .unset, .unset, .unset] []))
      refine own_go (fun t k => XS.iload X115.here hx rfl (hb hby at_65) rfl k) ?_
      show own_G p e below s (own_Q0 n0) 16 128 (T115.setTop (mkF m 67 #[.val (.int x0), .val (.int x1), .val (.int x2), .val (.int x3), .val (.int x4), .val (.int x5), .val (.int (4 : Int32)), .val (.int c0), .val (.int c1), .val (.int c2), .val (.int c3), .val (.ref a3), .unset, .unset, .unset, .unset] [(.int (4 : Int32))]))
      refine own_go (fun t k => XS.ifNo X115.here hx rfl (hb hby at_67) rfl (XT.i0_le_f (by decide)) k) ?_
      show own_G p e below s (own_Q0 n0) 16 128 (T115.setTop (mkF m 70 #[.val (.int x0), .val (.int x1), .val (.int x2), .val (.int x3), .val (.int x4), .val (.int x5), .val (.int (4 : Int32)), .val (.int c0), .val (.int c1), .val (.int c2), .val (.int c3), .val (.ref a3), .unset, .unset, .unset, .unset] []))
      refine own_go (fun t k => XS.aload X115.here hx rfl (hb hby at_70) rfl rfl k) ?_
      show own_G p e below s (own_Q0 n0) 16 128 (T115.setTop (mkF m 72 #[.val (.int x0), .val (.int x1), .val (.int x2), .val (.int x3), .val (.int x4), .val (.int x5), .val (.int (4 : Int32)), .val (.int c0), .val (.int c1), .val (.int c2), .val (.int c3), .val (.ref a3), .unset, .unset, .unset, .unset] [(.ref a3)]))
      refine own_go (fun t k => XS.iconst X115.here hx rfl (hb hby at_72) k) ?_
      show own_G p e below s (own_Q0 n0) 16 128 (T115.setTop (mkF m 73 #[.val (.int x0), .val (.int x1), .val (.int x2), .val (.int x3), .val (.int x4), .val (.int x5), .val (.int (4 : Int32)), .val (.int c0), .val (.int c1), .val (.int c2), .val (.int c3), .val (.ref a3), .unset, .unset, .unset, .unset] [(.int (0 : Int32)), (.ref a3)]))
      refine own_go (fun t k => XS.iload X115.here hx rfl (hb hby at_73) rfl k) ?_
      show own_G p e below s (own_Q0 n0) 16 128 (T115.setTop (mkF m 75 #[.val (.int x0), .val (.int x1), .val (.int x2), .val (.int x3), .val (.int x4), .val (.int x5), .val (.int (4 : Int32)), .val (.int c0), .val (.int c1), .val (.int c2), .val (.int c3), .val (.ref a3), .unset, .unset, .unset, .unset] [(.int c0), (.int (0 : Int32)), (.ref a3)]))
      obtain ⟨T116, h116, X116, e116, W116, V116, st116⟩ := own_stB X115 hx hZ e115 V115 (j := (0 : Int32)) ⟨by decide, by decide⟩ 0 (by decide) (by simp) (vs' := [(.int c0), (.int 0), (.int 0), (.int 0)]) (by rw [m0]; rfl) (g := (mkF m 75 #[.val (.int x0), .val (.int x1), .val (.int x2), .val (.int x3), .val (.int x4), .val (.int x5), .val (.int (4 : Int32)), .val (.int c0), .val (.int c1), .val (.int c2), .val (.int c3), .val (.ref a3), .unset, .unset, .unset, .unset] [(.int c0), (.int (0 : Int32)), (.ref a3)])) rfl rfl (hb hby at_75)
      have N116 := Fr.snoc X116 (Fr.nil n0) g3
      refine own_go st116 ?_
      show own_G p e below s (own_Q0 n0) 16 128 (T116.setTop (mkF m 76 #[.val (.int x0), .val (.int x1), .val (.int x2), .val (.int x3), .val (.int x4), .val (.int x5), .val (.int (4 : Int32)), .val (.int c0), .val (.int c1), .val (.int c2), .val (.int c3), .val (.ref a3), .unset, .unset, .unset, .unset] []))
      refine own_go (fun t k => XS.iload X116.here hx rfl (hb hby at_76) rfl k) ?_
      show own_G p e below s (own_Q0 n0) 16 128 (T116.setTop (mkF m 78 #[.val (.int x0), .val (.int x1), .val (.int x2), .val (.int x3), .val (.int x4), .val (.int x5), .val (.int (4 : Int32)), .val (.int c0), .val (.int c1), .val (.int c2), .val (.int c3), .val (.ref a3), .unset, .unset, .unset, .unset] [(.int (4 : Int32))]))
      refine own_go (fun t k => XS.iconst X116.here hx rfl (hb hby at_78) k) ?_
      show own_G p e below s (own_Q0 n0) 16 128 (T116.setTop (mkF m 79 #[.val (.int x0), .val (.int x1), .val (.int x2), .val (.int x3), .val (.int x4), .val (.int x5), .val (.int (4 : Int32)), .val (.int c0), .val (.int c1), .val (.int c2), .val (.int c3), .val (.ref a3), .unset, .unset, .unset, .unset] [(.int (1 : Int32)), (.int (4 : Int32))]))
      refine own_go (fun t k => XS.icmpNo X116.here hx rfl (hb hby at_79) rfl (XT.ii_le_f (by decide)) k) ?_
      show own_G p e below s (own_Q0 n0) 16 128 (T116.setTop (mkF m 82 #[.val (.int x0), .val (.int x1), .val (.int x2), .val (.int x3), .val (.int x4), .val (.int x5), .val (.int (4 : Int32)), .val (.int c0), .val (.int c1), .val (.int c2), .val (.int c3), .val (.ref a3), .unset, .unset, .unset, .unset] []))
      refine own_go (fun t k => XS.aload X116.here hx rfl (hb hby at_82) rfl rfl k) ?_
      show own_G p e below s (own_Q0 n0) 16 128 (T116.setTop (mkF m 84 #[.val (.int x0), .val (.int x1), .val (.int x2), .val (.int x3), .val (.int x4), .val (.int x5), .val (.int (4 : Int32)), .val (.int c0), .val (.int c1), .val (.int c2), .val (.int c3), .val (.ref a3), .unset, .unset, .unset, .unset] [(.ref a3)]))
      refine own_go (fun t k => XS.iconst X116.here hx rfl (hb hby at_84) k) ?_
      show own_G p e below s (own_Q0 n0) 16 128 (T116.setTop (mkF m 85 #[.val (.int x0), .val (.int x1), .val (.int x2), .val (.int x3), .val (.int x4), .val (.int x5), .val (.int (4 : Int32)), .val (.int c0), .val (.int c1), .val (.int c2), .val (.int c3), .val (.ref a3), .unset, .unset, .unset, .unset] [(.int (1 : Int32)), (.ref a3)]))
      refine own_go (fun t k => XS.iload X116.here hx rfl (hb hby at_85) rfl k) ?_
      show own_G p e below s (own_Q0 n0) 16 128 (T116.setTop (mkF m 87 #[.val (.int x0), .val (.int x1), .val (.int x2), .val (.int x3), .val (.int x4), .val (.int x5), .val (.int (4 : Int32)), .val (.int c0), .val (.int c1), .val (.int c2), .val (.int c3), .val (.ref a3), .unset, .unset, .unset, .unset] [(.int c1), (.int (1 : Int32)), (.ref a3)]))
      obtain ⟨T117, h117, X117, e117, W117, V117, st117⟩ := own_stB X116 hx hZ e116 V116 (j := (1 : Int32)) ⟨by decide, by decide⟩ 1 (by decide) (by simp) (vs' := [(.int c0), (.int c1), (.int 0), (.int 0)]) (by rw [m1]; rfl) (g := (mkF m 87 #[.val (.int x0), .val (.int x1), .val (.int x2), .val (.int x3), .val (.int x4), .val (.int x5), .val (.int (4 : Int32)), .val (.int c0), .val (.int c1), .val (.int c2), .val (.int c3), .val (.ref a3), .unset, .unset, .unset, .unset] [(.int c1), (.int (1 : Int32)), (.ref a3)])) rfl rfl (hb hby at_87)
      have N117 := Fr.snoc X117 N116 g3
      refine own_go st117 ?_
      show own_G p e below s (own_Q0 n0) 16 128 (T117.setTop (mkF m 88 #[.val (.int x0), .val (.int x1), .val (.int x2), .val (.int x3), .val (.int x4), .val (.int x5), .val (.int (4 : Int32)), .val (.int c0), .val (.int c1), .val (.int c2), .val (.int c3), .val (.ref a3), .unset, .unset, .unset, .unset] []))
      refine own_go (fun t k => XS.iload X117.here hx rfl (hb hby at_88) rfl k) ?_
      show own_G p e below s (own_Q0 n0) 16 128 (T117.setTop (mkF m 90 #[.val (.int x0), .val (.int x1), .val (.int x2), .val (.int x3), .val (.int x4), .val (.int x5), .val (.int (4 : Int32)), .val (.int c0), .val (.int c1), .val (.int c2), .val (.int c3), .val (.ref a3), .unset, .unset, .unset, .unset] [(.int (4 : Int32))]))
      refine own_go (fun t k => XS.iconst X117.here hx rfl (hb hby at_90) k) ?_
      show own_G p e below s (own_Q0 n0) 16 128 (T117.setTop (mkF m 91 #[.val (.int x0), .val (.int x1), .val (.int x2), .val (.int x3), .val (.int x4), .val (.int x5), .val (.int (4 : Int32)), .val (.int c0), .val (.int c1), .val (.int c2), .val (.int c3), .val (.ref a3), .unset, .unset, .unset, .unset] [(.int (2 : Int32)), (.int (4 : Int32))]))
      refine own_go (fun t k => XS.icmpNo X117.here hx rfl (hb hby at_91) rfl (XT.ii_le_f (by decide)) k) ?_
      show own_G p e below s (own_Q0 n0) 16 128 (T117.setTop (mkF m 94 #[.val (.int x0), .val (.int x1), .val (.int x2), .val (.int x3), .val (.int x4), .val (.int x5), .val (.int (4 : Int32)), .val (.int c0), .val (.int c1), .val (.int c2), .val (.int c3), .val (.ref a3), .unset, .unset, .unset, .unset] []))
      refine own_go (fun t k => XS.aload X117.here hx rfl (hb hby at_94) rfl rfl k) ?_
      show own_G p e below s (own_Q0 n0) 16 128 (T117.setTop (mkF m 96 #[.val (.int x0), .val (.int x1), .val (.int x2), .val (.int x3), .val (.int x4), .val (.int x5), .val (.int (4 : Int32)), .val (.int c0), .val (.int c1), .val (.int c2), .val (.int c3), .val (.ref a3), .unset, .unset, .unset, .unset] [(.ref a3)]))
      refine own_go (fun t k => XS.iconst X117.here hx rfl (hb hby at_96) k) ?_
      show own_G p e below s (own_Q0 n0) 16 128 (T117.setTop (mkF m 97 #[.val (.int x0), .val (.int x1), .val (.int x2), .val (.int x3), .val (.int x4), .val (.int x5), .val (.int (4 : Int32)), .val (.int c0), .val (.int c1), .val (.int c2), .val (.int c3), .val (.ref a3), .unset, .unset, .unset, .unset] [(.int (2 : Int32)), (.ref a3)]))
      refine own_go (fun t k => XS.iload X117.here hx rfl (hb hby at_97) rfl k) ?_
      show own_G p e below s (own_Q0 n0) 16 128 (T117.setTop (mkF m 99 #[.val (.int x0), .val (.int x1), .val (.int x2), .val (.int x3), .val (.int x4), .val (.int x5), .val (.int (4 : Int32)), .val (.int c0), .val (.int c1), .val (.int c2), .val (.int c3), .val (.ref a3), .unset, .unset, .unset, .unset] [(.int c2), (.int (2 : Int32)), (.ref a3)]))
      obtain ⟨T118, h118, X118, e118, W118, V118, st118⟩ := own_stB X117 hx hZ e117 V117 (j := (2 : Int32)) ⟨by decide, by decide⟩ 2 (by decide) (by simp) (vs' := [(.int c0), (.int c1), (.int c2), (.int 0)]) (by rw [m2]; rfl) (g := (mkF m 99 #[.val (.int x0), .val (.int x1), .val (.int x2), .val (.int x3), .val (.int x4), .val (.int x5), .val (.int (4 : Int32)), .val (.int c0), .val (.int c1), .val (.int c2), .val (.int c3), .val (.ref a3), .unset, .unset, .unset, .unset] [(.int c2), (.int (2 : Int32)), (.ref a3)])) rfl rfl (hb hby at_99)
      have N118 := Fr.snoc X118 N117 g3
      refine own_go st118 ?_
      show own_G p e below s (own_Q0 n0) 16 128 (T118.setTop (mkF m 100 #[.val (.int x0), .val (.int x1), .val (.int x2), .val (.int x3), .val (.int x4), .val (.int x5), .val (.int (4 : Int32)), .val (.int c0), .val (.int c1), .val (.int c2), .val (.int c3), .val (.ref a3), .unset, .unset, .unset, .unset] []))
      refine own_go (fun t k => XS.iload X118.here hx rfl (hb hby at_100) rfl k) ?_
      show own_G p e below s (own_Q0 n0) 16 128 (T118.setTop (mkF m 102 #[.val (.int x0), .val (.int x1), .val (.int x2), .val (.int x3), .val (.int x4), .val (.int x5), .val (.int (4 : Int32)), .val (.int c0), .val (.int c1), .val (.int c2), .val (.int c3), .val (.ref a3), .unset, .unset, .unset, .unset] [(.int (4 : Int32))]))
      refine own_go (fun t k => XS.iconst X118.here hx rfl (hb hby at_102) k) ?_
      show own_G p e below s (own_Q0 n0) 16 128 (T118.setTop (mkF m 103 #[.val (.int x0), .val (.int x1), .val (.int x2), .val (.int x3), .val (.int x4), .val (.int x5), .val (.int (4 : Int32)), .val (.int c0), .val (.int c1), .val (.int c2), .val (.int c3), .val (.ref a3), .unset, .unset, .unset, .unset] [(.int (3 : Int32)), (.int (4 : Int32))]))
      refine own_go (fun t k => XS.icmpNo X118.here hx rfl (hb hby at_103) rfl (XT.ii_le_f (by decide)) k) ?_
      show own_G p e below s (own_Q0 n0) 16 128 (T118.setTop (mkF m 106 #[.val (.int x0), .val (.int x1), .val (.int x2), .val (.int x3), .val (.int x4), .val (.int x5), .val (.int (4 : Int32)), .val (.int c0), .val (.int c1), .val (.int c2), .val (.int c3), .val (.ref a3), .unset, .unset, .unset, .unset] []))
      refine own_go (fun t k => XS.aload X118.here hx rfl (hb hby at_106) rfl rfl k) ?_
      show own_G p e below s (own_Q0 n0) 16 128 (T118.setTop (mkF m 108 #[.val (.int x0), .val (.int x1), .val (.int x2), .val (.int x3), .val (.int x4), .val (.int x5), .val (.int (4 : Int32)), .val (.int c0), .val (.int c1), .val (.int c2), .val (.int c3), .val (.ref a3), .unset, .unset, .unset, .unset] [(.ref a3)]))
      refine own_go (fun t k => XS.iconst X118.here hx rfl (hb hby at_108) k) ?_
      show own_G p e below s (own_Q0 n0) 16 128 (T118.setTop (mkF m 109 #[.val (.int x0), .val (.int x1), .val (.int x2), .val (.int x3), .val (.int x4), .val (.int x5), .val (.int (4 : Int32)), .val (.int c0), .val (.int c1), .val (.int c2), .val (.int c3), .val (.ref a3), .unset, .unset, .unset, .unset] [(.int (3 : Int32)), (.ref a3)]))
      refine own_go (fun t k => XS.iload X118.here hx rfl (hb hby at_109) rfl k) ?_
      show own_G p e below s (own_Q0 n0) 16 128 (T118.setTop (mkF m 111 #[.val (.int x0), .val (.int x1), .val (.int x2), .val (.int x3), .val (.int x4), .val (.int x5), .val (.int (4 : Int32)), .val (.int c0), .val (.int c1), .val (.int c2), .val (.int c3), .val (.ref a3), .unset, .unset, .unset, .unset] [(.int c3), (.int (3 : Int32)), (.ref a3)]))
      obtain ⟨T119, h119, X119, e119, W119, V119, st119⟩ := own_stB X118 hx hZ e118 V118 (j := (3 : Int32)) ⟨by decide, by decide⟩ 3 (by decide) (by simp) (vs' := [(.int c0), (.int c1), (.int c2), (.int c3)]) (by rw [m3]; rfl) (g := (mkF m 111 #[.val (.int x0), .val (.int x1), .val (.int x2), .val (.int x3), .val (.int x4), .val (.int x5), .val (.int (4 : Int32)), .val (.int c0), .val (.int c1), .val (.int c2), .val (.int c3), .val (.ref a3), .unset, .unset, .unset, .unset] [(.int c3), (.int (3 : Int32)), (.ref a3)])) rfl rfl (hb hby at_111)
      have N119 := Fr.snoc X119 N118 g3
      refine own_go st119 ?_
      show own_G p e below s (own_Q0 n0) 16 128 (T119.setTop (mkF m 112 #[.val (.int x0), .val (.int x1), .val (.int x2), .val (.int x3), .val (.int x4), .val (.int x5), .val (.int (4 : Int32)), .val (.int c0), .val (.int c1), .val (.int c2), .val (.int c3), .val (.ref a3), .unset, .unset, .unset, .unset] []))
      refine own_go (fun t k => XS.iload X119.here hx rfl (hb hby at_112) rfl k) ?_
      show own_G p e below s (own_Q0 n0) 16 128 (T119.setTop (mkF m 114 #[.val (.int x0), .val (.int x1), .val (.int x2), .val (.int x3), .val (.int x4), .val (.int x5), .val (.int (4 : Int32)), .val (.int c0), .val (.int c1), .val (.int c2), .val (.int c3), .val (.ref a3), .unset, .unset, .unset, .unset] [(.int c0)]))
      refine own_go (fun t k => XS.sipush X119.here hx rfl (hb hby at_114) k) ?_
      show own_G p e below s (own_Q0 n0) 16 128 (T119.setTop (mkF m 117 #[.val (.int x0), .val (.int x1), .val (.int x2), .val (.int x3), .val (.int x4), .val (.int x5), .val (.int (4 : Int32)), .val (.int c0), .val (.int c1), .val (.int c2), .val (.int c3), .val (.ref a3), .unset, .unset, .unset, .unset] [(.int (255 : Int32)), (.int c0)]))
      refine own_go (fun t k => XS.iand X119.here hx rfl (hb hby at_117) rfl k) ?_
      show own_G p e below s (own_Q0 n0) 16 128 (T119.setTop (mkF m 118 #[.val (.int x0), .val (.int x1), .val (.int x2), .val (.int x3), .val (.int x4), .val (.int x5), .val (.int (4 : Int32)), .val (.int c0), .val (.int c1), .val (.int c2), .val (.int c3), .val (.ref a3), .unset, .unset, .unset, .unset] [(.int (c0 &&& (255 : Int32)))]))
      refine own_go (fun t k => XS.bipush X119.here hx rfl (hb hby at_118) k) ?_
      show own_G p e below s (own_Q0 n0) 16 128 (T119.setTop (mkF m 120 #[.val (.int x0), .val (.int x1), .val (.int x2), .val (.int x3), .val (.int x4), .val (.int x5), .val (.int (4 : Int32)), .val (.int c0), .val (.int c1), .val (.int c2), .val (.int c3), .val (.ref a3), .unset, .unset, .unset, .unset] [(.int (16 : Int32)), (.int (c0 &&& (255 : Int32)))]))
      refine own_go (fun t k => XT.ishl X119.here hx rfl (hb hby at_120) rfl k) ?_
      show own_G p e below s (own_Q0 n0) 16 128 (T119.setTop (mkF m 121 #[.val (.int x0), .val (.int x1), .val (.int x2), .val (.int x3), .val (.int x4), .val (.int x5), .val (.int (4 : Int32)), .val (.int c0), .val (.int c1), .val (.int c2), .val (.int c3), .val (.ref a3), .unset, .unset, .unset, .unset] [(.int ((c0 &&& (255 : Int32)) <<< ((16 : Int32) &&& 31)))]))
      refine own_go (fun t k => XS.iload X119.here hx rfl (hb hby at_121) rfl k) ?_
      show own_G p e below s (own_Q0 n0) 16 128 (T119.setTop (mkF m 123 #[.val (.int x0), .val (.int x1), .val (.int x2), .val (.int x3), .val (.int x4), .val (.int x5), .val (.int (4 : Int32)), .val (.int c0), .val (.int c1), .val (.int c2), .val (.int c3), .val (.ref a3), .unset, .unset, .unset, .unset] [(.int c1), (.int ((c0 &&& (255 : Int32)) <<< ((16 : Int32) &&& 31)))]))
      refine own_go (fun t k => XS.sipush X119.here hx rfl (hb hby at_123) k) ?_
      show own_G p e below s (own_Q0 n0) 16 128 (T119.setTop (mkF m 126 #[.val (.int x0), .val (.int x1), .val (.int x2), .val (.int x3), .val (.int x4), .val (.int x5), .val (.int (4 : Int32)), .val (.int c0), .val (.int c1), .val (.int c2), .val (.int c3), .val (.ref a3), .unset, .unset, .unset, .unset] [(.int (255 : Int32)), (.int c1), (.int ((c0 &&& (255 : Int32)) <<< ((16 : Int32) &&& 31)))]))
      refine own_go (fun t k => XS.iand X119.here hx rfl (hb hby at_126) rfl k) ?_
      show own_G p e below s (own_Q0 n0) 16 128 (T119.setTop (mkF m 127 #[.val (.int x0), .val (.int x1), .val (.int x2), .val (.int x3), .val (.int x4), .val (.int x5), .val (.int (4 : Int32)), .val (.int c0), .val (.int c1), .val (.int c2), .val (.int c3), .val (.ref a3), .unset, .unset, .unset, .unset] [(.int (c1 &&& (255 : Int32))), (.int ((c0 &&& (255 : Int32)) <<< ((16 : Int32) &&& 31)))]))
      refine own_go (fun t k => XS.bipush X119.here hx rfl (hb hby at_127) k) ?_
      show own_G p e below s (own_Q0 n0) 16 128 (T119.setTop (mkF m 129 #[.val (.int x0), .val (.int x1), .val (.int x2), .val (.int x3), .val (.int x4), .val (.int x5), .val (.int (4 : Int32)), .val (.int c0), .val (.int c1), .val (.int c2), .val (.int c3), .val (.ref a3), .unset, .unset, .unset, .unset] [(.int (8 : Int32)), (.int (c1 &&& (255 : Int32))), (.int ((c0 &&& (255 : Int32)) <<< ((16 : Int32) &&& 31)))]))
      refine own_go (fun t k => XT.ishl X119.here hx rfl (hb hby at_129) rfl k) ?_
      show own_G p e below s (own_Q0 n0) 16 128 (T119.setTop (mkF m 130 #[.val (.int x0), .val (.int x1), .val (.int x2), .val (.int x3), .val (.int x4), .val (.int x5), .val (.int (4 : Int32)), .val (.int c0), .val (.int c1), .val (.int c2), .val (.int c3), .val (.ref a3), .unset, .unset, .unset, .unset] [(.int ((c1 &&& (255 : Int32)) <<< ((8 : Int32) &&& 31))), (.int ((c0 &&& (255 : Int32)) <<< ((16 : Int32) &&& 31)))]))
      refine own_go (fun t k => XT.ior X119.here hx rfl (hb hby at_130) rfl k) ?_
      show own_G p e below s (own_Q0 n0) 16 128 (T119.setTop (mkF m 131 #[.val (.int x0), .val (.int x1), .val (.int x2), .val (.int x3), .val (.int x4), .val (.int x5), .val (.int (4 : Int32)), .val (.int c0), .val (.int c1), .val (.int c2), .val (.int c3), .val (.ref a3), .unset, .unset, .unset, .unset] [(.int (((c0 &&& (255 : Int32)) <<< ((16 : Int32) &&& 31)) ||| ((c1 &&& (255 : Int32)) <<< ((8 : Int32) &&& 31))))]))
      refine own_go (fun t k => XS.iload X119.here hx rfl (hb hby at_131) rfl k) ?_
      show own_G p e below s (own_Q0 n0) 16 128 (T119.setTop (mkF m 133 #[.val (.int x0), .val (.int x1), .val (.int x2), .val (.int x3), .val (.int x4), .val (.int x5), .val (.int (4 : Int32)), .val (.int c0), .val (.int c1), .val (.int c2), .val (.int c3), .val (.ref a3), .unset, .unset, .unset, .unset] [(.int c2), (.int (((c0 &&& (255 : Int32)) <<< ((16 : Int32) &&& 31)) ||| ((c1 &&& (255 : Int32)) <<< ((8 : Int32) &&& 31))))]))
      refine own_go (fun t k => XS.sipush X119.here hx rfl (hb hby at_133) k) ?_
      show own_G p e below s (own_Q0 n0) 16 128 (T119.setTop (mkF m 136 #[.val (.int x0), .val (.int x1), .val (.int x2), .val (.int x3), .val (.int x4), .val (.int x5), .val (.int (4 : Int32)), .val (.int c0), .val (.int c1), .val (.int c2), .val (.int c3), .val (.ref a3), .unset, .unset, .unset, .unset] [(.int (255 : Int32)), (.int c2), (.int (((c0 &&& (255 : Int32)) <<< ((16 : Int32) &&& 31)) ||| ((c1 &&& (255 : Int32)) <<< ((8 : Int32) &&& 31))))]))
      refine own_go (fun t k => XS.iand X119.here hx rfl (hb hby at_136) rfl k) ?_
      show own_G p e below s (own_Q0 n0) 16 128 (T119.setTop (mkF m 137 #[.val (.int x0), .val (.int x1), .val (.int x2), .val (.int x3), .val (.int x4), .val (.int x5), .val (.int (4 : Int32)), .val (.int c0), .val (.int c1), .val (.int c2), .val (.int c3), .val (.ref a3), .unset, .unset, .unset, .unset] [(.int (c2 &&& (255 : Int32))), (.int (((c0 &&& (255 : Int32)) <<< ((16 : Int32) &&& 31)) ||| ((c1 &&& (255 : Int32)) <<< ((8 : Int32) &&& 31))))]))
      refine own_go (fun t k => XT.ior X119.here hx rfl (hb hby at_137) rfl k) ?_
      show own_G p e below s (own_Q0 n0) 16 128 (T119.setTop (mkF m 138 #[.val (.int x0), .val (.int x1), .val (.int x2), .val (.int x3), .val (.int x4), .val (.int x5), .val (.int (4 : Int32)), .val (.int c0), .val (.int c1), .val (.int c2), .val (.int c3), .val (.ref a3), .unset, .unset, .unset, .unset] [(.int ((((c0 &&& (255 : Int32)) <<< ((16 : Int32) &&& 31)) ||| ((c1 &&& (255 : Int32)) <<< ((8 : Int32) &&& 31))) ||| (c2 &&& (255 : Int32))))]))
      refine own_go (fun t k => XS.istore X119.here hx rfl (hb hby at_138) rfl (l' := #[.val (.int x0), .val (.int x1), .val (.int x2), .val (.int x3), .val (.int x4), .val (.int x5), .val (.int (4 : Int32)), .val (.int c0), .val (.int c1), .val (.int c2), .val (.int c3), .val (.ref a3), .val (.int ((((c0 &&& (255 : Int32)) <<< ((16 : Int32) &&& 31)) ||| ((c1 &&& (255 : Int32)) <<< ((8 : Int32) &&& 31))) ||| (c2 &&& (255 : Int32)))), .unset, .unset, .unset]) rfl k) ?_
      show own_G p e below s (own_Q0 n0) 16 128 (T119.setTop (mkF m 140 #[.val (.int x0), .val (.int x1), .val (.int x2), .val (.int x3), .val (.int x4), .val (.int x5), .val (.int (4 : Int32)), .val (.int c0), .val (.int c1), .val (.int c2), .val (.int c3), .val (.ref a3), .val (.int ((((c0 &&& (255 : Int32)) <<< ((16 : Int32) &&& 31)) ||| ((c1 &&& (255 : Int32)) <<< ((8 : Int32) &&& 31))) ||| (c2 &&& (255 : Int32)))), .unset, .unset, .unset] []))
      show own_G p e below s (own_Q0 n0) 16 128 (T119.setTop (mkF m 140 #[.val (.int x0), .val (.int x1), .val (.int x2), .val (.int x3), .val (.int x4), .val (.int x5), .val (.int (4 : Int32)), .val (.int c0), .val (.int c1), .val (.int c2), .val (.int c3), .val (.ref a3), .val (.int (own_id c0 c1 c2)), .unset, .unset, .unset] []))
      refine own_go (fun t k => XS.iload X119.here hx rfl (hb hby at_140) rfl k) ?_
      show own_G p e below s (own_Q0 n0) 16 128 (T119.setTop (mkF m 142 #[.val (.int x0), .val (.int x1), .val (.int x2), .val (.int x3), .val (.int x4), .val (.int x5), .val (.int (4 : Int32)), .val (.int c0), .val (.int c1), .val (.int c2), .val (.int c3), .val (.ref a3), .val (.int (own_id c0 c1 c2)), .unset, .unset, .unset] [(.int (4 : Int32))]))
      refine own_go (fun t k => XS.iconst X119.here hx rfl (hb hby at_142) k) ?_
      show own_G p e below s (own_Q0 n0) 16 128 (T119.setTop (mkF m 143 #[.val (.int x0), .val (.int x1), .val (.int x2), .val (.int x3), .val (.int x4), .val (.int x5), .val (.int (4 : Int32)), .val (.int c0), .val (.int c1), .val (.int c2), .val (.int c3), .val (.ref a3), .val (.int (own_id c0 c1 c2)), .unset, .unset, .unset] [(.int (3 : Int32)), (.int (4 : Int32))]))
      have J160 : ∀ (ex : Int32) (hex : own_sm (4 : Int32) c0 c1 c2 = ex), own_G p e below s (own_Q0 n0) 16 128 (T119.setTop (mkF m 160 #[.val (.int x0), .val (.int x1), .val (.int x2), .val (.int x3), .val (.int x4), .val (.int x5), .val (.int (4 : Int32)), .val (.int c0), .val (.int c1), .val (.int c2), .val (.int c3), .val (.ref a3), .val (.int (own_id c0 c1 c2)), .val (.int ex), .unset, .unset] [])) := by
        intro ex hex
        refine own_go (fun t k => XS.aload X119.here hx rfl (hb hby at_160) rfl rfl k) ?_
        show own_G p e below s (own_Q0 n0) 16 128 (T119.setTop (mkF m 162 #[.val (.int x0), .val (.int x1), .val (.int x2), .val (.int x3), .val (.int x4), .val (.int x5), .val (.int (4 : Int32)), .val (.int c0), .val (.int c1), .val (.int c2), .val (.int c3), .val (.ref a3), .val (.int (own_id c0 c1 c2)), .val (.int ex), .unset, .unset] [(.ref a3)]))
        obtain ⟨_, _, ⟨T120, L120, k120, n120⟩, -, X120, ⟨Lc120, hQ120, l120, y120, z120⟩, st120⟩ := Jvm.LawKit.callS X119 hx (y := (⟨"com/example/graphalog/graphalog/io/GzipMembers", "startsMember", "([B)Z"⟩ : MethodName)) hown (mvT hZ (hw _ (List.mem_of_getElem? (i := 2) rfl))) (mvT hZ (hw _ (List.mem_of_getElem? (i := 3) rfl))) (mvT hZ (hw _ (List.mem_of_getElem? (i := 4) rfl))) (mvT hZ (hw _ (List.mem_of_getElem? (i := 5) rfl))) (by decide) (backOf (W := 0) (rm1 l Z a0 hw [] a3 cA115 (4 : Int32) c0 c1 c2 [(.int c0), (.int c1), (.int c2), (.int c3)] h119 V119 (fun _ => rfl) (fun _ => rfl) (fun _ => rfl)) hZ (hw _ (List.mem_of_getElem? (i := 5) rfl)) (hw _ (List.mem_of_getElem? (i := 4) rfl)) (by decide) (by decide)) (g := (mkF m 162 #[.val (.int x0), .val (.int x1), .val (.int x2), .val (.int x3), .val (.int x4), .val (.int x5), .val (.int (4 : Int32)), .val (.int c0), .val (.int c1), .val (.int c2), .val (.int c3), .val (.ref a3), .val (.int (own_id c0 c1 c2)), .val (.int ex), .unset, .unset] [(.ref a3)])) rfl (by rw [hml]; rfl) (argsL := [(.ref a3)]) (rest := []) (lenOf pd1 rfl) rfl (by show 2 * 0 + _ ≤ _; exact Nat.le_of_eq rfl) (hb hby at_162) (fun _ _ => ⟨rfl, e119, (by decide : 1 + 0 ≤ _), (by decide : 4 + 0 ≤ _)⟩)
        dsimp only [Pt.U, Pt.locs, Pt.cells, Pt.slots] at X120 l120 y120 z120 st120 hQ120
        subst l120 y120 z120
        obtain ⟨rfl, rfl, e120⟩ := hQ120
        refine own_go (st120) ?_
        show own_G p e below s (own_Q0 n0) 16 128 (T120.setTop (mkF m 165 #[.val (.int x0), .val (.int x1), .val (.int x2), .val (.int x3), .val (.int x4), .val (.int x5), .val (.int (4 : Int32)), .val (.int c0), .val (.int c1), .val (.int c2), .val (.int c3), .val (.ref a3), .val (.int (own_id c0 c1 c2)), .val (.int ex), .unset, .unset] [(.int (own_sm (4 : Int32) c0 c1 c2))]))
        refine own_go (fun t k => XS.istore X120.here hx rfl (hb hby at_165) rfl (l' := #[.val (.int x0), .val (.int x1), .val (.int x2), .val (.int x3), .val (.int x4), .val (.int x5), .val (.int (4 : Int32)), .val (.int c0), .val (.int c1), .val (.int c2), .val (.int c3), .val (.ref a3), .val (.int (own_id c0 c1 c2)), .val (.int ex), .val (.int (own_sm (4 : Int32) c0 c1 c2)), .unset]) rfl k) ?_
        show own_G p e below s (own_Q0 n0) 16 128 (T120.setTop (mkF m 167 #[.val (.int x0), .val (.int x1), .val (.int x2), .val (.int x3), .val (.int x4), .val (.int x5), .val (.int (4 : Int32)), .val (.int c0), .val (.int c1), .val (.int c2), .val (.int c3), .val (.ref a3), .val (.int (own_id c0 c1 c2)), .val (.int ex), .val (.int (own_sm (4 : Int32) c0 c1 c2)), .unset] []))
        refine own_go (fun t k => XS.iload X120.here hx rfl (hb hby at_167) rfl k) ?_
        show own_G p e below s (own_Q0 n0) 16 128 (T120.setTop (mkF m 169 #[.val (.int x0), .val (.int x1), .val (.int x2), .val (.int x3), .val (.int x4), .val (.int x5), .val (.int (4 : Int32)), .val (.int c0), .val (.int c1), .val (.int c2), .val (.int c3), .val (.ref a3), .val (.int (own_id c0 c1 c2)), .val (.int ex), .val (.int (own_sm (4 : Int32) c0 c1 c2)), .unset] [(.int (4 : Int32))]))
        refine own_go (fun t k => XS.iconst X120.here hx rfl (hb hby at_169) k) ?_
        show own_G p e below s (own_Q0 n0) 16 128 (T120.setTop (mkF m 170 #[.val (.int x0), .val (.int x1), .val (.int x2), .val (.int x3), .val (.int x4), .val (.int x5), .val (.int (4 : Int32)), .val (.int c0), .val (.int c1), .val (.int c2), .val (.int c3), .val (.ref a3), .val (.int (own_id c0 c1 c2)), .val (.int ex), .val (.int (own_sm (4 : Int32) c0 c1 c2)), .unset] [(.int (1 : Int32)), (.int (4 : Int32))]))
        refine own_go (fun t k => XS.icmpNo X120.here hx rfl (hb hby at_170) rfl (XT.ii_lt_f (by decide)) k) ?_
        show own_G p e below s (own_Q0 n0) 16 128 (T120.setTop (mkF m 173 #[.val (.int x0), .val (.int x1), .val (.int x2), .val (.int x3), .val (.int x4), .val (.int x5), .val (.int (4 : Int32)), .val (.int c0), .val (.int c1), .val (.int c2), .val (.int c3), .val (.ref a3), .val (.int (own_id c0 c1 c2)), .val (.int ex), .val (.int (own_sm (4 : Int32) c0 c1 c2)), .unset] []))
        refine own_go (fun t k => XS.aload X120.here hx rfl (hb hby at_173) rfl rfl k) ?_
        show own_G p e below s (own_Q0 n0) 16 128 (T120.setTop (mkF m 175 #[.val (.int x0), .val (.int x1), .val (.int x2), .val (.int x3), .val (.int x4), .val (.int x5), .val (.int (4 : Int32)), .val (.int c0), .val (.int c1), .val (.int c2), .val (.int c3), .val (.ref a3), .val (.int (own_id c0 c1 c2)), .val (.int ex), .val (.int (own_sm (4 : Int32) c0 c1 c2)), .unset] [(.ref a3)]))
        refine own_go (fun t k => XS.iconst X120.here hx rfl (hb hby at_175) k) ?_
        show own_G p e below s (own_Q0 n0) 16 128 (T120.setTop (mkF m 176 #[.val (.int x0), .val (.int x1), .val (.int x2), .val (.int x3), .val (.int x4), .val (.int x5), .val (.int (4 : Int32)), .val (.int c0), .val (.int c1), .val (.int c2), .val (.int c3), .val (.ref a3), .val (.int (own_id c0 c1 c2)), .val (.int ex), .val (.int (own_sm (4 : Int32) c0 c1 c2)), .unset] [(.int (0 : Int32)), (.ref a3)]))
        refine own_go (own_ldB X120 hx hZ e120 V119 (j := (0 : Int32)) (v := (.int c0)) ⟨by decide, by decide⟩ rfl (g := (mkF m 176 #[.val (.int x0), .val (.int x1), .val (.int x2), .val (.int x3), .val (.int x4), .val (.int x5), .val (.int (4 : Int32)), .val (.int c0), .val (.int c1), .val (.int c2), .val (.int c3), .val (.ref a3), .val (.int (own_id c0 c1 c2)), .val (.int ex), .val (.int (own_sm (4 : Int32) c0 c1 c2)), .unset] [(.int (0 : Int32)), (.ref a3)])) rfl rfl (hb hby at_176)) ?_
        show own_G p e below s (own_Q0 n0) 16 128 (T120.setTop (mkF m 177 #[.val (.int x0), .val (.int x1), .val (.int x2), .val (.int x3), .val (.int x4), .val (.int x5), .val (.int (4 : Int32)), .val (.int c0), .val (.int c1), .val (.int c2), .val (.int c3), .val (.ref a3), .val (.int (own_id c0 c1 c2)), .val (.int ex), .val (.int (own_sm (4 : Int32) c0 c1 c2)), .unset] [(.int c0)]))
        refine own_go (fun t k => XS.iload X120.here hx rfl (hb hby at_177) rfl k) ?_
        show own_G p e below s (own_Q0 n0) 16 128 (T120.setTop (mkF m 179 #[.val (.int x0), .val (.int x1), .val (.int x2), .val (.int x3), .val (.int x4), .val (.int x5), .val (.int (4 : Int32)), .val (.int c0), .val (.int c1), .val (.int c2), .val (.int c3), .val (.ref a3), .val (.int (own_id c0 c1 c2)), .val (.int ex), .val (.int (own_sm (4 : Int32) c0 c1 c2)), .unset] [(.int c0), (.int c0)]))
        refine own_go (fun t k => XS.icmpNo X120.here hx rfl (hb hby at_179) rfl (XT.ii_ne_f rfl) k) ?_
        show own_G p e below s (own_Q0 n0) 16 128 (T120.setTop (mkF m 182 #[.val (.int x0), .val (.int x1), .val (.int x2), .val (.int x3), .val (.int x4), .val (.int x5), .val (.int (4 : Int32)), .val (.int c0), .val (.int c1), .val (.int c2), .val (.int c3), .val (.ref a3), .val (.int (own_id c0 c1 c2)), .val (.int ex), .val (.int (own_sm (4 : Int32) c0 c1 c2)), .unset] []))
        refine own_go (fun t k => XS.iload X120.here hx rfl (hb hby at_182) rfl k) ?_
        show own_G p e below s (own_Q0 n0) 16 128 (T120.setTop (mkF m 184 #[.val (.int x0), .val (.int x1), .val (.int x2), .val (.int x3), .val (.int x4), .val (.int x5), .val (.int (4 : Int32)), .val (.int c0), .val (.int c1), .val (.int c2), .val (.int c3), .val (.ref a3), .val (.int (own_id c0 c1 c2)), .val (.int ex), .val (.int (own_sm (4 : Int32) c0 c1 c2)), .unset] [(.int (4 : Int32))]))
        refine own_go (fun t k => XS.iconst X120.here hx rfl (hb hby at_184) k) ?_
        show own_G p e below s (own_Q0 n0) 16 128 (T120.setTop (mkF m 185 #[.val (.int x0), .val (.int x1), .val (.int x2), .val (.int x3), .val (.int x4), .val (.int x5), .val (.int (4 : Int32)), .val (.int c0), .val (.int c1), .val (.int c2), .val (.int c3), .val (.ref a3), .val (.int (own_id c0 c1 c2)), .val (.int ex), .val (.int (own_sm (4 : Int32) c0 c1 c2)), .unset] [(.int (2 : Int32)), (.int (4 : Int32))]))
        refine own_go (fun t k => XS.icmpNo X120.here hx rfl (hb hby at_185) rfl (XT.ii_lt_f (by decide)) k) ?_
        show own_G p e below s (own_Q0 n0) 16 128 (T120.setTop (mkF m 188 #[.val (.int x0), .val (.int x1), .val (.int x2), .val (.int x3), .val (.int x4), .val (.int x5), .val (.int (4 : Int32)), .val (.int c0), .val (.int c1), .val (.int c2), .val (.int c3), .val (.ref a3), .val (.int (own_id c0 c1 c2)), .val (.int ex), .val (.int (own_sm (4 : Int32) c0 c1 c2)), .unset] []))
        refine own_go (fun t k => XS.aload X120.here hx rfl (hb hby at_188) rfl rfl k) ?_
        show own_G p e below s (own_Q0 n0) 16 128 (T120.setTop (mkF m 190 #[.val (.int x0), .val (.int x1), .val (.int x2), .val (.int x3), .val (.int x4), .val (.int x5), .val (.int (4 : Int32)), .val (.int c0), .val (.int c1), .val (.int c2), .val (.int c3), .val (.ref a3), .val (.int (own_id c0 c1 c2)), .val (.int ex), .val (.int (own_sm (4 : Int32) c0 c1 c2)), .unset] [(.ref a3)]))
        refine own_go (fun t k => XS.iconst X120.here hx rfl (hb hby at_190) k) ?_
        show own_G p e below s (own_Q0 n0) 16 128 (T120.setTop (mkF m 191 #[.val (.int x0), .val (.int x1), .val (.int x2), .val (.int x3), .val (.int x4), .val (.int x5), .val (.int (4 : Int32)), .val (.int c0), .val (.int c1), .val (.int c2), .val (.int c3), .val (.ref a3), .val (.int (own_id c0 c1 c2)), .val (.int ex), .val (.int (own_sm (4 : Int32) c0 c1 c2)), .unset] [(.int (1 : Int32)), (.ref a3)]))
        refine own_go (own_ldB X120 hx hZ e120 V119 (j := (1 : Int32)) (v := (.int c1)) ⟨by decide, by decide⟩ rfl (g := (mkF m 191 #[.val (.int x0), .val (.int x1), .val (.int x2), .val (.int x3), .val (.int x4), .val (.int x5), .val (.int (4 : Int32)), .val (.int c0), .val (.int c1), .val (.int c2), .val (.int c3), .val (.ref a3), .val (.int (own_id c0 c1 c2)), .val (.int ex), .val (.int (own_sm (4 : Int32) c0 c1 c2)), .unset] [(.int (1 : Int32)), (.ref a3)])) rfl rfl (hb hby at_191)) ?_
        show own_G p e below s (own_Q0 n0) 16 128 (T120.setTop (mkF m 192 #[.val (.int x0), .val (.int x1), .val (.int x2), .val (.int x3), .val (.int x4), .val (.int x5), .val (.int (4 : Int32)), .val (.int c0), .val (.int c1), .val (.int c2), .val (.int c3), .val (.ref a3), .val (.int (own_id c0 c1 c2)), .val (.int ex), .val (.int (own_sm (4 : Int32) c0 c1 c2)), .unset] [(.int c1)]))
        refine own_go (fun t k => XS.iload X120.here hx rfl (hb hby at_192) rfl k) ?_
        show own_G p e below s (own_Q0 n0) 16 128 (T120.setTop (mkF m 194 #[.val (.int x0), .val (.int x1), .val (.int x2), .val (.int x3), .val (.int x4), .val (.int x5), .val (.int (4 : Int32)), .val (.int c0), .val (.int c1), .val (.int c2), .val (.int c3), .val (.ref a3), .val (.int (own_id c0 c1 c2)), .val (.int ex), .val (.int (own_sm (4 : Int32) c0 c1 c2)), .unset] [(.int c1), (.int c1)]))
        refine own_go (fun t k => XS.icmpNo X120.here hx rfl (hb hby at_194) rfl (XT.ii_ne_f rfl) k) ?_
        show own_G p e below s (own_Q0 n0) 16 128 (T120.setTop (mkF m 197 #[.val (.int x0), .val (.int x1), .val (.int x2), .val (.int x3), .val (.int x4), .val (.int x5), .val (.int (4 : Int32)), .val (.int c0), .val (.int c1), .val (.int c2), .val (.int c3), .val (.ref a3), .val (.int (own_id c0 c1 c2)), .val (.int ex), .val (.int (own_sm (4 : Int32) c0 c1 c2)), .unset] []))
        refine own_go (fun t k => XS.iload X120.here hx rfl (hb hby at_197) rfl k) ?_
        show own_G p e below s (own_Q0 n0) 16 128 (T120.setTop (mkF m 199 #[.val (.int x0), .val (.int x1), .val (.int x2), .val (.int x3), .val (.int x4), .val (.int x5), .val (.int (4 : Int32)), .val (.int c0), .val (.int c1), .val (.int c2), .val (.int c3), .val (.ref a3), .val (.int (own_id c0 c1 c2)), .val (.int ex), .val (.int (own_sm (4 : Int32) c0 c1 c2)), .unset] [(.int (4 : Int32))]))
        refine own_go (fun t k => XS.iconst X120.here hx rfl (hb hby at_199) k) ?_
        show own_G p e below s (own_Q0 n0) 16 128 (T120.setTop (mkF m 200 #[.val (.int x0), .val (.int x1), .val (.int x2), .val (.int x3), .val (.int x4), .val (.int x5), .val (.int (4 : Int32)), .val (.int c0), .val (.int c1), .val (.int c2), .val (.int c3), .val (.ref a3), .val (.int (own_id c0 c1 c2)), .val (.int ex), .val (.int (own_sm (4 : Int32) c0 c1 c2)), .unset] [(.int (3 : Int32)), (.int (4 : Int32))]))
        refine own_go (fun t k => XS.icmpNo X120.here hx rfl (hb hby at_200) rfl (XT.ii_lt_f (by decide)) k) ?_
        show own_G p e below s (own_Q0 n0) 16 128 (T120.setTop (mkF m 203 #[.val (.int x0), .val (.int x1), .val (.int x2), .val (.int x3), .val (.int x4), .val (.int x5), .val (.int (4 : Int32)), .val (.int c0), .val (.int c1), .val (.int c2), .val (.int c3), .val (.ref a3), .val (.int (own_id c0 c1 c2)), .val (.int ex), .val (.int (own_sm (4 : Int32) c0 c1 c2)), .unset] []))
        refine own_go (fun t k => XS.aload X120.here hx rfl (hb hby at_203) rfl rfl k) ?_
        show own_G p e below s (own_Q0 n0) 16 128 (T120.setTop (mkF m 205 #[.val (.int x0), .val (.int x1), .val (.int x2), .val (.int x3), .val (.int x4), .val (.int x5), .val (.int (4 : Int32)), .val (.int c0), .val (.int c1), .val (.int c2), .val (.int c3), .val (.ref a3), .val (.int (own_id c0 c1 c2)), .val (.int ex), .val (.int (own_sm (4 : Int32) c0 c1 c2)), .unset] [(.ref a3)]))
        refine own_go (fun t k => XS.iconst X120.here hx rfl (hb hby at_205) k) ?_
        show own_G p e below s (own_Q0 n0) 16 128 (T120.setTop (mkF m 206 #[.val (.int x0), .val (.int x1), .val (.int x2), .val (.int x3), .val (.int x4), .val (.int x5), .val (.int (4 : Int32)), .val (.int c0), .val (.int c1), .val (.int c2), .val (.int c3), .val (.ref a3), .val (.int (own_id c0 c1 c2)), .val (.int ex), .val (.int (own_sm (4 : Int32) c0 c1 c2)), .unset] [(.int (2 : Int32)), (.ref a3)]))
        refine own_go (own_ldB X120 hx hZ e120 V119 (j := (2 : Int32)) (v := (.int c2)) ⟨by decide, by decide⟩ rfl (g := (mkF m 206 #[.val (.int x0), .val (.int x1), .val (.int x2), .val (.int x3), .val (.int x4), .val (.int x5), .val (.int (4 : Int32)), .val (.int c0), .val (.int c1), .val (.int c2), .val (.int c3), .val (.ref a3), .val (.int (own_id c0 c1 c2)), .val (.int ex), .val (.int (own_sm (4 : Int32) c0 c1 c2)), .unset] [(.int (2 : Int32)), (.ref a3)])) rfl rfl (hb hby at_206)) ?_
        show own_G p e below s (own_Q0 n0) 16 128 (T120.setTop (mkF m 207 #[.val (.int x0), .val (.int x1), .val (.int x2), .val (.int x3), .val (.int x4), .val (.int x5), .val (.int (4 : Int32)), .val (.int c0), .val (.int c1), .val (.int c2), .val (.int c3), .val (.ref a3), .val (.int (own_id c0 c1 c2)), .val (.int ex), .val (.int (own_sm (4 : Int32) c0 c1 c2)), .unset] [(.int c2)]))
        refine own_go (fun t k => XS.iload X120.here hx rfl (hb hby at_207) rfl k) ?_
        show own_G p e below s (own_Q0 n0) 16 128 (T120.setTop (mkF m 209 #[.val (.int x0), .val (.int x1), .val (.int x2), .val (.int x3), .val (.int x4), .val (.int x5), .val (.int (4 : Int32)), .val (.int c0), .val (.int c1), .val (.int c2), .val (.int c3), .val (.ref a3), .val (.int (own_id c0 c1 c2)), .val (.int ex), .val (.int (own_sm (4 : Int32) c0 c1 c2)), .unset] [(.int c2), (.int c2)]))
        refine own_go (fun t k => XS.icmpNo X120.here hx rfl (hb hby at_209) rfl (XT.ii_ne_f rfl) k) ?_
        show own_G p e below s (own_Q0 n0) 16 128 (T120.setTop (mkF m 212 #[.val (.int x0), .val (.int x1), .val (.int x2), .val (.int x3), .val (.int x4), .val (.int x5), .val (.int (4 : Int32)), .val (.int c0), .val (.int c1), .val (.int c2), .val (.int c3), .val (.ref a3), .val (.int (own_id c0 c1 c2)), .val (.int ex), .val (.int (own_sm (4 : Int32) c0 c1 c2)), .unset] []))
        refine own_go (fun t k => XS.iload X120.here hx rfl (hb hby at_212) rfl k) ?_
        show own_G p e below s (own_Q0 n0) 16 128 (T120.setTop (mkF m 214 #[.val (.int x0), .val (.int x1), .val (.int x2), .val (.int x3), .val (.int x4), .val (.int x5), .val (.int (4 : Int32)), .val (.int c0), .val (.int c1), .val (.int c2), .val (.int c3), .val (.ref a3), .val (.int (own_id c0 c1 c2)), .val (.int ex), .val (.int (own_sm (4 : Int32) c0 c1 c2)), .unset] [(.int (4 : Int32))]))
        refine own_go (fun t k => XS.iconst X120.here hx rfl (hb hby at_214) k) ?_
        show own_G p e below s (own_Q0 n0) 16 128 (T120.setTop (mkF m 215 #[.val (.int x0), .val (.int x1), .val (.int x2), .val (.int x3), .val (.int x4), .val (.int x5), .val (.int (4 : Int32)), .val (.int c0), .val (.int c1), .val (.int c2), .val (.int c3), .val (.ref a3), .val (.int (own_id c0 c1 c2)), .val (.int ex), .val (.int (own_sm (4 : Int32) c0 c1 c2)), .unset] [(.int (4 : Int32)), (.int (4 : Int32))]))
        refine own_go (fun t k => XS.icmpNo X120.here hx rfl (hb hby at_215) rfl (XT.ii_lt_f (by decide)) k) ?_
        show own_G p e below s (own_Q0 n0) 16 128 (T120.setTop (mkF m 218 #[.val (.int x0), .val (.int x1), .val (.int x2), .val (.int x3), .val (.int x4), .val (.int x5), .val (.int (4 : Int32)), .val (.int c0), .val (.int c1), .val (.int c2), .val (.int c3), .val (.ref a3), .val (.int (own_id c0 c1 c2)), .val (.int ex), .val (.int (own_sm (4 : Int32) c0 c1 c2)), .unset] []))
        refine own_go (fun t k => XS.aload X120.here hx rfl (hb hby at_218) rfl rfl k) ?_
        show own_G p e below s (own_Q0 n0) 16 128 (T120.setTop (mkF m 220 #[.val (.int x0), .val (.int x1), .val (.int x2), .val (.int x3), .val (.int x4), .val (.int x5), .val (.int (4 : Int32)), .val (.int c0), .val (.int c1), .val (.int c2), .val (.int c3), .val (.ref a3), .val (.int (own_id c0 c1 c2)), .val (.int ex), .val (.int (own_sm (4 : Int32) c0 c1 c2)), .unset] [(.ref a3)]))
        refine own_go (fun t k => XS.iconst X120.here hx rfl (hb hby at_220) k) ?_
        show own_G p e below s (own_Q0 n0) 16 128 (T120.setTop (mkF m 221 #[.val (.int x0), .val (.int x1), .val (.int x2), .val (.int x3), .val (.int x4), .val (.int x5), .val (.int (4 : Int32)), .val (.int c0), .val (.int c1), .val (.int c2), .val (.int c3), .val (.ref a3), .val (.int (own_id c0 c1 c2)), .val (.int ex), .val (.int (own_sm (4 : Int32) c0 c1 c2)), .unset] [(.int (3 : Int32)), (.ref a3)]))
        refine own_go (own_ldB X120 hx hZ e120 V119 (j := (3 : Int32)) (v := (.int c3)) ⟨by decide, by decide⟩ rfl (g := (mkF m 221 #[.val (.int x0), .val (.int x1), .val (.int x2), .val (.int x3), .val (.int x4), .val (.int x5), .val (.int (4 : Int32)), .val (.int c0), .val (.int c1), .val (.int c2), .val (.int c3), .val (.ref a3), .val (.int (own_id c0 c1 c2)), .val (.int ex), .val (.int (own_sm (4 : Int32) c0 c1 c2)), .unset] [(.int (3 : Int32)), (.ref a3)])) rfl rfl (hb hby at_221)) ?_
        show own_G p e below s (own_Q0 n0) 16 128 (T120.setTop (mkF m 222 #[.val (.int x0), .val (.int x1), .val (.int x2), .val (.int x3), .val (.int x4), .val (.int x5), .val (.int (4 : Int32)), .val (.int c0), .val (.int c1), .val (.int c2), .val (.int c3), .val (.ref a3), .val (.int (own_id c0 c1 c2)), .val (.int ex), .val (.int (own_sm (4 : Int32) c0 c1 c2)), .unset] [(.int c3)]))
        refine own_go (fun t k => XS.iload X120.here hx rfl (hb hby at_222) rfl k) ?_
        show own_G p e below s (own_Q0 n0) 16 128 (T120.setTop (mkF m 224 #[.val (.int x0), .val (.int x1), .val (.int x2), .val (.int x3), .val (.int x4), .val (.int x5), .val (.int (4 : Int32)), .val (.int c0), .val (.int c1), .val (.int c2), .val (.int c3), .val (.ref a3), .val (.int (own_id c0 c1 c2)), .val (.int ex), .val (.int (own_sm (4 : Int32) c0 c1 c2)), .unset] [(.int c3), (.int c3)]))
        refine own_go (fun t k => XS.icmpNo X120.here hx rfl (hb hby at_224) rfl (XT.ii_ne_f rfl) k) ?_
        show own_G p e below s (own_Q0 n0) 16 128 (T120.setTop (mkF m 227 #[.val (.int x0), .val (.int x1), .val (.int x2), .val (.int x3), .val (.int x4), .val (.int x5), .val (.int (4 : Int32)), .val (.int c0), .val (.int c1), .val (.int c2), .val (.int c3), .val (.ref a3), .val (.int (own_id c0 c1 c2)), .val (.int ex), .val (.int (own_sm (4 : Int32) c0 c1 c2)), .unset] []))
        refine own_go (fun t k => XS.iconst X120.here hx rfl (hb hby at_227) k) ?_
        show own_G p e below s (own_Q0 n0) 16 128 (T120.setTop (mkF m 228 #[.val (.int x0), .val (.int x1), .val (.int x2), .val (.int x3), .val (.int x4), .val (.int x5), .val (.int (4 : Int32)), .val (.int c0), .val (.int c1), .val (.int c2), .val (.int c3), .val (.ref a3), .val (.int (own_id c0 c1 c2)), .val (.int ex), .val (.int (own_sm (4 : Int32) c0 c1 c2)), .unset] [(.int (1 : Int32))]))
        refine own_go (fun t k => XS.goto X120.here hx rfl (pc0 := 228) (pc' := 232) rfl (hb hby at_228) (by decide) (by decide) k) ?_
        show own_G p e below s (own_Q0 n0) 16 128 (T120.setTop (mkF m 232 #[.val (.int x0), .val (.int x1), .val (.int x2), .val (.int x3), .val (.int x4), .val (.int x5), .val (.int (4 : Int32)), .val (.int c0), .val (.int c1), .val (.int c2), .val (.int c3), .val (.ref a3), .val (.int (own_id c0 c1 c2)), .val (.int ex), .val (.int (own_sm (4 : Int32) c0 c1 c2)), .unset] [(.int (1 : Int32))]))
        refine own_go (fun t k => XS.istore X120.here hx rfl (hb hby at_232) rfl (l' := #[.val (.int x0), .val (.int x1), .val (.int x2), .val (.int x3), .val (.int x4), .val (.int x5), .val (.int (4 : Int32)), .val (.int c0), .val (.int c1), .val (.int c2), .val (.int c3), .val (.ref a3), .val (.int (own_id c0 c1 c2)), .val (.int ex), .val (.int (own_sm (4 : Int32) c0 c1 c2)), .val (.int (1 : Int32))]) rfl k) ?_
        show own_G p e below s (own_Q0 n0) 16 128 (T120.setTop (mkF m 234 #[.val (.int x0), .val (.int x1), .val (.int x2), .val (.int x3), .val (.int x4), .val (.int x5), .val (.int (4 : Int32)), .val (.int c0), .val (.int c1), .val (.int c2), .val (.int c3), .val (.ref a3), .val (.int (own_id c0 c1 c2)), .val (.int ex), .val (.int (own_sm (4 : Int32) c0 c1 c2)), .val (.int (1 : Int32))] []))
        refine own_go (fun t k => XS.iload X120.here hx rfl (hb hby at_234) rfl k) ?_
        show own_G p e below s (own_Q0 n0) 16 128 (T120.setTop (mkF m 236 #[.val (.int x0), .val (.int x1), .val (.int x2), .val (.int x3), .val (.int x4), .val (.int x5), .val (.int (4 : Int32)), .val (.int c0), .val (.int c1), .val (.int c2), .val (.int c3), .val (.ref a3), .val (.int (own_id c0 c1 c2)), .val (.int ex), .val (.int (own_sm (4 : Int32) c0 c1 c2)), .val (.int (1 : Int32))] [(.int (own_sm (4 : Int32) c0 c1 c2))]))
        refine own_go (fun t k => XS.iload X120.here hx rfl (hb hby at_236) rfl k) ?_
        show own_G p e below s (own_Q0 n0) 16 128 (T120.setTop (mkF m 238 #[.val (.int x0), .val (.int x1), .val (.int x2), .val (.int x3), .val (.int x4), .val (.int x5), .val (.int (4 : Int32)), .val (.int c0), .val (.int c1), .val (.int c2), .val (.int c3), .val (.ref a3), .val (.int (own_id c0 c1 c2)), .val (.int ex), .val (.int (own_sm (4 : Int32) c0 c1 c2)), .val (.int (1 : Int32))] [(.int ex), (.int (own_sm (4 : Int32) c0 c1 c2))]))
        refine own_go (fun t k => XS.icmpNo X120.here hx rfl (hb hby at_238) rfl (XT.ii_ne_f hex) k) ?_
        show own_G p e below s (own_Q0 n0) 16 128 (T120.setTop (mkF m 241 #[.val (.int x0), .val (.int x1), .val (.int x2), .val (.int x3), .val (.int x4), .val (.int x5), .val (.int (4 : Int32)), .val (.int c0), .val (.int c1), .val (.int c2), .val (.int c3), .val (.ref a3), .val (.int (own_id c0 c1 c2)), .val (.int ex), .val (.int (own_sm (4 : Int32) c0 c1 c2)), .val (.int (1 : Int32))] []))
        refine own_go (fun t k => XS.iload X120.here hx rfl (hb hby at_241) rfl k) ?_
        show own_G p e below s (own_Q0 n0) 16 128 (T120.setTop (mkF m 243 #[.val (.int x0), .val (.int x1), .val (.int x2), .val (.int x3), .val (.int x4), .val (.int x5), .val (.int (4 : Int32)), .val (.int c0), .val (.int c1), .val (.int c2), .val (.int c3), .val (.ref a3), .val (.int (own_id c0 c1 c2)), .val (.int ex), .val (.int (own_sm (4 : Int32) c0 c1 c2)), .val (.int (1 : Int32))] [(.int (1 : Int32))]))
        refine own_go (fun t k => XS.ifNo X120.here hx rfl (hb hby at_243) rfl (XT.i0_eq_f (by decide)) k) ?_
        show own_G p e below s (own_Q0 n0) 16 128 (T120.setTop (mkF m 246 #[.val (.int x0), .val (.int x1), .val (.int x2), .val (.int x3), .val (.int x4), .val (.int x5), .val (.int (4 : Int32)), .val (.int c0), .val (.int c1), .val (.int c2), .val (.int c3), .val (.ref a3), .val (.int (own_id c0 c1 c2)), .val (.int ex), .val (.int (own_sm (4 : Int32) c0 c1 c2)), .val (.int (1 : Int32))] []))
        refine own_go (fun t k => XS.aload X120.here hx rfl (hb hby at_246) rfl rfl k) ?_
        show own_G p e below s (own_Q0 n0) 16 128 (T120.setTop (mkF m 248 #[.val (.int x0), .val (.int x1), .val (.int x2), .val (.int x3), .val (.int x4), .val (.int x5), .val (.int (4 : Int32)), .val (.int c0), .val (.int c1), .val (.int c2), .val (.int c3), .val (.ref a3), .val (.int (own_id c0 c1 c2)), .val (.int ex), .val (.int (own_sm (4 : Int32) c0 c1 c2)), .val (.int (1 : Int32))] [(.ref a3)]))
        refine own_go (own_len X120 hx hZ e120 V119 (g := (mkF m 248 #[.val (.int x0), .val (.int x1), .val (.int x2), .val (.int x3), .val (.int x4), .val (.int x5), .val (.int (4 : Int32)), .val (.int c0), .val (.int c1), .val (.int c2), .val (.int c3), .val (.ref a3), .val (.int (own_id c0 c1 c2)), .val (.int ex), .val (.int (own_sm (4 : Int32) c0 c1 c2)), .val (.int (1 : Int32))] [(.ref a3)])) rfl rfl (hb hby at_248)) ?_
        show own_G p e below s (own_Q0 n0) 16 128 (T120.setTop (mkF m 249 #[.val (.int x0), .val (.int x1), .val (.int x2), .val (.int x3), .val (.int x4), .val (.int x5), .val (.int (4 : Int32)), .val (.int c0), .val (.int c1), .val (.int c2), .val (.int c3), .val (.ref a3), .val (.int (own_id c0 c1 c2)), .val (.int ex), .val (.int (own_sm (4 : Int32) c0 c1 c2)), .val (.int (1 : Int32))] [(.int (4 : Int32))]))
        refine own_go (fun t k => XS.iload X120.here hx rfl (hb hby at_249) rfl k) ?_
        show own_G p e below s (own_Q0 n0) 16 128 (T120.setTop (mkF m 251 #[.val (.int x0), .val (.int x1), .val (.int x2), .val (.int x3), .val (.int x4), .val (.int x5), .val (.int (4 : Int32)), .val (.int c0), .val (.int c1), .val (.int c2), .val (.int c3), .val (.ref a3), .val (.int (own_id c0 c1 c2)), .val (.int ex), .val (.int (own_sm (4 : Int32) c0 c1 c2)), .val (.int (1 : Int32))] [(.int (4 : Int32)), (.int (4 : Int32))]))
        refine own_go (fun t k => XS.icmpNo X120.here hx rfl (hb hby at_251) rfl (XT.ii_ne_f rfl) k) ?_
        show own_G p e below s (own_Q0 n0) 16 128 (T120.setTop (mkF m 254 #[.val (.int x0), .val (.int x1), .val (.int x2), .val (.int x3), .val (.int x4), .val (.int x5), .val (.int (4 : Int32)), .val (.int c0), .val (.int c1), .val (.int c2), .val (.int c3), .val (.ref a3), .val (.int (own_id c0 c1 c2)), .val (.int ex), .val (.int (own_sm (4 : Int32) c0 c1 c2)), .val (.int (1 : Int32))] []))
        refine own_go (fun t k => XS.iconst X120.here hx rfl (hb hby at_254) k) ?_
        show own_G p e below s (own_Q0 n0) 16 128 (T120.setTop (mkF m 255 #[.val (.int x0), .val (.int x1), .val (.int x2), .val (.int x3), .val (.int x4), .val (.int x5), .val (.int (4 : Int32)), .val (.int c0), .val (.int c1), .val (.int c2), .val (.int c3), .val (.ref a3), .val (.int (own_id c0 c1 c2)), .val (.int ex), .val (.int (own_sm (4 : Int32) c0 c1 c2)), .val (.int (1 : Int32))] [(.int (1 : Int32))]))
        refine own_go (fun t k => XS.goto X120.here hx rfl (pc0 := 255) (pc' := 259) rfl (hb hby at_255) (by decide) (by decide) k) ?_
        show own_G p e below s (own_Q0 n0) 16 128 (T120.setTop (mkF m 259 #[.val (.int x0), .val (.int x1), .val (.int x2), .val (.int x3), .val (.int x4), .val (.int x5), .val (.int (4 : Int32)), .val (.int c0), .val (.int c1), .val (.int c2), .val (.int c3), .val (.ref a3), .val (.int (own_id c0 c1 c2)), .val (.int ex), .val (.int (own_sm (4 : Int32) c0 c1 c2)), .val (.int (1 : Int32))] [(.int (1 : Int32))]))
        exact own_leave X120 (some (.int (1 : Int32))) (fun h => by rw [Bd.returns] at h; cases h) Bd.notSynchronized (fun fs hr => retN X120 hx (t := .boolean) Bd.returns (by simp) (hb hby at_259) hr) ⟨rfl, (Fr.app N119 (Fr.nil n0))⟩ (by decide) (by decide)
      refine own_go (fun t k => XS.icmpNo X119.here hx rfl (hb hby at_143) rfl (XT.ii_lt_f (by decide)) k) ?_
      show own_G p e below s (own_Q0 n0) 16 128 (T119.setTop (mkF m 146 #[.val (.int x0), .val (.int x1), .val (.int x2), .val (.int x3), .val (.int x4), .val (.int x5), .val (.int (4 : Int32)), .val (.int c0), .val (.int c1), .val (.int c2), .val (.int c3), .val (.ref a3), .val (.int (own_id c0 c1 c2)), .unset, .unset, .unset] []))
      refine own_go (fun t k => XS.iload X119.here hx rfl (hb hby at_146) rfl k) ?_
      show own_G p e below s (own_Q0 n0) 16 128 (T119.setTop (mkF m 148 #[.val (.int x0), .val (.int x1), .val (.int x2), .val (.int x3), .val (.int x4), .val (.int x5), .val (.int (4 : Int32)), .val (.int c0), .val (.int c1), .val (.int c2), .val (.int c3), .val (.ref a3), .val (.int (own_id c0 c1 c2)), .unset, .unset, .unset] [(.int (own_id c0 c1 c2))]))
      refine own_go (X119.ldcInt hx hown (mvT hZ (hw _ (List.mem_of_getElem? (i := 6) rfl))) (g := (mkF m 148 #[.val (.int x0), .val (.int x1), .val (.int x2), .val (.int x3), .val (.int x4), .val (.int x5), .val (.int (4 : Int32)), .val (.int c0), .val (.int c1), .val (.int c2), .val (.int c3), .val (.ref a3), .val (.int (own_id c0 c1 c2)), .unset, .unset, .unset] [(.int (own_id c0 c1 c2))])) rfl (hb hby at_148)) ?_
      show own_G p e below s (own_Q0 n0) 16 128 (T119.setTop (mkF m 150 #[.val (.int x0), .val (.int x1), .val (.int x2), .val (.int x3), .val (.int x4), .val (.int x5), .val (.int (4 : Int32)), .val (.int c0), .val (.int c1), .val (.int c2), .val (.int c3), .val (.ref a3), .val (.int (own_id c0 c1 c2)), .unset, .unset, .unset] [(.int (2067208 : Int32)), (.int (own_id c0 c1 c2))]))
      by_cases h9 : (own_id c0 c1 c2) = (2067208 : Int32)
      · skip
        refine own_go (fun t k => XS.icmpNo X119.here hx rfl (hb hby at_150) rfl (XT.ii_ne_f h9) k) ?_
        show own_G p e below s (own_Q0 n0) 16 128 (T119.setTop (mkF m 153 #[.val (.int x0), .val (.int x1), .val (.int x2), .val (.int x3), .val (.int x4), .val (.int x5), .val (.int (4 : Int32)), .val (.int c0), .val (.int c1), .val (.int c2), .val (.int c3), .val (.ref a3), .val (.int (own_id c0 c1 c2)), .unset, .unset, .unset] []))
        refine own_go (fun t k => XS.iconst X119.here hx rfl (hb hby at_153) k) ?_
        show own_G p e below s (own_Q0 n0) 16 128 (T119.setTop (mkF m 154 #[.val (.int x0), .val (.int x1), .val (.int x2), .val (.int x3), .val (.int x4), .val (.int x5), .val (.int (4 : Int32)), .val (.int c0), .val (.int c1), .val (.int c2), .val (.int c3), .val (.ref a3), .val (.int (own_id c0 c1 c2)), .unset, .unset, .unset] [(.int (1 : Int32))]))
        refine own_go (fun t k => XS.goto X119.here hx rfl (pc0 := 154) (pc' := 158) rfl (hb hby at_154) (by decide) (by decide) k) ?_
        show own_G p e below s (own_Q0 n0) 16 128 (T119.setTop (mkF m 158 #[.val (.int x0), .val (.int x1), .val (.int x2), .val (.int x3), .val (.int x4), .val (.int x5), .val (.int (4 : Int32)), .val (.int c0), .val (.int c1), .val (.int c2), .val (.int c3), .val (.ref a3), .val (.int (own_id c0 c1 c2)), .unset, .unset, .unset] [(.int (1 : Int32))]))
        refine own_go (fun t k => XS.istore X119.here hx rfl (hb hby at_158) rfl (l' := #[.val (.int x0), .val (.int x1), .val (.int x2), .val (.int x3), .val (.int x4), .val (.int x5), .val (.int (4 : Int32)), .val (.int c0), .val (.int c1), .val (.int c2), .val (.int c3), .val (.ref a3), .val (.int (own_id c0 c1 c2)), .val (.int (1 : Int32)), .unset, .unset]) rfl k) ?_
        show own_G p e below s (own_Q0 n0) 16 128 (T119.setTop (mkF m 160 #[.val (.int x0), .val (.int x1), .val (.int x2), .val (.int x3), .val (.int x4), .val (.int x5), .val (.int (4 : Int32)), .val (.int c0), .val (.int c1), .val (.int c2), .val (.int c3), .val (.ref a3), .val (.int (own_id c0 c1 c2)), .val (.int (1 : Int32)), .unset, .unset] []))
        exact J160 _ (own_id_yes m0 m1 m2 (by decide) h9)
      · skip
        refine own_go (fun t k => XS.icmpYes X119.here hx rfl (pc0 := 150) (pc' := 157) rfl (hb hby at_150) rfl (XT.ii_ne_t h9) (by decide) (by decide) k) ?_
        show own_G p e below s (own_Q0 n0) 16 128 (T119.setTop (mkF m 157 #[.val (.int x0), .val (.int x1), .val (.int x2), .val (.int x3), .val (.int x4), .val (.int x5), .val (.int (4 : Int32)), .val (.int c0), .val (.int c1), .val (.int c2), .val (.int c3), .val (.ref a3), .val (.int (own_id c0 c1 c2)), .unset, .unset, .unset] []))
        refine own_go (fun t k => XS.iconst X119.here hx rfl (hb hby at_157) k) ?_
        show own_G p e below s (own_Q0 n0) 16 128 (T119.setTop (mkF m 158 #[.val (.int x0), .val (.int x1), .val (.int x2), .val (.int x3), .val (.int x4), .val (.int x5), .val (.int (4 : Int32)), .val (.int c0), .val (.int c1), .val (.int c2), .val (.int c3), .val (.ref a3), .val (.int (own_id c0 c1 c2)), .unset, .unset, .unset] [(.int (0 : Int32))]))
        refine own_go (fun t k => XS.istore X119.here hx rfl (hb hby at_158) rfl (l' := #[.val (.int x0), .val (.int x1), .val (.int x2), .val (.int x3), .val (.int x4), .val (.int x5), .val (.int (4 : Int32)), .val (.int c0), .val (.int c1), .val (.int c2), .val (.int c3), .val (.ref a3), .val (.int (own_id c0 c1 c2)), .val (.int (0 : Int32)), .unset, .unset]) rfl k) ?_
        show own_G p e below s (own_Q0 n0) 16 128 (T119.setTop (mkF m 160 #[.val (.int x0), .val (.int x1), .val (.int x2), .val (.int x3), .val (.int x4), .val (.int x5), .val (.int (4 : Int32)), .val (.int c0), .val (.int c1), .val (.int c2), .val (.int c3), .val (.ref a3), .val (.int (own_id c0 c1 c2)), .val (.int (0 : Int32)), .unset, .unset] []))
        exact J160 _ (own_id_no (by decide) h9)
  have J38 : ∀ (c0 c1 : Int32) (m0 : nar .byte c0 = c0) (m1 : nar .byte c1 = c1), own_G p e below s (own_Q0 n0) 16 128 (s₁.setTop (mkF m 38 #[.val (.int x0), .val (.int x1), .val (.int x2), .val (.int x3), .val (.int x4), .val (.int x5), .val (.int n), .val (.int c0), .val (.int c1), .unset, .unset, .unset, .unset, .unset, .unset, .unset] [])) := by
    intro c0 c1 m0 m1
    refine own_go (fun t k => XS.iloadN X0.here hx rfl (hb hby at_38) rfl k) ?_
    show own_G p e below s (own_Q0 n0) 16 128 (s₁.setTop (mkF m 39 #[.val (.int x0), .val (.int x1), .val (.int x2), .val (.int x3), .val (.int x4), .val (.int x5), .val (.int n), .val (.int c0), .val (.int c1), .unset, .unset, .unset, .unset, .unset, .unset, .unset] [(.int x1)]))
    refine own_go (fun t k => XS.iconst X0.here hx rfl (hb hby at_39) k) ?_
    show own_G p e below s (own_Q0 n0) 16 128 (s₁.setTop (mkF m 40 #[.val (.int x0), .val (.int x1), .val (.int x2), .val (.int x3), .val (.int x4), .val (.int x5), .val (.int n), .val (.int c0), .val (.int c1), .unset, .unset, .unset, .unset, .unset, .unset, .unset] [(.int (4 : Int32)), (.int x1)]))
    refine own_go (fun t k => XS.iand X0.here hx rfl (hb hby at_40) rfl k) ?_
    show own_G p e below s (own_Q0 n0) 16 128 (s₁.setTop (mkF m 41 #[.val (.int x0), .val (.int x1), .val (.int x2), .val (.int x3), .val (.int x4), .val (.int x5), .val (.int n), .val (.int c0), .val (.int c1), .unset, .unset, .unset, .unset, .unset, .unset, .unset] [(.int (x1 &&& (4 : Int32)))]))
    by_cases h1 : (x1 &&& (4 : Int32)) = (0 : Int32)
    · skip
      refine own_go (fun t k => XS.ifYes X0.here hx rfl (pc0 := 41) (pc' := 49) rfl (hb hby at_41) rfl (XT.i0_eq_t h1) (by decide) (by decide) k) ?_
      show own_G p e below s (own_Q0 n0) 16 128 (s₁.setTop (mkF m 49 #[.val (.int x0), .val (.int x1), .val (.int x2), .val (.int x3), .val (.int x4), .val (.int x5), .val (.int n), .val (.int c0), .val (.int c1), .unset, .unset, .unset, .unset, .unset, .unset, .unset] []))
      refine own_go (fun t k => XS.iload X0.here hx rfl (hb hby at_49) rfl k) ?_
      show own_G p e below s (own_Q0 n0) 16 128 (s₁.setTop (mkF m 51 #[.val (.int x0), .val (.int x1), .val (.int x2), .val (.int x3), .val (.int x4), .val (.int x5), .val (.int n), .val (.int c0), .val (.int c1), .unset, .unset, .unset, .unset, .unset, .unset, .unset] [(.int x4)]))
      refine own_go (fun t k => XT.i2b X0.here hx rfl (hb hby at_51) rfl k) ?_
      show own_G p e below s (own_Q0 n0) 16 128 (s₁.setTop (mkF m 52 #[.val (.int x0), .val (.int x1), .val (.int x2), .val (.int x3), .val (.int x4), .val (.int x5), .val (.int n), .val (.int c0), .val (.int c1), .unset, .unset, .unset, .unset, .unset, .unset, .unset] [(.int x4.toInt8.toInt32)]))
      refine own_go (fun t k => XS.istore X0.here hx rfl (hb hby at_52) rfl (l' := #[.val (.int x0), .val (.int x1), .val (.int x2), .val (.int x3), .val (.int x4), .val (.int x5), .val (.int n), .val (.int c0), .val (.int c1), .val (.int x4.toInt8.toInt32), .unset, .unset, .unset, .unset, .unset, .unset]) rfl k) ?_
      show own_G p e below s (own_Q0 n0) 16 128 (s₁.setTop (mkF m 54 #[.val (.int x0), .val (.int x1), .val (.int x2), .val (.int x3), .val (.int x4), .val (.int x5), .val (.int n), .val (.int c0), .val (.int c1), .val (.int x4.toInt8.toInt32), .unset, .unset, .unset, .unset, .unset, .unset] []))
      refine own_go (fun t k => XS.iload X0.here hx rfl (hb hby at_54) rfl k) ?_
      show own_G p e below s (own_Q0 n0) 16 128 (s₁.setTop (mkF m 56 #[.val (.int x0), .val (.int x1), .val (.int x2), .val (.int x3), .val (.int x4), .val (.int x5), .val (.int n), .val (.int c0), .val (.int c1), .val (.int x4.toInt8.toInt32), .unset, .unset, .unset, .unset, .unset, .unset] [(.int x5)]))
      refine own_go (fun t k => XT.i2b X0.here hx rfl (hb hby at_56) rfl k) ?_
      show own_G p e below s (own_Q0 n0) 16 128 (s₁.setTop (mkF m 57 #[.val (.int x0), .val (.int x1), .val (.int x2), .val (.int x3), .val (.int x4), .val (.int x5), .val (.int n), .val (.int c0), .val (.int c1), .val (.int x4.toInt8.toInt32), .unset, .unset, .unset, .unset, .unset, .unset] [(.int x5.toInt8.toInt32)]))
      refine own_go (fun t k => XS.istore X0.here hx rfl (hb hby at_57) rfl (l' := #[.val (.int x0), .val (.int x1), .val (.int x2), .val (.int x3), .val (.int x4), .val (.int x5), .val (.int n), .val (.int c0), .val (.int c1), .val (.int x4.toInt8.toInt32), .val (.int x5.toInt8.toInt32), .unset, .unset, .unset, .unset, .unset]) rfl k) ?_
      show own_G p e below s (own_Q0 n0) 16 128 (s₁.setTop (mkF m 59 #[.val (.int x0), .val (.int x1), .val (.int x2), .val (.int x3), .val (.int x4), .val (.int x5), .val (.int n), .val (.int c0), .val (.int c1), .val (.int x4.toInt8.toInt32), .val (.int x5.toInt8.toInt32), .unset, .unset, .unset, .unset, .unset] []))
      exact J59 _ _ _ _ m0 m1 (own_nar _) (own_nar _)
    · skip
      refine own_go (fun t k => XS.ifNo X0.here hx rfl (hb hby at_41) rfl (XT.i0_eq_f h1) k) ?_
      show own_G p e below s (own_Q0 n0) 16 128 (s₁.setTop (mkF m 44 #[.val (.int x0), .val (.int x1), .val (.int x2), .val (.int x3), .val (.int x4), .val (.int x5), .val (.int n), .val (.int c0), .val (.int c1), .unset, .unset, .unset, .unset, .unset, .unset, .unset] []))
      refine own_go (fun t k => XS.bipush X0.here hx rfl (hb hby at_44) k) ?_
      show own_G p e below s (own_Q0 n0) 16 128 (s₁.setTop (mkF m 46 #[.val (.int x0), .val (.int x1), .val (.int x2), .val (.int x3), .val (.int x4), .val (.int x5), .val (.int n), .val (.int c0), .val (.int c1), .unset, .unset, .unset, .unset, .unset, .unset, .unset] [(.int (8 : Int32))]))
      refine own_go (fun t k => XS.goto X0.here hx rfl (pc0 := 46) (pc' := 52) rfl (hb hby at_46) (by decide) (by decide) k) ?_
      show own_G p e below s (own_Q0 n0) 16 128 (s₁.setTop (mkF m 52 #[.val (.int x0), .val (.int x1), .val (.int x2), .val (.int x3), .val (.int x4), .val (.int x5), .val (.int n), .val (.int c0), .val (.int c1), .unset, .unset, .unset, .unset, .unset, .unset, .unset] [(.int (8 : Int32))]))
      refine own_go (fun t k => XS.istore X0.here hx rfl (hb hby at_52) rfl (l' := #[.val (.int x0), .val (.int x1), .val (.int x2), .val (.int x3), .val (.int x4), .val (.int x5), .val (.int n), .val (.int c0), .val (.int c1), .val (.int (8 : Int32)), .unset, .unset, .unset, .unset, .unset, .unset]) rfl k) ?_
      show own_G p e below s (own_Q0 n0) 16 128 (s₁.setTop (mkF m 54 #[.val (.int x0), .val (.int x1), .val (.int x2), .val (.int x3), .val (.int x4), .val (.int x5), .val (.int n), .val (.int c0), .val (.int c1), .val (.int (8 : Int32)), .unset, .unset, .unset, .unset, .unset, .unset] []))
      refine own_go (fun t k => XS.iload X0.here hx rfl (hb hby at_54) rfl k) ?_
      show own_G p e below s (own_Q0 n0) 16 128 (s₁.setTop (mkF m 56 #[.val (.int x0), .val (.int x1), .val (.int x2), .val (.int x3), .val (.int x4), .val (.int x5), .val (.int n), .val (.int c0), .val (.int c1), .val (.int (8 : Int32)), .unset, .unset, .unset, .unset, .unset, .unset] [(.int x5)]))
      refine own_go (fun t k => XT.i2b X0.here hx rfl (hb hby at_56) rfl k) ?_
      show own_G p e below s (own_Q0 n0) 16 128 (s₁.setTop (mkF m 57 #[.val (.int x0), .val (.int x1), .val (.int x2), .val (.int x3), .val (.int x4), .val (.int x5), .val (.int n), .val (.int c0), .val (.int c1), .val (.int (8 : Int32)), .unset, .unset, .unset, .unset, .unset, .unset] [(.int x5.toInt8.toInt32)]))
      refine own_go (fun t k => XS.istore X0.here hx rfl (hb hby at_57) rfl (l' := #[.val (.int x0), .val (.int x1), .val (.int x2), .val (.int x3), .val (.int x4), .val (.int x5), .val (.int n), .val (.int c0), .val (.int c1), .val (.int (8 : Int32)), .val (.int x5.toInt8.toInt32), .unset, .unset, .unset, .unset, .unset]) rfl k) ?_
      show own_G p e below s (own_Q0 n0) 16 128 (s₁.setTop (mkF m 59 #[.val (.int x0), .val (.int x1), .val (.int x2), .val (.int x3), .val (.int x4), .val (.int x5), .val (.int n), .val (.int c0), .val (.int c1), .val (.int (8 : Int32)), .val (.int x5.toInt8.toInt32), .unset, .unset, .unset, .unset, .unset] []))
      exact J59 _ _ _ _ m0 m1 (by decide) (own_nar _)
  have J23 : ∀ (c0 : Int32) (m0 : nar .byte c0 = c0), own_G p e below s (own_Q0 n0) 16 128 (s₁.setTop (mkF m 23 #[.val (.int x0), .val (.int x1), .val (.int x2), .val (.int x3), .val (.int x4), .val (.int x5), .val (.int n), .val (.int c0), .unset, .unset, .unset, .unset, .unset, .unset, .unset, .unset] [])) := by
    intro c0 m0
    refine own_go (fun t k => XS.iloadN X0.here hx rfl (hb hby at_23) rfl k) ?_
    show own_G p e below s (own_Q0 n0) 16 128 (s₁.setTop (mkF m 24 #[.val (.int x0), .val (.int x1), .val (.int x2), .val (.int x3), .val (.int x4), .val (.int x5), .val (.int n), .val (.int c0), .unset, .unset, .unset, .unset, .unset, .unset, .unset, .unset] [(.int x1)]))
    refine own_go (fun t k => XS.iconst X0.here hx rfl (hb hby at_24) k) ?_
    show own_G p e below s (own_Q0 n0) 16 128 (s₁.setTop (mkF m 25 #[.val (.int x0), .val (.int x1), .val (.int x2), .val (.int x3), .val (.int x4), .val (.int x5), .val (.int n), .val (.int c0), .unset, .unset, .unset, .unset, .unset, .unset, .unset, .unset] [(.int (2 : Int32)), (.int x1)]))
    refine own_go (fun t k => XS.iand X0.here hx rfl (hb hby at_25) rfl k) ?_
    show own_G p e below s (own_Q0 n0) 16 128 (s₁.setTop (mkF m 26 #[.val (.int x0), .val (.int x1), .val (.int x2), .val (.int x3), .val (.int x4), .val (.int x5), .val (.int n), .val (.int c0), .unset, .unset, .unset, .unset, .unset, .unset, .unset, .unset] [(.int (x1 &&& (2 : Int32)))]))
    by_cases h1 : (x1 &&& (2 : Int32)) = (0 : Int32)
    · skip
      refine own_go (fun t k => XS.ifYes X0.here hx rfl (pc0 := 26) (pc' := 34) rfl (hb hby at_26) rfl (XT.i0_eq_t h1) (by decide) (by decide) k) ?_
      show own_G p e below s (own_Q0 n0) 16 128 (s₁.setTop (mkF m 34 #[.val (.int x0), .val (.int x1), .val (.int x2), .val (.int x3), .val (.int x4), .val (.int x5), .val (.int n), .val (.int c0), .unset, .unset, .unset, .unset, .unset, .unset, .unset, .unset] []))
      refine own_go (fun t k => XS.iloadN X0.here hx rfl (hb hby at_34) rfl k) ?_
      show own_G p e below s (own_Q0 n0) 16 128 (s₁.setTop (mkF m 35 #[.val (.int x0), .val (.int x1), .val (.int x2), .val (.int x3), .val (.int x4), .val (.int x5), .val (.int n), .val (.int c0), .unset, .unset, .unset, .unset, .unset, .unset, .unset, .unset] [(.int x3)]))
      refine own_go (fun t k => XT.i2b X0.here hx rfl (hb hby at_35) rfl k) ?_
      show own_G p e below s (own_Q0 n0) 16 128 (s₁.setTop (mkF m 36 #[.val (.int x0), .val (.int x1), .val (.int x2), .val (.int x3), .val (.int x4), .val (.int x5), .val (.int n), .val (.int c0), .unset, .unset, .unset, .unset, .unset, .unset, .unset, .unset] [(.int x3.toInt8.toInt32)]))
      refine own_go (fun t k => XS.istore X0.here hx rfl (hb hby at_36) rfl (l' := #[.val (.int x0), .val (.int x1), .val (.int x2), .val (.int x3), .val (.int x4), .val (.int x5), .val (.int n), .val (.int c0), .val (.int x3.toInt8.toInt32), .unset, .unset, .unset, .unset, .unset, .unset, .unset]) rfl k) ?_
      show own_G p e below s (own_Q0 n0) 16 128 (s₁.setTop (mkF m 38 #[.val (.int x0), .val (.int x1), .val (.int x2), .val (.int x3), .val (.int x4), .val (.int x5), .val (.int n), .val (.int c0), .val (.int x3.toInt8.toInt32), .unset, .unset, .unset, .unset, .unset, .unset, .unset] []))
      exact J38 _ _ m0 (own_nar _)
    · skip
      refine own_go (fun t k => XS.ifNo X0.here hx rfl (hb hby at_26) rfl (XT.i0_eq_f h1) k) ?_
      show own_G p e below s (own_Q0 n0) 16 128 (s₁.setTop (mkF m 29 #[.val (.int x0), .val (.int x1), .val (.int x2), .val (.int x3), .val (.int x4), .val (.int x5), .val (.int n), .val (.int c0), .unset, .unset, .unset, .unset, .unset, .unset, .unset, .unset] []))
      refine own_go (fun t k => XS.bipush X0.here hx rfl (hb hby at_29) k) ?_
      show own_G p e below s (own_Q0 n0) 16 128 (s₁.setTop (mkF m 31 #[.val (.int x0), .val (.int x1), .val (.int x2), .val (.int x3), .val (.int x4), .val (.int x5), .val (.int n), .val (.int c0), .unset, .unset, .unset, .unset, .unset, .unset, .unset, .unset] [(.int (-117 : Int32))]))
      refine own_go (fun t k => XS.goto X0.here hx rfl (pc0 := 31) (pc' := 36) rfl (hb hby at_31) (by decide) (by decide) k) ?_
      show own_G p e below s (own_Q0 n0) 16 128 (s₁.setTop (mkF m 36 #[.val (.int x0), .val (.int x1), .val (.int x2), .val (.int x3), .val (.int x4), .val (.int x5), .val (.int n), .val (.int c0), .unset, .unset, .unset, .unset, .unset, .unset, .unset, .unset] [(.int (-117 : Int32))]))
      refine own_go (fun t k => XS.istore X0.here hx rfl (hb hby at_36) rfl (l' := #[.val (.int x0), .val (.int x1), .val (.int x2), .val (.int x3), .val (.int x4), .val (.int x5), .val (.int n), .val (.int c0), .val (.int (-117 : Int32)), .unset, .unset, .unset, .unset, .unset, .unset, .unset]) rfl k) ?_
      show own_G p e below s (own_Q0 n0) 16 128 (s₁.setTop (mkF m 38 #[.val (.int x0), .val (.int x1), .val (.int x2), .val (.int x3), .val (.int x4), .val (.int x5), .val (.int n), .val (.int c0), .val (.int (-117 : Int32)), .unset, .unset, .unset, .unset, .unset, .unset, .unset] []))
      exact J38 _ _ m0 (by decide)
  refine own_go (fun t k => XS.iloadN X0.here hx rfl (hb hby at_8) rfl k) ?_
  show own_G p e below s (own_Q0 n0) 16 128 (s₁.setTop (mkF m 9 #[.val (.int x0), .val (.int x1), .val (.int x2), .val (.int x3), .val (.int x4), .val (.int x5), .val (.int n), .unset, .unset, .unset, .unset, .unset, .unset, .unset, .unset, .unset] [(.int x1)]))
  refine own_go (fun t k => XS.iconst X0.here hx rfl (hb hby at_9) k) ?_
  show own_G p e below s (own_Q0 n0) 16 128 (s₁.setTop (mkF m 10 #[.val (.int x0), .val (.int x1), .val (.int x2), .val (.int x3), .val (.int x4), .val (.int x5), .val (.int n), .unset, .unset, .unset, .unset, .unset, .unset, .unset, .unset, .unset] [(.int (1 : Int32)), (.int x1)]))
  refine own_go (fun t k => XS.iand X0.here hx rfl (hb hby at_10) rfl k) ?_
  show own_G p e below s (own_Q0 n0) 16 128 (s₁.setTop (mkF m 11 #[.val (.int x0), .val (.int x1), .val (.int x2), .val (.int x3), .val (.int x4), .val (.int x5), .val (.int n), .unset, .unset, .unset, .unset, .unset, .unset, .unset, .unset, .unset] [(.int (x1 &&& (1 : Int32)))]))
  by_cases h1 : (x1 &&& (1 : Int32)) = (0 : Int32)
  · skip
    refine own_go (fun t k => XS.ifYes X0.here hx rfl (pc0 := 11) (pc' := 19) rfl (hb hby at_11) rfl (XT.i0_eq_t h1) (by decide) (by decide) k) ?_
    show own_G p e below s (own_Q0 n0) 16 128 (s₁.setTop (mkF m 19 #[.val (.int x0), .val (.int x1), .val (.int x2), .val (.int x3), .val (.int x4), .val (.int x5), .val (.int n), .unset, .unset, .unset, .unset, .unset, .unset, .unset, .unset, .unset] []))
    refine own_go (fun t k => XS.iloadN X0.here hx rfl (hb hby at_19) rfl k) ?_
    show own_G p e below s (own_Q0 n0) 16 128 (s₁.setTop (mkF m 20 #[.val (.int x0), .val (.int x1), .val (.int x2), .val (.int x3), .val (.int x4), .val (.int x5), .val (.int n), .unset, .unset, .unset, .unset, .unset, .unset, .unset, .unset, .unset] [(.int x2)]))
    refine own_go (fun t k => XT.i2b X0.here hx rfl (hb hby at_20) rfl k) ?_
    show own_G p e below s (own_Q0 n0) 16 128 (s₁.setTop (mkF m 21 #[.val (.int x0), .val (.int x1), .val (.int x2), .val (.int x3), .val (.int x4), .val (.int x5), .val (.int n), .unset, .unset, .unset, .unset, .unset, .unset, .unset, .unset, .unset] [(.int x2.toInt8.toInt32)]))
    refine own_go (fun t k => XS.istore X0.here hx rfl (hb hby at_21) rfl (l' := #[.val (.int x0), .val (.int x1), .val (.int x2), .val (.int x3), .val (.int x4), .val (.int x5), .val (.int n), .val (.int x2.toInt8.toInt32), .unset, .unset, .unset, .unset, .unset, .unset, .unset, .unset]) rfl k) ?_
    show own_G p e below s (own_Q0 n0) 16 128 (s₁.setTop (mkF m 23 #[.val (.int x0), .val (.int x1), .val (.int x2), .val (.int x3), .val (.int x4), .val (.int x5), .val (.int n), .val (.int x2.toInt8.toInt32), .unset, .unset, .unset, .unset, .unset, .unset, .unset, .unset] []))
    exact J23 _ (own_nar _)
  · skip
    refine own_go (fun t k => XS.ifNo X0.here hx rfl (hb hby at_11) rfl (XT.i0_eq_f h1) k) ?_
    show own_G p e below s (own_Q0 n0) 16 128 (s₁.setTop (mkF m 14 #[.val (.int x0), .val (.int x1), .val (.int x2), .val (.int x3), .val (.int x4), .val (.int x5), .val (.int n), .unset, .unset, .unset, .unset, .unset, .unset, .unset, .unset, .unset] []))
    refine own_go (fun t k => XS.bipush X0.here hx rfl (hb hby at_14) k) ?_
    show own_G p e below s (own_Q0 n0) 16 128 (s₁.setTop (mkF m 16 #[.val (.int x0), .val (.int x1), .val (.int x2), .val (.int x3), .val (.int x4), .val (.int x5), .val (.int n), .unset, .unset, .unset, .unset, .unset, .unset, .unset, .unset, .unset] [(.int (31 : Int32))]))
    refine own_go (fun t k => XS.goto X0.here hx rfl (pc0 := 16) (pc' := 21) rfl (hb hby at_16) (by decide) (by decide) k) ?_
    show own_G p e below s (own_Q0 n0) 16 128 (s₁.setTop (mkF m 21 #[.val (.int x0), .val (.int x1), .val (.int x2), .val (.int x3), .val (.int x4), .val (.int x5), .val (.int n), .unset, .unset, .unset, .unset, .unset, .unset, .unset, .unset, .unset] [(.int (31 : Int32))]))
    refine own_go (fun t k => XS.istore X0.here hx rfl (hb hby at_21) rfl (l' := #[.val (.int x0), .val (.int x1), .val (.int x2), .val (.int x3), .val (.int x4), .val (.int x5), .val (.int n), .val (.int (31 : Int32)), .unset, .unset, .unset, .unset, .unset, .unset, .unset, .unset]) rfl k) ?_
    show own_G p e below s (own_Q0 n0) 16 128 (s₁.setTop (mkF m 23 #[.val (.int x0), .val (.int x1), .val (.int x2), .val (.int x3), .val (.int x4), .val (.int x5), .val (.int n), .val (.int (31 : Int32)), .unset, .unset, .unset, .unset, .unset, .unset, .unset, .unset] []))
    exact J23 _ (by decide)
set_option maxRecDepth 65536 in
set_option maxHeartbeats 40000000 in
theorem comes_1 {Post : Tables → Env → Array Value → State → Outcome → State → Prop} (hpost : ∀ tb e args s v u, (limb_1_1.after args s (.returned v) u = true ∧ limb_1_2.after args s (.returned v) u = true ∧ True) → FrameEnd s (.returned v) u (Jvm.fieldLocs frame_1_writes args s ++ Jvm.arrayLocs frame_1_arrays args s ++ Jvm.staticLocs frame_1_statics s) 16 128 → Post tb e args s (.returned v) u) :
    ArmFor flags0 classFile x code maxLocals ret World_1 tables_1 room_1 Calls_1 rest_1 Pre_1 Post := by
  intro l hfl _ _ p e ha hc hk s m args below hf hA hF happ hP
  obtain ⟨hcalls, hrest, hpre⟩ := hP
  obtain ⟨-, -, -, hnamed, -, -, -, hat⟩ := (Spec.applies_iff hf).mp happ
  obtain ⟨hg, hn⟩ := and_e (Cond.before_iff.mp (show (Jvm.Cond.and given_1 narrow_1).before args s = true from hpre))
  obtain ⟨h1, r0⟩ := and_e hg
  obtain ⟨k0, r1⟩ := and_e r0
  obtain ⟨k1, r2⟩ := and_e r1
  obtain ⟨k2, r3⟩ := and_e r2
  obtain ⟨k3, r4⟩ := and_e r3
  obtain ⟨k4, r5⟩ := and_e r4
  obtain ⟨w0, w1, w2, w3, w4, w5, rfl⟩ : ∃ w0 w1 w2 w3 w4 w5 : Value, args = #[w0, w1, w2, w3, w4, w5] := by
    have hs : args.size = 6 := by simpa [Cond.value, given_1] using h1
    obtain ⟨L⟩ := args
    match L, hs with
    | [w0, w1, w2, w3, w4, w5], _ => exact ⟨w0, w1, w2, w3, w4, w5, rfl⟩
  have hw := fun d (hd : d ∈ tables_1) => atoms_spec (ws := Jvm.Cond.code x code maxLocals ret :: tables_1) hat d (List.mem_cons_of_mem _ hd)
  obtain ⟨i0, e0⟩ := is_v k0
  obtain rfl : w0 = (.int i0) := Option.some.inj e0
  obtain ⟨i1, e1⟩ := is_v k1
  obtain rfl : w1 = (.int i1) := Option.some.inj e1
  obtain ⟨i2, e2⟩ := is_v k2
  obtain rfl : w2 = (.int i2) := Option.some.inj e2
  obtain ⟨i3, e3⟩ := is_v k3
  obtain rfl : w3 = (.int i3) := Option.some.inj e3
  obtain ⟨i4, e4⟩ := is_v k4
  obtain rfl : w4 = (.int i4) := Option.some.inj e4
  obtain ⟨i5, e5⟩ := is_v r5
  obtain rfl : w5 = (.int i5) := Option.some.inj e5
  obtain ⟨n, o, h1, h2, h3, _, L, rfl, ⟨rfl, N⟩, hq⟩ := rm0 l s _ hw tables_1 i0 i1 i2 i3 i4 i5 s.heap s.heap.size (Nat.le_refl _)  p e ha hc hk s m _ below hf ((Spec.applies_iff_loose hf).mp happ).1 ⟨rfl, State.Warmed39.refl s, rfl⟩ trivial
  refine ⟨n, _, h1, h2, h3, hpost _ _ _ _ _ _ ⟨Cond.after_iff.mpr rfl, Cond.after_iff.mpr (eq_i res_at (Term.int_eval (1)) rfl), trivial⟩ ⟨hq.1, hq.2.1, (hq.2.2.sift fun y hy => Or.inr (N y hy)).mono (by decide) (by decide)⟩⟩
theorem main_1_1 : Claimed_1_1 := comes_1 fun _ _ _ _ _ _ h hF => ⟨h.1, hF⟩
theorem main_1_2 : Claimed_1_2 := comes_1 fun _ _ _ _ _ _ h hF => ⟨h.2.1, hF⟩
end Jvm.Pilot.@@N@@
namespace Jvm.Pilot.@@N@@
open Jvm Jvm.ClassFile Sem Op Lib Jvm.Free Jvm.Stand Jvm.Pilot.@@N@@.Jvm.D
/-! MADE BY PROGRAM (witnessworld.py) out of the Statement's table words and the real class files: 12 classes; the members and pool entries that the words name. The judged class is class 1, her method 1. -/
namespace start1
open Jvm.ClassFile
def u (s : String) : CpInfo := .utf8 (stringToUtf16 s)
/-- a pool by its gaps: so many unusable entries, then the entry; so many at the end -/
def gap : Nat → List CpInfo → List CpInfo
  | 0, r => r
  | n + 1, r => .unusable :: gap n r
def poolList (es : List (Nat × CpInfo)) (last : Nat) : List CpInfo := es.foldr (fun e r => gap e.1 (e.2 :: r)) (gap last [])
def pool (es : List (Nat × CpInfo)) (last : Nat) : Array CpInfo := ⟨poolList es last⟩
def fileOf (pool : Array CpInfo) (this : Nat) (attrs : Array Attribute := #[]) (ms : Array MethodInfo := #[]) (fl : Nat := 33) (sup : Nat := 0) (ifs : Array Nat := #[]) (fds : Array FieldInfo := #[]) : ClassFile where
  minorVersion := 0
  majorVersion := 65
  constantPool := pool
  accessFlags := fl
  thisClass := this
  superClass := sup
  interfaces := ifs
  fields := fds
  methods := ms
  attributes := attrs
def plain (name : String) (sup : Option ClassId) : Class where
  name := name
  kind := .ordinary
  loader := none
  accessFlags := 33
  super := sup
  interfaces := #[]
  cf := none
  fields := #[]
  methods := #[]
  instanceTypes := #[]
  staticTypes := #[]
  resolved := #[]
  callSites := []
  init := .initialized
  statics := none
  mirror := none

def pool0 : Array CpInfo := pool [(5, u "<init>"), (0, u "()V"), (1, .class_ 10), (1, u "java/lang/Object")] 113

def k0m0 : Method := { name := "<init>", desc := "()V", sig := { parameters := [], returnType := none }, accessFlags := 1, code := none }
/-- java/lang/Object -/
def k0 : Class := { plain "java/lang/Object" none with
  accessFlags := 33
  interfaces := #[]
  cf := some (fileOf pool0 8 #[] #[{ accessFlags := 1, nameIndex := 5, descriptorIndex := 6, attributes := #[] }] 33 0 #[] #[])
  fields := #[]
  methods := #[k0m0]
  instanceTypes := #[]
  staticTypes := #[]
  resolved := Array.replicate 124 none
  statics := none }

def pool1 : Array CpInfo := pool [(2, .class_ 4), (1, u "java/lang/Object"), (0, u "<init>"), (0, u "()V"), (0, .integer 2147483647), (0, .integer 2067208), (0, .methodref 10 11), (0, .class_ 12), (0, .nameAndType 13 14), (0, u "com/example/graphalog/graphalog/io/GzipMembers"), (0, u "startsMember"), (0, u "([B)Z"), (0, .class_ 16), (0, u "com/example/graphalog/graphalog/io/GzipMembersStartsMemberPinLaw"), (2, u "law"), (0, u "(IIIIII)Z")] 5

def k1m0 : Method := { name := "<init>", desc := "()V", sig := { parameters := [], returnType := none }, accessFlags := 1, code := none }
def k1c1 : Code := { maxStack := 3, maxLocals := 16, code := code, exceptionTable := #[], attributes := #[] }
def k1m1 : Method := { name := "law", desc := "(IIIIII)Z", sig := { parameters := [.int, .int, .int, .int, .int, .int], returnType := some .boolean }, accessFlags := 9, code := some k1c1 }
/-- com/example/graphalog/graphalog/io/GzipMembersStartsMemberPinLaw -/
def k1 : Class := { plain "com/example/graphalog/graphalog/io/GzipMembersStartsMemberPinLaw" (some 0) with
  accessFlags := 49
  interfaces := #[]
  cf := some (fileOf pool1 15 #[] #[{ accessFlags := 1, nameIndex := 5, descriptorIndex := 6, attributes := #[] }, { accessFlags := 9, nameIndex := 19, descriptorIndex := 20, attributes := #[] }] 49 2 #[] #[])
  fields := #[]
  methods := #[k1m0, k1m1]
  instanceTypes := #[]
  staticTypes := #[]
  resolved := Array.replicate 26 none
  statics := none }

def pool2 : Array CpInfo := pool [(1, .class_ 2), (0, u "java/lang/AutoCloseable"), (0, .class_ 4), (0, u "java/lang/Object")] 7

/-- java/lang/AutoCloseable -/
def k2 : Class := { plain "java/lang/AutoCloseable" (some 0) with
  accessFlags := 1537
  interfaces := #[]
  cf := some (fileOf pool2 1 #[] #[] 1537 3 #[] #[])
  fields := #[]
  methods := #[]
  instanceTypes := #[]
  staticTypes := #[]
  resolved := Array.replicate 12 none
  statics := none }

def pool3 : Array CpInfo := pool [(1, .class_ 2), (0, u "java/io/Closeable"), (0, .class_ 4), (0, u "java/lang/Object"), (0, .class_ 6), (0, u "java/lang/AutoCloseable")] 7

/-- java/io/Closeable -/
def k3 : Class := { plain "java/io/Closeable" (some 0) with
  accessFlags := 1537
  interfaces := #[2]
  cf := some (fileOf pool3 1 #[] #[] 1537 3 #[5] #[])
  fields := #[]
  methods := #[]
  instanceTypes := #[]
  staticTypes := #[]
  resolved := Array.replicate 14 none
  statics := none }

def pool4 : Array CpInfo := pool [(4, .class_ 6), (1, u "java/lang/Object"), (0, u "<init>"), (0, u "()V"), (0, .class_ 10), (0, u "java/io/InputStream$1"), (2, .class_ 15), (1, u "java/io/InputStream"), (116, .class_ 133), (0, u "java/io/Closeable"), (0, u "MAX_SKIP_BUFFER_SIZE"), (0, u "I"), (2, u "DEFAULT_BUFFER_SIZE"), (1, u "MAX_BUFFER_SIZE")] 54

def k4m0 : Method := { name := "<init>", desc := "()V", sig := { parameters := [], returnType := none }, accessFlags := 1, code := none }
/-- java/io/InputStream -/
def k4 : Class := { plain "java/io/InputStream" (some 0) with
  accessFlags := 1057
  interfaces := #[3]
  cf := some (fileOf pool4 13 #[.nestMembers #[9]] #[{ accessFlags := 1, nameIndex := 7, descriptorIndex := 8, attributes := #[] }] 1057 4 #[132] #[{ accessFlags := 26, nameIndex := 134, descriptorIndex := 135, attributes := #[] }, { accessFlags := 26, nameIndex := 138, descriptorIndex := 135, attributes := #[] }, { accessFlags := 26, nameIndex := 140, descriptorIndex := 135, attributes := #[] }])
  fields := #[{ name := "MAX_SKIP_BUFFER_SIZE", type := .int, accessFlags := 26, slot := 0, constantValue := 0 }, { name := "DEFAULT_BUFFER_SIZE", type := .int, accessFlags := 26, slot := 1, constantValue := 0 }, { name := "MAX_BUFFER_SIZE", type := .int, accessFlags := 26, slot := 2, constantValue := 0 }]
  methods := #[k4m0]
  instanceTypes := #[]
  staticTypes := #[.int, .int, .int]
  resolved := Array.replicate 195 none
  statics := none }

def pool5 : Array CpInfo := pool [(2, .class_ 4), (1, u "java/io/InputStream"), (8, .class_ 15), (1, u "com/example/graphalog/graphalog/io/GzipMembers"), (0, u "inflater"), (0, u "Ljava/util/zip/Inflater;"), (5, u "crc"), (0, u "Ljava/util/zip/CRC32;"), (2, u "file"), (0, u "Ljava/io/InputStream;"), (2, u "input"), (0, u "[B"), (12, u "ended"), (0, u "Z"), (2, u "inMember"), (29, u "startsMember"), (0, u "([B)Z"), (44, u "position"), (0, u "I"), (2, u "limit"), (46, u "FHCRC"), (2, u "FEXTRA"), (1, u "FNAME"), (1, u "FCOMMENT"), (1, u "RESERVED"), (1, u "SIGNATURE_BYTES"), (1, u "DEFLATE"), (0, u "IGNORED_HEADER_BYTES")] 28

def k5c0 : Code := { maxStack := 2, maxLocals := 1, code := prog_14_method_7_code, exceptionTable := #[], attributes := #[] }
def k5m0 : Method := { name := "startsMember", desc := "([B)Z", sig := { parameters := [(.array .byte)], returnType := some .boolean }, accessFlags := 8, code := some k5c0 }
/-- com/example/graphalog/graphalog/io/GzipMembers -/
def k5 : Class := { plain "com/example/graphalog/graphalog/io/GzipMembers" (some 4) with
  accessFlags := 48
  interfaces := #[]
  cf := some (fileOf pool5 13 #[] #[{ accessFlags := 8, nameIndex := 79, descriptorIndex := 80, attributes := #[] }] 48 2 #[] #[{ accessFlags := 26, nameIndex := 176, descriptorIndex := 126, attributes := #[] }, { accessFlags := 26, nameIndex := 179, descriptorIndex := 126, attributes := #[] }, { accessFlags := 26, nameIndex := 181, descriptorIndex := 126, attributes := #[] }, { accessFlags := 26, nameIndex := 183, descriptorIndex := 126, attributes := #[] }, { accessFlags := 26, nameIndex := 185, descriptorIndex := 126, attributes := #[] }, { accessFlags := 26, nameIndex := 187, descriptorIndex := 126, attributes := #[] }, { accessFlags := 26, nameIndex := 189, descriptorIndex := 126, attributes := #[] }, { accessFlags := 26, nameIndex := 190, descriptorIndex := 126, attributes := #[] }, { accessFlags := 18, nameIndex := 27, descriptorIndex := 28, attributes := #[] }, { accessFlags := 18, nameIndex := 31, descriptorIndex := 32, attributes := #[] }, { accessFlags := 2, nameIndex := 125, descriptorIndex := 126, attributes := #[] }, { accessFlags := 2, nameIndex := 129, descriptorIndex := 126, attributes := #[] }, { accessFlags := 18, nameIndex := 16, descriptorIndex := 17, attributes := #[] }, { accessFlags := 18, nameIndex := 23, descriptorIndex := 24, attributes := #[] }, { accessFlags := 2, nameIndex := 49, descriptorIndex := 46, attributes := #[] }, { accessFlags := 2, nameIndex := 45, descriptorIndex := 46, attributes := #[] }])
  fields := #[{ name := "FHCRC", type := .int, accessFlags := 26, slot := 0, constantValue := 0 }, { name := "FEXTRA", type := .int, accessFlags := 26, slot := 1, constantValue := 0 }, { name := "FNAME", type := .int, accessFlags := 26, slot := 2, constantValue := 0 }, { name := "FCOMMENT", type := .int, accessFlags := 26, slot := 3, constantValue := 0 }, { name := "RESERVED", type := .int, accessFlags := 26, slot := 4, constantValue := 0 }, { name := "SIGNATURE_BYTES", type := .int, accessFlags := 26, slot := 5, constantValue := 0 }, { name := "DEFLATE", type := .int, accessFlags := 26, slot := 6, constantValue := 0 }, { name := "IGNORED_HEADER_BYTES", type := .int, accessFlags := 26, slot := 7, constantValue := 0 }, { name := "file", type := (.object "java/io/InputStream"), accessFlags := 18, slot := 0, constantValue := 0 }, { name := "input", type := (.array .byte), accessFlags := 18, slot := 1, constantValue := 0 }, { name := "position", type := .int, accessFlags := 2, slot := 2, constantValue := 0 }, { name := "limit", type := .int, accessFlags := 2, slot := 3, constantValue := 0 }, { name := "inflater", type := (.object "java/util/zip/Inflater"), accessFlags := 18, slot := 4, constantValue := 0 }, { name := "crc", type := (.object "java/util/zip/CRC32"), accessFlags := 18, slot := 5, constantValue := 0 }, { name := "inMember", type := .boolean, accessFlags := 2, slot := 6, constantValue := 0 }, { name := "ended", type := .boolean, accessFlags := 2, slot := 7, constantValue := 0 }]
  methods := #[k5m0]
  instanceTypes := #[(.object "java/io/InputStream"), (.array .byte), .int, .int, (.object "java/util/zip/Inflater"), (.object "java/util/zip/CRC32"), .boolean, .boolean]
  staticTypes := #[.int, .int, .int, .int, .int, .int, .int, .int]
  resolved := Array.replicate 219 none
  statics := none }

def pool6 : Array CpInfo := pool [(1, u "java/lang/Cloneable"), (0, .class_ 1), (0, u "java/lang/Object"), (0, .class_ 3)] 3

/-- java/lang/Cloneable -/
def k6 : Class := { plain "java/lang/Cloneable" (some 0) with
  accessFlags := 1537
  interfaces := #[]
  cf := some (fileOf pool6 2 #[] #[] 1537 4 #[] #[])
  fields := #[]
  methods := #[]
  instanceTypes := #[]
  staticTypes := #[]
  resolved := Array.replicate 8 none
  statics := none }

def pool7 : Array CpInfo := pool [(1, u "java/io/Serializable"), (0, .class_ 1), (0, u "java/lang/Object"), (0, .class_ 3)] 3

/-- java/io/Serializable -/
def k7 : Class := { plain "java/io/Serializable" (some 0) with
  accessFlags := 1537
  interfaces := #[]
  cf := some (fileOf pool7 2 #[] #[] 1537 4 #[] #[])
  fields := #[]
  methods := #[]
  instanceTypes := #[]
  staticTypes := #[]
  resolved := Array.replicate 8 none
  statics := none }

/-- the primitive byte -/
def k8 : Class := { plain "byte" none with kind := .primitive 'B', accessFlags := 0x411 }
/-- [B -/
def k9 : Class := { plain "[B" (some 0) with kind := .array 8 .byte, interfaces := #[6, 7], accessFlags := 1041 }

/-- the primitive int -/
def k10 : Class := { plain "int" none with kind := .primitive 'I', accessFlags := 0x411 }
/-- [I -/
def k11 : Class := { plain "[I" (some 0) with kind := .array 10 .int, interfaces := #[6, 7], accessFlags := 1041 }

def heap : Heap := #[]
def classes : Array Class := #[k0, k1, k2, k3, k4, k5, k6, k7, k8, k9, k10, k11]
def interned : List (Array UInt16 × Addr) := []
def slotsUsed : Nat := 0
def theMethod : MethodId := ⟨1, 1⟩
def args0 : Array Value := #[.int 4, .int 7, .int 1, .int 2, .int 3, .int 4]
def aboutOver (below : List Frame) : State where
  vm := { classes := classes, interned := interned.toArray }
  heap := heap
  slotsUsed := slotsUsed
  threads := #[{ frames := .invoking theMethod args0 :: below }]
def below0 : List Frame := [.native { method := ⟨0, 0⟩, args := #[] }]
def about1 : State := aboutOver below0
def p0 : Program := .bare "" "" ""
def e0 : Env := launch0.env 0 0 0
theorem w_frames : about1.frames = Frame.invoking theMethod args0 :: below0 := rfl
set_option maxRecDepth 65536 in
theorem w_args : argsFit about1.vm theMethod args0 = true := by decide +kernel
set_option maxRecDepth 65536 in
theorem w_heap : heapFits about1 = true := by decide +kernel
set_option maxRecDepth 65536 in
theorem w_runnable : about1.curStatus? = some .runnable := by decide +kernel
set_option maxRecDepth 65536 in
theorem w_alone : about1.alone = true := by decide +kernel
set_option maxRecDepth 65536 in
theorem w_named : about1.methodNamed? x = some theMethod := by decide +kernel
set_option maxRecDepth 65536 in
theorem w_hears : about1.hears theMethod below0 = true := by decide +kernel
set_option maxRecDepth 65536 in
theorem w_ripe : about1.ripe theMethod args0 below0 = true := by decide +kernel
theorem w_running : about1.status = .running := rfl
set_option maxRecDepth 65536 in
theorem w_room : about1.hasRoom e0.platform room_1 = true :=
  launch0.hasRoom_least _ room_1 (by decide +kernel) (by decide +kernel) (by decide +kernel) (by decide +kernel) (by decide +kernel) (by decide +kernel)
theorem allAtoms_all (ts : List Jvm.Cond) (a : Array Jvm.Value) (st : Jvm.State) : (allAtoms ts).before a st = ts.all (fun c => c.before a st) := by
  induction ts with
  | nil => rfl
  | cons c t ih =>
    show (Jvm.Cond.and c (allAtoms t)).before a st = _
    rw [Jvm.Cond.before_and, ih, List.all_cons]
def words1 : List Jvm.Cond := Jvm.Cond.code x code maxLocals ret :: tables_1
/-- a 'code' word, met by the world's own term for the bytes: nothing is compared byte by byte -/
theorem code_word {y : MethodName} {bytes : ByteArray} {mx : Nat} {rt : Option FieldType} {a : Array Value} {s : State} {m : MethodId} {meth : Method} {c : Code} (h1 : s.methodNamed? y = some m) (h2 : s.vm.method? m = some meth) (h3 : meth.code = some c) (h4 : c.code = bytes)
    (h5 : (c.maxLocals == mx && c.exceptionTable.isEmpty && decide (c.maxStack ≤ mostOperands) && decide (meth.sig.returnType = rt) && !meth.locks && decide (parseMethodDescriptor y.desc = some meth.sig)) = true) : (Jvm.Cond.code y bytes mx rt).before a s = true := by
  simp only [Bool.and_eq_true, beq_iff_eq, Bool.not_eq_true', decide_eq_true_eq] at h5
  obtain ⟨⟨⟨⟨⟨g1, g2⟩, g3⟩, g4⟩, g5⟩, g6⟩ := h5
  simp [Cond.before, Cond.holds, Cond.value, h1, h2, h3, h4, g1, g2, g3, g4, g5, g6]
def isCode : Jvm.Cond → Bool
  | .code _ _ _ _ => true
  | _ => false
theorem all_split {L : List Jvm.Cond} {P : Jvm.Cond → Bool} (h1 : L.all (fun c => isCode c || P c) = true) (h2 : ∀ c ∈ L.filter isCode, P c = true) : L.all P = true := by
  refine List.all_eq_true.mpr fun c hc => ?_
  have h := List.all_eq_true.mp h1 c hc
  rcases Bool.eq_false_or_eq_true (isCode c) with hi | hi
  · exact h2 c (List.mem_filter.mpr ⟨hc, hi⟩)
  · simpa [hi] using h
set_option maxRecDepth 65536 in
theorem w_c0 : (Jvm.Cond.code x code maxLocals ret).before args0 about1 = true := code_word (m := ⟨1, 1⟩) (meth := k1m1) (c := k1c1) (by decide +kernel) rfl rfl rfl (by decide +kernel)
set_option maxRecDepth 65536 in
theorem w_c1 : (Jvm.Cond.code ({ cls := "com/example/graphalog/graphalog/io/GzipMembers", name := "startsMember", desc := "([B)Z" } : Jvm.MethodName) prog_14_method_7_code (1 : Nat) (Option.some Jvm.ClassFile.FieldType.boolean)).before args0 about1 = true := code_word (m := ⟨5, 0⟩) (meth := k5m0) (c := k5c0) (by decide +kernel) rfl rfl rfl (by decide +kernel)
def codes1 : List Jvm.Cond := [Jvm.Cond.code x code maxLocals ret, Jvm.Cond.code ({ cls := "com/example/graphalog/graphalog/io/GzipMembers", name := "startsMember", desc := "([B)Z" } : Jvm.MethodName) prog_14_method_7_code (1 : Nat) (Option.some Jvm.ClassFile.FieldType.boolean)]
set_option maxRecDepth 65536 in
theorem codes_eq : words1.filter isCode = codes1 := rfl
theorem w_codes : ∀ c ∈ words1.filter isCode, c.before args0 about1 = true := by
  rw [codes_eq]
  intro c hc
  simp only [codes1, List.mem_cons, List.not_mem_nil, or_false] at hc
  rcases hc with rfl | rfl
  · exact w_c0
  · exact w_c1
set_option maxRecDepth 65536 in
theorem w_t1 : words1.all (fun c => isCode c || c.before args0 about1) = true := by decide +kernel
theorem w_tables : (allAtoms (Jvm.Cond.code x code maxLocals ret :: tables_1)).before args0 about1 = true := by
  rw [allAtoms_all]
  show words1.all (fun c => c.before args0 about1) = true
  refine all_split ?_ w_codes
  rw [w_t1]
set_option maxRecDepth 65536 in
theorem w_case : (Jvm.Cond.and given_1 narrow_1).before args0 about1 = true := by decide +kernel
theorem w_applies : (headSpec (Jvm.Cond.code x code maxLocals ret :: tables_1) room_1).applies x e0.platform about1 = true :=
  (Spec.applies_iff w_frames).mpr ⟨w_running, w_runnable, w_alone, w_named, w_hears, w_ripe, w_room, w_tables⟩
theorem atStart : AtStart classFile x code maxLocals ret World_1 tables_1 room_1 Calls_1 rest_1 Pre_1 launch0 p0 e0 about1 theMethod args0 below0 :=
  ⟨lists_1, trivial, launch0.admits_env _ _ _, launch0.least_env, fairChoices_fair.cas, fairChoices_fair.clock, w_frames, w_args, w_heap, w_applies, trivial, trivial, w_case⟩
end start1
theorem witness_1 : WitnessClaimed_1 := ⟨start1.p0, start1.e0, start1.about1, start1.theMethod, start1.args0, start1.below0, start1.atStart⟩
end Jvm.Pilot.@@N@@
