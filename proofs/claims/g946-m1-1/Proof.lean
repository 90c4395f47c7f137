import JvmDerived
import JvmDerived.Pilot.@@N@@Statement
import JvmDerived.Pilot.@@N@@Code
set_option linter.unusedVariables false
set_option linter.unusedSimpArgs false
namespace Jvm.Pilot.@@N@@
open Jvm Jvm.ClassFile Sem Op Lib Jvm.Free Jvm.Stand Jvm.LawKit Jvm.RoadKit Bundle Jvm.Pilot.@@N@@.Jvm.D
/-- what a walk that stands at A still owes -/
def own_G (p : Program) (e : Env) (below : List Frame) (s : State) (Q : Option Value → Heap → List Loc → Prop) (rc rs : Nat) (A : State) : Prop :=
  ∃ s₂ o, Steps p.tables e below A s₂ ∧ s₂.status = .running ∧ Ended s₂ below o ∧ ∃ v L, o = .returned v ∧ Q v s₂.heap L ∧ FrameEnd s o s₂ L rc rs
theorem own_go {p : Program} {e : Env} {below : List Frame} {s : State} {Q : Option Value → Heap → List Loc → Prop} {rc rs : Nat} {A B : State} (st : ∀ t, Steps p.tables e below B t → Steps p.tables e below A t) (k : own_G p e below s Q rc rs B) : own_G p e below s Q rc rs A := by
  obtain ⟨s₂, o, h, r⟩ := k
  exact ⟨s₂, o, st _ h, r⟩
theorem own_leave {p : Program} {l : Launch} {e : Env} {R : Room} {s : State} {m : MethodId} {args : Array Value} {below : List Frame} {meth : Method} {c : Code} {T : State} {locs : List Loc} {cells slots : Nat} {Q : Option Value → Heap → List Loc → Prop} {rc rs : Nat} {g : JFrame} (X : Stand p l e R s m args below meth c T locs cells slots) (v : Option Value) (hv : meth.sig.returnType = none → v = none) (hlk : meth.locks = false)
    (st : ∀ fs, (∀ (f : JFrame) (acts : List Action), f.method = m → f.locked = none → f.entered = [] → (doReturn e (T.setTop f) acts v).1 = T.setFrames fs) → Steps p.tables e below (T.setTop g) (T.setFrames fs)) (hQ : Q v T.heap locs) (hc : cells ≤ rc) (hs : slots ≤ rs) : own_G p e below s Q rc rs (T.setTop g) := by
  obtain ⟨fs, hr, hrun, hended, hW, hsame⟩ := X.leave (v := v) hv hlk
  exact ⟨_, _, st fs hr, hrun, hended, _, _, rfl, hQ, ⟨_, rfl⟩, hW, hsame.mono hc hs⟩
/-- what atLeast answers -/
def own_al (M a o b : Int64) : Int32 := if o < M then 1 else if M = o then (if a < b then 0 else 1) else 0
theorem own_al_gt {M a o b : Int64} (h : o < M) : own_al M a o b = 1 := if_pos h
theorem own_al_ne {M a o b : Int64} (h : ¬ o < M) (h2 : ¬ M = o) : own_al M a o b = 0 := (if_neg h).trans (if_neg h2)
theorem own_al_lt {M a o b : Int64} (h : ¬ o < M) (h2 : M = o) (h3 : a < b) : own_al M a o b = 0 := (if_neg h).trans ((if_pos h2).trans (if_pos h3))
theorem own_al_ge {M a o b : Int64} (h : ¬ o < M) (h2 : M = o) (h3 : ¬ a < b) : own_al M a o b = 1 := (if_neg h).trans ((if_pos h2).trans (if_neg h3))
theorem own_lt_irrefl (a : Int64) : ¬ a < a := by rw [Int64.lt_iff_toInt_lt]; omega
theorem own_al_self (M a : Int64) : ¬ own_al M a M a = 0 := by rw [own_al_ge (own_lt_irrefl M) rfl (own_lt_irrefl a)]; decide
theorem own_al_zero {M a o b : Int64} (h : own_al M a o b = 0) : M.toInt < o.toInt ∨ (M.toInt = o.toInt ∧ a.toInt < b.toInt) := by
  by_cases h1 : o < M
  · rw [own_al_gt h1] at h; exact absurd h (by decide)
  · by_cases h2 : M = o
    · by_cases h3 : a < b
      · rw [Int64.lt_iff_toInt_lt] at h3; exact Or.inr ⟨congrArg _ h2, h3⟩
      · rw [own_al_ge h1 h2 h3] at h; exact absurd h (by decide)
    · rw [Int64.lt_iff_toInt_lt] at h1; rw [← Int64.toInt_inj] at h2; left; omega
theorem own_al_one {M a o b : Int64} (h : ¬ own_al M a o b = 0) : o.toInt < M.toInt ∨ (M.toInt = o.toInt ∧ b.toInt ≤ a.toInt) := by
  by_cases h1 : o < M
  · rw [Int64.lt_iff_toInt_lt] at h1; exact Or.inl h1
  · by_cases h2 : M = o
    · by_cases h3 : a < b
      · exact absurd (own_al_lt h1 h2 h3) h
      · rw [Int64.lt_iff_toInt_lt] at h3; exact Or.inr ⟨congrArg _ h2, by omega⟩
    · exact absurd (own_al_ne h1 h2) h
theorem own_al_tot {M a o b : Int64} (h : own_al M a o b = 0) : ¬ own_al o b M a = 0 := fun q => by
  have h1 := own_al_zero h
  have h2 := own_al_zero q
  omega
/-- whether the two times are the same -/
def own_same (M a o b : Int64) : Int32 := if M = o then (if a = b then 1 else 0) else 0
theorem own_same_z {M a o b : Int64} (h : ¬ (M.toInt = o.toInt ∧ a.toInt = b.toInt)) : (0 : Int32) = own_same M a o b := by
  by_cases h1 : M = o
  · by_cases h2 : a = b
    · exact absurd ⟨congrArg _ h1, congrArg _ h2⟩ h
    · exact ((if_pos h1).trans (if_neg h2)).symm
  · exact (if_neg h1).symm
theorem own_same_r {M a o b : Int64} (h : own_al M a o b = 0) : (0 : Int32) = own_same M a o b := own_same_z (by have := own_al_zero h; omega)
theorem own_same_b {M a o b : Int64} (h : own_al o b M a = 0) : (0 : Int32) = own_same M a o b := own_same_z (by have := own_al_zero h; omega)
theorem own_same_1 {M a o b : Int64} (h : ¬ own_al M a o b = 0) (h2 : ¬ own_al o b M a = 0) : (1 : Int32) = own_same M a o b := by
  have q1 := own_al_one h
  have q2 := own_al_one h2
  have e1 : M = o := Int64.toInt_inj.mp (by omega)
  have e2 : a = b := Int64.toInt_inj.mp (by omega)
  exact ((if_pos e1).trans (if_pos e2)).symm
theorem own_s_ne (x : Int64) : (x &&& (4611686018427387903 : Int64)) + (1 : Int64) ≠ 0 := by
  intro h
  have h1 : ((x &&& (4611686018427387903 : Int64)) + (1 : Int64)).toBitVec.toNat = (0 : Int64).toBitVec.toNat := by rw [h]
  rw [Int64.toBitVec_add, Int64.toBitVec_and, BitVec.toNat_add, BitVec.toNat_and] at h1
  have e1 : (4611686018427387903 : Int64).toBitVec.toNat = 4611686018427387903 := by decide
  have e2 : (1 : Int64).toBitVec.toNat = 1 := by decide
  have e3 : (0 : Int64).toBitVec.toNat = 0 := by decide
  rw [e1, e2, e3] at h1
  have h2 : x.toBitVec.toNat &&& 4611686018427387903 ≤ 4611686018427387903 := Nat.and_le_right
  omega
theorem d1_0 : decode prog_21_method_16_code 0 = .ok (.lload_n 0, 1) := by decide +kernel
theorem d1_1 : decode prog_21_method_16_code 1 = .ok (.lload 4, 2) := by decide +kernel
theorem d1_3 : decode prog_21_method_16_code 3 = .ok (.lcmp, 1) := by decide +kernel
theorem d1_4 : decode prog_21_method_16_code 4 = .ok (.ifCond .gt 17, 3) := by decide +kernel
theorem d1_7 : decode prog_21_method_16_code 7 = .ok (.lload_n 0, 1) := by decide +kernel
theorem d1_8 : decode prog_21_method_16_code 8 = .ok (.lload 4, 2) := by decide +kernel
theorem d1_10 : decode prog_21_method_16_code 10 = .ok (.lcmp, 1) := by decide +kernel
theorem d1_11 : decode prog_21_method_16_code 11 = .ok (.ifCond .ne 14, 3) := by decide +kernel
theorem d1_14 : decode prog_21_method_16_code 14 = .ok (.lload_n 2, 1) := by decide +kernel
theorem d1_15 : decode prog_21_method_16_code 15 = .ok (.lload 6, 2) := by decide +kernel
theorem d1_17 : decode prog_21_method_16_code 17 = .ok (.lcmp, 1) := by decide +kernel
theorem d1_18 : decode prog_21_method_16_code 18 = .ok (.ifCond .lt 7, 3) := by decide +kernel
theorem d1_21 : decode prog_21_method_16_code 21 = .ok (.iconst 1, 1) := by decide +kernel
theorem d1_22 : decode prog_21_method_16_code 22 = .ok (.goto 4, 3) := by decide +kernel
theorem d1_25 : decode prog_21_method_16_code 25 = .ok (.iconst 0, 1) := by decide +kernel
theorem d1_26 : decode prog_21_method_16_code 26 = .ok (.ireturn, 1) := by decide +kernel
theorem pn1 : plainName "com/example/oyster/oyster/store/PermitTime" = true := by first | (simp [plainName, overriddenIn]; done) | decide +kernel
theorem pd1 : parseMethodDescriptor "(JJJJ)Z" = some ⟨[.long, .long, .long, .long], some .boolean⟩ := by decide +kernel
theorem ef1 (m : MethodId) (x0 : Int64) (x1 : Int64) (x2 : Int64) (x3 : Int64) : entryFrame m #[(.long x0), (.long x1), (.long x2), (.long x3)] 8 = mkF m 0 #[.val (.long x0), .second, .val (.long x1), .second, .val (.long x2), .second, .val (.long x3), .second] [] := by first | (simp [entryFrame, mkF, argsToLocals, Value.category]; done) | rfl
def own_Q1 (m1 s1 m2 s2 : Int64) (h0 : Heap) (v : Option Value) (h : Heap) (L : List Loc) : Prop := v = some (.int (own_al m1 s1 m2 s2)) ∧ L = [] ∧ h = h0
set_option maxRecDepth 65536 in
set_option maxHeartbeats 40000000 in
theorem rm1 (l : Launch) (Z : State) (a0 : Array Value) (hw : ∀ d ∈ tables_1, d.before a0 Z = true) (ws : List Jvm.Cond) (m1 s1 m2 s2 : Int64) (h0 : Heap) :
    MetFree l (⟨"com/example/oyster/oyster/store/PermitTime", "atLeast", "(JJJJ)Z"⟩ : MethodName) (head1 (Jvm.Cond.code (⟨"com/example/oyster/oyster/store/PermitTime", "atLeast", "(JJJJ)Z"⟩ : MethodName) prog_21_method_16_code 8 (some .boolean) :: ws) ({ frames := 0, cells := 0, slots := 0, locals := 0 } : Room)) (fun a U => a = #[(.long m1), (.long s1), (.long m2), (.long s2)] ∧ Z.Warmed39 U.vm ∧ U.heap = h0) (fun _ _ _ _ _ => True) (fun _ U o U' => ∃ v L, o = .returned v ∧ own_Q1 m1 s1 m2 s2 h0 v U'.heap L ∧ FrameEnd U o U' L ({ frames := 0, cells := 0, slots := 0, locals := 0 } : Room).cells ({ frames := 0, cells := 0, slots := 0, locals := 0 } : Room).slots) := by
  refine MetFree.of_bodySF (plainFor_of_name pn1) hisR ?_
  intro p e s m args below meth c s₁ Bd hml0 hP hK
  obtain ⟨rfl, hZ, hh⟩ := hP
  have hx := Bd.exec
  have hby := Bd.bytes
  have hml : c.maxLocals = 8 := hml0
  have hown : s.vm.findClass "com/example/oyster/oyster/store/PermitTime" = some m.cls := findClass_of_methodNamed Bd.named
  have hnm := (name_of_methodNamed Bd.named Bd.method).1
  have X0 : Stand p l e ({ frames := 0, cells := 0, slots := 0, locals := 0 } : Room) s m #[(.long m1), (.long s1), (.long m2), (.long s2)] below meth c s₁ [] 0 0 := Stand.of_body Bd
  have e0 : s₁.heap = h0 := by rw [← hh, Bd.state]; rfl
  refine (show own_G p e below s (own_Q1 m1 s1 m2 s2 h0) 0 0 (s₁.setTop (entryFrame m #[(.long m1), (.long s1), (.long m2), (.long s2)] 8)) → _ from fun k => k) ?_
  refine own_go (fun t k => castTop (ef1 m m1 s1 m2 s2) k) ?_
  show own_G p e below s (own_Q1 m1 s1 m2 s2 h0) 0 0 (s₁.setTop (mkF m 0 #[.val (.long m1), .second, .val (.long s1), .second, .val (.long m2), .second, .val (.long s2), .second] []))
  refine own_go (fun t k => XT.lloadN X0.here hx rfl (hb hby d1_0) rfl k) ?_
  show own_G p e below s (own_Q1 m1 s1 m2 s2 h0) 0 0 (s₁.setTop (mkF m 1 #[.val (.long m1), .second, .val (.long s1), .second, .val (.long m2), .second, .val (.long s2), .second] [(.long m1)]))
  refine own_go (fun t k => XT.lload X0.here hx rfl (hb hby d1_1) rfl k) ?_
  show own_G p e below s (own_Q1 m1 s1 m2 s2 h0) 0 0 (s₁.setTop (mkF m 3 #[.val (.long m1), .second, .val (.long s1), .second, .val (.long m2), .second, .val (.long s2), .second] [(.long m2), (.long m1)]))
  refine own_go (fun t k => XT.lcmp X0.here hx rfl (hb hby d1_3) rfl k) ?_
  show own_G p e below s (own_Q1 m1 s1 m2 s2 h0) 0 0 (s₁.setTop (mkF m 4 #[.val (.long m1), .second, .val (.long s1), .second, .val (.long m2), .second, .val (.long s2), .second] [(.int (XT.cmpL m1 m2))]))
  by_cases h1 : m2 < m1
  · skip
    refine own_go (fun t k => XS.ifYes X0.here hx rfl (pc0 := 4) (pc' := 21) rfl (hb hby d1_4) rfl (XT.ll_gt_t h1) (by decide) (by decide) k) ?_
    show own_G p e below s (own_Q1 m1 s1 m2 s2 h0) 0 0 (s₁.setTop (mkF m 21 #[.val (.long m1), .second, .val (.long s1), .second, .val (.long m2), .second, .val (.long s2), .second] []))
    refine own_go (fun t k => XS.iconst X0.here hx rfl (hb hby d1_21) k) ?_
    show own_G p e below s (own_Q1 m1 s1 m2 s2 h0) 0 0 (s₁.setTop (mkF m 22 #[.val (.long m1), .second, .val (.long s1), .second, .val (.long m2), .second, .val (.long s2), .second] [(.int (1 : Int32))]))
    refine own_go (fun t k => XS.goto X0.here hx rfl (pc0 := 22) (pc' := 26) rfl (hb hby d1_22) (by decide) (by decide) k) ?_
    show own_G p e below s (own_Q1 m1 s1 m2 s2 h0) 0 0 (s₁.setTop (mkF m 26 #[.val (.long m1), .second, .val (.long s1), .second, .val (.long m2), .second, .val (.long s2), .second] [(.int (1 : Int32))]))
    exact own_leave X0 (some (.int (1 : Int32))) (fun h => by rw [Bd.returns] at h; cases h) Bd.notSynchronized (fun fs hr => retN X0 hx (t := .boolean) Bd.returns (by simp) (hb hby d1_26) hr) ⟨congrArg (fun z => some (Value.int z)) (own_al_gt h1).symm, rfl, e0⟩ (by decide) (by decide)
  · skip
    refine own_go (fun t k => XS.ifNo X0.here hx rfl (hb hby d1_4) rfl (XT.ll_gt_f h1) k) ?_
    show own_G p e below s (own_Q1 m1 s1 m2 s2 h0) 0 0 (s₁.setTop (mkF m 7 #[.val (.long m1), .second, .val (.long s1), .second, .val (.long m2), .second, .val (.long s2), .second] []))
    refine own_go (fun t k => XT.lloadN X0.here hx rfl (hb hby d1_7) rfl k) ?_
    show own_G p e below s (own_Q1 m1 s1 m2 s2 h0) 0 0 (s₁.setTop (mkF m 8 #[.val (.long m1), .second, .val (.long s1), .second, .val (.long m2), .second, .val (.long s2), .second] [(.long m1)]))
    refine own_go (fun t k => XT.lload X0.here hx rfl (hb hby d1_8) rfl k) ?_
    show own_G p e below s (own_Q1 m1 s1 m2 s2 h0) 0 0 (s₁.setTop (mkF m 10 #[.val (.long m1), .second, .val (.long s1), .second, .val (.long m2), .second, .val (.long s2), .second] [(.long m2), (.long m1)]))
    refine own_go (fun t k => XT.lcmp X0.here hx rfl (hb hby d1_10) rfl k) ?_
    show own_G p e below s (own_Q1 m1 s1 m2 s2 h0) 0 0 (s₁.setTop (mkF m 11 #[.val (.long m1), .second, .val (.long s1), .second, .val (.long m2), .second, .val (.long s2), .second] [(.int (XT.cmpL m1 m2))]))
    by_cases h2 : m1 = m2
    · skip
      refine own_go (fun t k => XS.ifNo X0.here hx rfl (hb hby d1_11) rfl (XT.ll_ne_f h2) k) ?_
      show own_G p e below s (own_Q1 m1 s1 m2 s2 h0) 0 0 (s₁.setTop (mkF m 14 #[.val (.long m1), .second, .val (.long s1), .second, .val (.long m2), .second, .val (.long s2), .second] []))
      refine own_go (fun t k => XT.lloadN X0.here hx rfl (hb hby d1_14) rfl k) ?_
      show own_G p e below s (own_Q1 m1 s1 m2 s2 h0) 0 0 (s₁.setTop (mkF m 15 #[.val (.long m1), .second, .val (.long s1), .second, .val (.long m2), .second, .val (.long s2), .second] [(.long s1)]))
      refine own_go (fun t k => XT.lload X0.here hx rfl (hb hby d1_15) rfl k) ?_
      show own_G p e below s (own_Q1 m1 s1 m2 s2 h0) 0 0 (s₁.setTop (mkF m 17 #[.val (.long m1), .second, .val (.long s1), .second, .val (.long m2), .second, .val (.long s2), .second] [(.long s2), (.long s1)]))
      refine own_go (fun t k => XT.lcmp X0.here hx rfl (hb hby d1_17) rfl k) ?_
      show own_G p e below s (own_Q1 m1 s1 m2 s2 h0) 0 0 (s₁.setTop (mkF m 18 #[.val (.long m1), .second, .val (.long s1), .second, .val (.long m2), .second, .val (.long s2), .second] [(.int (XT.cmpL s1 s2))]))
      by_cases h3 : s1 < s2
      · skip
        refine own_go (fun t k => XS.ifYes X0.here hx rfl (pc0 := 18) (pc' := 25) rfl (hb hby d1_18) rfl (XT.ll_lt_t h3) (by decide) (by decide) k) ?_
        show own_G p e below s (own_Q1 m1 s1 m2 s2 h0) 0 0 (s₁.setTop (mkF m 25 #[.val (.long m1), .second, .val (.long s1), .second, .val (.long m2), .second, .val (.long s2), .second] []))
        refine own_go (fun t k => XS.iconst X0.here hx rfl (hb hby d1_25) k) ?_
        show own_G p e below s (own_Q1 m1 s1 m2 s2 h0) 0 0 (s₁.setTop (mkF m 26 #[.val (.long m1), .second, .val (.long s1), .second, .val (.long m2), .second, .val (.long s2), .second] [(.int (0 : Int32))]))
        exact own_leave X0 (some (.int (0 : Int32))) (fun h => by rw [Bd.returns] at h; cases h) Bd.notSynchronized (fun fs hr => retN X0 hx (t := .boolean) Bd.returns (by simp) (hb hby d1_26) hr) ⟨congrArg (fun z => some (Value.int z)) (own_al_lt h1 h2 h3).symm, rfl, e0⟩ (by decide) (by decide)
      · skip
        refine own_go (fun t k => XS.ifNo X0.here hx rfl (hb hby d1_18) rfl (XT.ll_lt_f h3) k) ?_
        show own_G p e below s (own_Q1 m1 s1 m2 s2 h0) 0 0 (s₁.setTop (mkF m 21 #[.val (.long m1), .second, .val (.long s1), .second, .val (.long m2), .second, .val (.long s2), .second] []))
        refine own_go (fun t k => XS.iconst X0.here hx rfl (hb hby d1_21) k) ?_
        show own_G p e below s (own_Q1 m1 s1 m2 s2 h0) 0 0 (s₁.setTop (mkF m 22 #[.val (.long m1), .second, .val (.long s1), .second, .val (.long m2), .second, .val (.long s2), .second] [(.int (1 : Int32))]))
        refine own_go (fun t k => XS.goto X0.here hx rfl (pc0 := 22) (pc' := 26) rfl (hb hby d1_22) (by decide) (by decide) k) ?_
        show own_G p e below s (own_Q1 m1 s1 m2 s2 h0) 0 0 (s₁.setTop (mkF m 26 #[.val (.long m1), .second, .val (.long s1), .second, .val (.long m2), .second, .val (.long s2), .second] [(.int (1 : Int32))]))
        exact own_leave X0 (some (.int (1 : Int32))) (fun h => by rw [Bd.returns] at h; cases h) Bd.notSynchronized (fun fs hr => retN X0 hx (t := .boolean) Bd.returns (by simp) (hb hby d1_26) hr) ⟨congrArg (fun z => some (Value.int z)) (own_al_ge h1 h2 h3).symm, rfl, e0⟩ (by decide) (by decide)
    · skip
      refine own_go (fun t k => XS.ifYes X0.here hx rfl (pc0 := 11) (pc' := 25) rfl (hb hby d1_11) rfl (XT.ll_ne_t h2) (by decide) (by decide) k) ?_
      show own_G p e below s (own_Q1 m1 s1 m2 s2 h0) 0 0 (s₁.setTop (mkF m 25 #[.val (.long m1), .second, .val (.long s1), .second, .val (.long m2), .second, .val (.long s2), .second] []))
      refine own_go (fun t k => XS.iconst X0.here hx rfl (hb hby d1_25) k) ?_
      show own_G p e below s (own_Q1 m1 s1 m2 s2 h0) 0 0 (s₁.setTop (mkF m 26 #[.val (.long m1), .second, .val (.long s1), .second, .val (.long m2), .second, .val (.long s2), .second] [(.int (0 : Int32))]))
      exact own_leave X0 (some (.int (0 : Int32))) (fun h => by rw [Bd.returns] at h; cases h) Bd.notSynchronized (fun fs hr => retN X0 hx (t := .boolean) Bd.returns (by simp) (hb hby d1_26) hr) ⟨congrArg (fun z => some (Value.int z)) (own_al_ne h1 h2).symm, rfl, e0⟩ (by decide) (by decide)
theorem pn0 : plainName "com/example/oyster/oyster/store/PermitTimeAtLeastPinLaw" = true := by first | (simp [plainName, overriddenIn]; done) | decide +kernel
theorem ef0 (m : MethodId) (x0 : Int64) (x1 : Int64) (x2 : Int64) (x3 : Int64) (x4 : Int64) (x5 : Int32) : entryFrame m #[(.long x0), (.long x1), (.long x2), (.long x3), (.long x4), (.int x5)] maxLocals = mkF m 0 #[.val (.long x0), .second, .val (.long x1), .second, .val (.long x2), .second, .val (.long x3), .second, .val (.long x4), .second, .val (.int x5), .unset, .unset, .unset, .unset, .unset, .unset, .unset, .unset, .unset, .unset, .unset, .unset, .unset] [] := by first | (simp [entryFrame, mkF, argsToLocals, Value.category, maxLocals]; done) | rfl
def own_Q0 (n0 : Nat) (v : Option Value) (h : Heap) (L : List Loc) : Prop := v = some (.int 1) ∧ Fr n0 L
set_option maxRecDepth 65536 in
set_option maxHeartbeats 40000000 in
theorem rm0 (l : Launch) (Z : State) (a0 : Array Value) (hw : ∀ d ∈ tables_1, d.before a0 Z = true) (ws : List Jvm.Cond) (x0 x1 x2 x3 x4 : Int64) (x5 : Int32) (h0 : Heap) (n0 : Nat) (Z0 : n0 ≤ h0.size) :
    MetFree l x (head1 (Jvm.Cond.code x code maxLocals ret :: ws) room_1) (fun a U => a = #[(.long x0), (.long x1), (.long x2), (.long x3), (.long x4), (.int x5)] ∧ Z.Warmed39 U.vm ∧ U.heap = h0) (fun _ _ _ _ _ => True) (fun _ U o U' => ∃ v L, o = .returned v ∧ own_Q0 n0 v U'.heap L ∧ FrameEnd U o U' L 0 0) := by
  refine MetFree.of_bodySF (plainFor_of_name pn0) hisR ?_
  intro p e s m args below meth c s₁ Bd hml0 hP hK
  obtain ⟨rfl, hZ, hh⟩ := hP
  have hx := Bd.exec
  have hby := Bd.bytes
  have hml : c.maxLocals = 24 := hml0
  have hown : s.vm.findClass "com/example/oyster/oyster/store/PermitTimeAtLeastPinLaw" = some m.cls := findClass_of_methodNamed Bd.named
  have hnm := (name_of_methodNamed Bd.named Bd.method).1
  have X0 : Stand p l e room_1 s m #[(.long x0), (.long x1), (.long x2), (.long x3), (.long x4), (.int x5)] below meth c s₁ [] 0 0 := Stand.of_body Bd
  have e0 : s₁.heap = h0 := by rw [← hh, Bd.state]; rfl
  refine (show own_G p e below s (own_Q0 n0) 0 0 (s₁.setTop (entryFrame m #[(.long x0), (.long x1), (.long x2), (.long x3), (.long x4), (.int x5)] maxLocals)) → _ from fun k => k) ?_
  refine own_go (fun t k => castTop (ef0 m x0 x1 x2 x3 x4 x5) k) ?_
  show own_G p e below s (own_Q0 n0) 0 0 (s₁.setTop (mkF m 0 #[.val (.long x0), .second, .val (.long x1), .second, .val (.long x2), .second, .val (.long x3), .second, .val (.long x4), .second, .val (.int x5), .unset, .unset, .unset, .unset, .unset, .unset, .unset, .unset, .unset, .unset, .unset, .unset, .unset] []))
  refine own_go (fun t k => XT.lload X0.here hx rfl (hb hby at_0) rfl k) ?_
  show own_G p e below s (own_Q0 n0) 0 0 (s₁.setTop (mkF m 2 #[.val (.long x0), .second, .val (.long x1), .second, .val (.long x2), .second, .val (.long x3), .second, .val (.long x4), .second, .val (.int x5), .unset, .unset, .unset, .unset, .unset, .unset, .unset, .unset, .unset, .unset, .unset, .unset, .unset] [(.long x4)]))
  refine own_go (X0.ldc2Long hx hown (mvT hZ (hw _ (List.mem_of_getElem? (i := 0) rfl))) (g := (mkF m 2 #[.val (.long x0), .second, .val (.long x1), .second, .val (.long x2), .second, .val (.long x3), .second, .val (.long x4), .second, .val (.int x5), .unset, .unset, .unset, .unset, .unset, .unset, .unset, .unset, .unset, .unset, .unset, .unset, .unset] [(.long x4)])) rfl (hb hby at_2)) ?_
  show own_G p e below s (own_Q0 n0) 0 0 (s₁.setTop (mkF m 5 #[.val (.long x0), .second, .val (.long x1), .second, .val (.long x2), .second, .val (.long x3), .second, .val (.long x4), .second, .val (.int x5), .unset, .unset, .unset, .unset, .unset, .unset, .unset, .unset, .unset, .unset, .unset, .unset, .unset] [(.long (4611686018427387903 : Int64)), (.long x4)]))
  refine own_go (fun t k => XT.land X0.here hx rfl (hb hby at_5) rfl k) ?_
  show own_G p e below s (own_Q0 n0) 0 0 (s₁.setTop (mkF m 6 #[.val (.long x0), .second, .val (.long x1), .second, .val (.long x2), .second, .val (.long x3), .second, .val (.long x4), .second, .val (.int x5), .unset, .unset, .unset, .unset, .unset, .unset, .unset, .unset, .unset, .unset, .unset, .unset, .unset] [(.long (x4 &&& (4611686018427387903 : Int64)))]))
  refine own_go (fun t k => XT.lconst X0.here hx rfl (hb hby at_6) k) ?_
  show own_G p e below s (own_Q0 n0) 0 0 (s₁.setTop (mkF m 7 #[.val (.long x0), .second, .val (.long x1), .second, .val (.long x2), .second, .val (.long x3), .second, .val (.long x4), .second, .val (.int x5), .unset, .unset, .unset, .unset, .unset, .unset, .unset, .unset, .unset, .unset, .unset, .unset, .unset] [(.long (1 : Int64)), (.long (x4 &&& (4611686018427387903 : Int64)))]))
  refine own_go (fun t k => XT.ladd X0.here hx rfl (hb hby at_7) rfl k) ?_
  show own_G p e below s (own_Q0 n0) 0 0 (s₁.setTop (mkF m 8 #[.val (.long x0), .second, .val (.long x1), .second, .val (.long x2), .second, .val (.long x3), .second, .val (.long x4), .second, .val (.int x5), .unset, .unset, .unset, .unset, .unset, .unset, .unset, .unset, .unset, .unset, .unset, .unset, .unset] [(.long ((x4 &&& (4611686018427387903 : Int64)) + (1 : Int64)))]))
  refine own_go (fun t k => XT.lstore X0.here hx rfl (hb hby at_8) rfl (l' := #[.val (.long x0), .second, .val (.long x1), .second, .val (.long x2), .second, .val (.long x3), .second, .val (.long x4), .second, .val (.int x5), .val (.long ((x4 &&& (4611686018427387903 : Int64)) + (1 : Int64))), .second, .unset, .unset, .unset, .unset, .unset, .unset, .unset, .unset, .unset, .unset, .unset]) rfl k) ?_
  show own_G p e below s (own_Q0 n0) 0 0 (s₁.setTop (mkF m 10 #[.val (.long x0), .second, .val (.long x1), .second, .val (.long x2), .second, .val (.long x3), .second, .val (.long x4), .second, .val (.int x5), .val (.long ((x4 &&& (4611686018427387903 : Int64)) + (1 : Int64))), .second, .unset, .unset, .unset, .unset, .unset, .unset, .unset, .unset, .unset, .unset, .unset] []))
  suffices own_n_sS : ∀ sS : Int64, sS = ((x4 &&& (4611686018427387903 : Int64)) + (1 : Int64)) → own_G p e below s (own_Q0 n0) 0 0 (s₁.setTop (mkF m 10 #[.val (.long x0), .second, .val (.long x1), .second, .val (.long x2), .second, .val (.long x3), .second, .val (.long x4), .second, .val (.int x5), .val (.long sS), .second, .unset, .unset, .unset, .unset, .unset, .unset, .unset, .unset, .unset, .unset, .unset] [])) from own_n_sS _ rfl
  intro sS h_sS
  have hs0 : sS ≠ 0 := by rw [h_sS]; exact own_s_ne x4
  refine own_go (fun t k => XT.lloadN X0.here hx rfl (hb hby at_10) rfl k) ?_
  show own_G p e below s (own_Q0 n0) 0 0 (s₁.setTop (mkF m 11 #[.val (.long x0), .second, .val (.long x1), .second, .val (.long x2), .second, .val (.long x3), .second, .val (.long x4), .second, .val (.int x5), .val (.long sS), .second, .unset, .unset, .unset, .unset, .unset, .unset, .unset, .unset, .unset, .unset, .unset] [(.long x1)]))
  refine own_go (X0.ldc2Long hx hown (mvT hZ (hw _ (List.mem_of_getElem? (i := 1) rfl))) (g := (mkF m 11 #[.val (.long x0), .second, .val (.long x1), .second, .val (.long x2), .second, .val (.long x3), .second, .val (.long x4), .second, .val (.int x5), .val (.long sS), .second, .unset, .unset, .unset, .unset, .unset, .unset, .unset, .unset, .unset, .unset, .unset] [(.long x1)])) rfl (hb hby at_11)) ?_
  show own_G p e below s (own_Q0 n0) 0 0 (s₁.setTop (mkF m 14 #[.val (.long x0), .second, .val (.long x1), .second, .val (.long x2), .second, .val (.long x3), .second, .val (.long x4), .second, .val (.int x5), .val (.long sS), .second, .unset, .unset, .unset, .unset, .unset, .unset, .unset, .unset, .unset, .unset, .unset] [(.long (9223372036854775807 : Int64)), (.long x1)]))
  refine own_go (fun t k => XT.land X0.here hx rfl (hb hby at_14) rfl k) ?_
  show own_G p e below s (own_Q0 n0) 0 0 (s₁.setTop (mkF m 15 #[.val (.long x0), .second, .val (.long x1), .second, .val (.long x2), .second, .val (.long x3), .second, .val (.long x4), .second, .val (.int x5), .val (.long sS), .second, .unset, .unset, .unset, .unset, .unset, .unset, .unset, .unset, .unset, .unset, .unset] [(.long (x1 &&& (9223372036854775807 : Int64)))]))
  refine own_go (fun t k => XT.lload X0.here hx rfl (hb hby at_15) rfl k) ?_
  show own_G p e below s (own_Q0 n0) 0 0 (s₁.setTop (mkF m 17 #[.val (.long x0), .second, .val (.long x1), .second, .val (.long x2), .second, .val (.long x3), .second, .val (.long x4), .second, .val (.int x5), .val (.long sS), .second, .unset, .unset, .unset, .unset, .unset, .unset, .unset, .unset, .unset, .unset, .unset] [(.long sS), (.long (x1 &&& (9223372036854775807 : Int64)))]))
  refine own_go (fun t k => XT.lrem X0.here hx rfl (hb hby at_17) rfl hs0 k) ?_
  show own_G p e below s (own_Q0 n0) 0 0 (s₁.setTop (mkF m 18 #[.val (.long x0), .second, .val (.long x1), .second, .val (.long x2), .second, .val (.long x3), .second, .val (.long x4), .second, .val (.int x5), .val (.long sS), .second, .unset, .unset, .unset, .unset, .unset, .unset, .unset, .unset, .unset, .unset, .unset] [(.long ((x1 &&& (9223372036854775807 : Int64)) - ((x1 &&& (9223372036854775807 : Int64)) / sS) * sS))]))
  refine own_go (fun t k => XT.lstore X0.here hx rfl (hb hby at_18) rfl (l' := #[.val (.long x0), .second, .val (.long x1), .second, .val (.long x2), .second, .val (.long x3), .second, .val (.long x4), .second, .val (.int x5), .val (.long sS), .second, .val (.long ((x1 &&& (9223372036854775807 : Int64)) - ((x1 &&& (9223372036854775807 : Int64)) / sS) * sS)), .second, .unset, .unset, .unset, .unset, .unset, .unset, .unset, .unset, .unset]) rfl k) ?_
  show own_G p e below s (own_Q0 n0) 0 0 (s₁.setTop (mkF m 20 #[.val (.long x0), .second, .val (.long x1), .second, .val (.long x2), .second, .val (.long x3), .second, .val (.long x4), .second, .val (.int x5), .val (.long sS), .second, .val (.long ((x1 &&& (9223372036854775807 : Int64)) - ((x1 &&& (9223372036854775807 : Int64)) / sS) * sS)), .second, .unset, .unset, .unset, .unset, .unset, .unset, .unset, .unset, .unset] []))
  suffices own_n_a : ∀ a : Int64, a = ((x1 &&& (9223372036854775807 : Int64)) - ((x1 &&& (9223372036854775807 : Int64)) / sS) * sS) → own_G p e below s (own_Q0 n0) 0 0 (s₁.setTop (mkF m 20 #[.val (.long x0), .second, .val (.long x1), .second, .val (.long x2), .second, .val (.long x3), .second, .val (.long x4), .second, .val (.int x5), .val (.long sS), .second, .val (.long a), .second, .unset, .unset, .unset, .unset, .unset, .unset, .unset, .unset, .unset] [])) from own_n_a _ rfl
  intro a h_a
  have J58 : ∀ (o b : Int64), own_G p e below s (own_Q0 n0) 0 0 (s₁.setTop (mkF m 58 #[.val (.long x0), .second, .val (.long x1), .second, .val (.long x2), .second, .val (.long x3), .second, .val (.long x4), .second, .val (.int x5), .val (.long sS), .second, .val (.long a), .second, .val (.long o), .second, .val (.long b), .second, .unset, .unset, .unset, .unset, .unset] [])) := by
    intro o b
    refine own_go (fun t k => XT.lloadN X0.here hx rfl (hb hby at_58) rfl k) ?_
    show own_G p e below s (own_Q0 n0) 0 0 (s₁.setTop (mkF m 59 #[.val (.long x0), .second, .val (.long x1), .second, .val (.long x2), .second, .val (.long x3), .second, .val (.long x4), .second, .val (.int x5), .val (.long sS), .second, .val (.long a), .second, .val (.long o), .second, .val (.long b), .second, .unset, .unset, .unset, .unset, .unset] [(.long x0)]))
    refine own_go (fun t k => XT.lload X0.here hx rfl (hb hby at_59) rfl k) ?_
    show own_G p e below s (own_Q0 n0) 0 0 (s₁.setTop (mkF m 61 #[.val (.long x0), .second, .val (.long x1), .second, .val (.long x2), .second, .val (.long x3), .second, .val (.long x4), .second, .val (.int x5), .val (.long sS), .second, .val (.long a), .second, .val (.long o), .second, .val (.long b), .second, .unset, .unset, .unset, .unset, .unset] [(.long a), (.long x0)]))
    refine own_go (fun t k => XT.lload X0.here hx rfl (hb hby at_61) rfl k) ?_
    show own_G p e below s (own_Q0 n0) 0 0 (s₁.setTop (mkF m 63 #[.val (.long x0), .second, .val (.long x1), .second, .val (.long x2), .second, .val (.long x3), .second, .val (.long x4), .second, .val (.int x5), .val (.long sS), .second, .val (.long a), .second, .val (.long o), .second, .val (.long b), .second, .unset, .unset, .unset, .unset, .unset] [(.long o), (.long a), (.long x0)]))
    refine own_go (fun t k => XT.lload X0.here hx rfl (hb hby at_63) rfl k) ?_
    show own_G p e below s (own_Q0 n0) 0 0 (s₁.setTop (mkF m 65 #[.val (.long x0), .second, .val (.long x1), .second, .val (.long x2), .second, .val (.long x3), .second, .val (.long x4), .second, .val (.int x5), .val (.long sS), .second, .val (.long a), .second, .val (.long o), .second, .val (.long b), .second, .unset, .unset, .unset, .unset, .unset] [(.long b), (.long o), (.long a), (.long x0)]))
    obtain ⟨_, _, ⟨T101, L101, k101, n101⟩, -, X101, ⟨Lc101, hQ101, l101, y101, z101⟩, st101⟩ := Jvm.LawKit.callS X0 hx (y := (⟨"com/example/oyster/oyster/store/PermitTime", "atLeast", "(JJJJ)Z"⟩ : MethodName)) hown (mvT hZ (hw _ (List.mem_of_getElem? (i := 2) rfl))) (mvT hZ (hw _ (List.mem_of_getElem? (i := 3) rfl))) (mvT hZ (hw _ (List.mem_of_getElem? (i := 4) rfl))) (mvT hZ (hw _ (List.mem_of_getElem? (i := 5) rfl))) (by decide) (backOf (W := 0) (rm1 l Z a0 hw [] x0 a o b h0) hZ (hw _ (List.mem_of_getElem? (i := 5) rfl)) (hw _ (List.mem_of_getElem? (i := 4) rfl)) (by decide) (by decide)) (g := (mkF m 65 #[.val (.long x0), .second, .val (.long x1), .second, .val (.long x2), .second, .val (.long x3), .second, .val (.long x4), .second, .val (.int x5), .val (.long sS), .second, .val (.long a), .second, .val (.long o), .second, .val (.long b), .second, .unset, .unset, .unset, .unset, .unset] [(.long b), (.long o), (.long a), (.long x0)])) rfl (by rw [hml]; rfl) (argsL := [(.long x0), (.long a), (.long o), (.long b)]) (rest := []) (lenOf pd1 rfl) rfl (by show 2 * 0 + _ ≤ _; exact Nat.le_of_eq rfl) (hb hby at_65) (fun _ _ => ⟨rfl, e0, (by decide : 0 + 0 ≤ _), (by decide : 0 + 0 ≤ _)⟩)
    dsimp only [Pt.U, Pt.locs, Pt.cells, Pt.slots] at X101 l101 y101 z101 st101 hQ101
    subst l101 y101 z101
    obtain ⟨rfl, rfl, e101⟩ := hQ101
    refine own_go (st101) ?_
    show own_G p e below s (own_Q0 n0) 0 0 (T101.setTop (mkF m 68 #[.val (.long x0), .second, .val (.long x1), .second, .val (.long x2), .second, .val (.long x3), .second, .val (.long x4), .second, .val (.int x5), .val (.long sS), .second, .val (.long a), .second, .val (.long o), .second, .val (.long b), .second, .unset, .unset, .unset, .unset, .unset] [(.int (own_al x0 a o b))]))
    refine own_go (fun t k => XS.istore X101.here hx rfl (hb hby at_68) rfl (l' := #[.val (.long x0), .second, .val (.long x1), .second, .val (.long x2), .second, .val (.long x3), .second, .val (.long x4), .second, .val (.int x5), .val (.long sS), .second, .val (.long a), .second, .val (.long o), .second, .val (.long b), .second, .val (.int (own_al x0 a o b)), .unset, .unset, .unset, .unset]) rfl k) ?_
    show own_G p e below s (own_Q0 n0) 0 0 (T101.setTop (mkF m 70 #[.val (.long x0), .second, .val (.long x1), .second, .val (.long x2), .second, .val (.long x3), .second, .val (.long x4), .second, .val (.int x5), .val (.long sS), .second, .val (.long a), .second, .val (.long o), .second, .val (.long b), .second, .val (.int (own_al x0 a o b)), .unset, .unset, .unset, .unset] []))
    refine own_go (fun t k => XT.lload X101.here hx rfl (hb hby at_70) rfl k) ?_
    show own_G p e below s (own_Q0 n0) 0 0 (T101.setTop (mkF m 72 #[.val (.long x0), .second, .val (.long x1), .second, .val (.long x2), .second, .val (.long x3), .second, .val (.long x4), .second, .val (.int x5), .val (.long sS), .second, .val (.long a), .second, .val (.long o), .second, .val (.long b), .second, .val (.int (own_al x0 a o b)), .unset, .unset, .unset, .unset] [(.long o)]))
    refine own_go (fun t k => XT.lload X101.here hx rfl (hb hby at_72) rfl k) ?_
    show own_G p e below s (own_Q0 n0) 0 0 (T101.setTop (mkF m 74 #[.val (.long x0), .second, .val (.long x1), .second, .val (.long x2), .second, .val (.long x3), .second, .val (.long x4), .second, .val (.int x5), .val (.long sS), .second, .val (.long a), .second, .val (.long o), .second, .val (.long b), .second, .val (.int (own_al x0 a o b)), .unset, .unset, .unset, .unset] [(.long b), (.long o)]))
    refine own_go (fun t k => XT.lloadN X101.here hx rfl (hb hby at_74) rfl k) ?_
    show own_G p e below s (own_Q0 n0) 0 0 (T101.setTop (mkF m 75 #[.val (.long x0), .second, .val (.long x1), .second, .val (.long x2), .second, .val (.long x3), .second, .val (.long x4), .second, .val (.int x5), .val (.long sS), .second, .val (.long a), .second, .val (.long o), .second, .val (.long b), .second, .val (.int (own_al x0 a o b)), .unset, .unset, .unset, .unset] [(.long x0), (.long b), (.long o)]))
    refine own_go (fun t k => XT.lload X101.here hx rfl (hb hby at_75) rfl k) ?_
    show own_G p e below s (own_Q0 n0) 0 0 (T101.setTop (mkF m 77 #[.val (.long x0), .second, .val (.long x1), .second, .val (.long x2), .second, .val (.long x3), .second, .val (.long x4), .second, .val (.int x5), .val (.long sS), .second, .val (.long a), .second, .val (.long o), .second, .val (.long b), .second, .val (.int (own_al x0 a o b)), .unset, .unset, .unset, .unset] [(.long a), (.long x0), (.long b), (.long o)]))
    obtain ⟨_, _, ⟨T102, L102, k102, n102⟩, -, X102, ⟨Lc102, hQ102, l102, y102, z102⟩, st102⟩ := Jvm.LawKit.callS X101 hx (y := (⟨"com/example/oyster/oyster/store/PermitTime", "atLeast", "(JJJJ)Z"⟩ : MethodName)) hown (mvT hZ (hw _ (List.mem_of_getElem? (i := 2) rfl))) (mvT hZ (hw _ (List.mem_of_getElem? (i := 3) rfl))) (mvT hZ (hw _ (List.mem_of_getElem? (i := 4) rfl))) (mvT hZ (hw _ (List.mem_of_getElem? (i := 5) rfl))) (by decide) (backOf (W := 0) (rm1 l Z a0 hw [] o b x0 a h0) hZ (hw _ (List.mem_of_getElem? (i := 5) rfl)) (hw _ (List.mem_of_getElem? (i := 4) rfl)) (by decide) (by decide)) (g := (mkF m 77 #[.val (.long x0), .second, .val (.long x1), .second, .val (.long x2), .second, .val (.long x3), .second, .val (.long x4), .second, .val (.int x5), .val (.long sS), .second, .val (.long a), .second, .val (.long o), .second, .val (.long b), .second, .val (.int (own_al x0 a o b)), .unset, .unset, .unset, .unset] [(.long a), (.long x0), (.long b), (.long o)])) rfl (by rw [hml]; rfl) (argsL := [(.long o), (.long b), (.long x0), (.long a)]) (rest := []) (lenOf pd1 rfl) rfl (by show 2 * 0 + _ ≤ _; exact Nat.le_of_eq rfl) (hb hby at_77) (fun _ _ => ⟨rfl, e101, (by decide : 0 + 0 ≤ _), (by decide : 0 + 0 ≤ _)⟩)
    dsimp only [Pt.U, Pt.locs, Pt.cells, Pt.slots] at X102 l102 y102 z102 st102 hQ102
    subst l102 y102 z102
    obtain ⟨rfl, rfl, e102⟩ := hQ102
    refine own_go (st102) ?_
    show own_G p e below s (own_Q0 n0) 0 0 (T102.setTop (mkF m 80 #[.val (.long x0), .second, .val (.long x1), .second, .val (.long x2), .second, .val (.long x3), .second, .val (.long x4), .second, .val (.int x5), .val (.long sS), .second, .val (.long a), .second, .val (.long o), .second, .val (.long b), .second, .val (.int (own_al x0 a o b)), .unset, .unset, .unset, .unset] [(.int (own_al o b x0 a))]))
    refine own_go (fun t k => XS.istore X102.here hx rfl (hb hby at_80) rfl (l' := #[.val (.long x0), .second, .val (.long x1), .second, .val (.long x2), .second, .val (.long x3), .second, .val (.long x4), .second, .val (.int x5), .val (.long sS), .second, .val (.long a), .second, .val (.long o), .second, .val (.long b), .second, .val (.int (own_al x0 a o b)), .val (.int (own_al o b x0 a)), .unset, .unset, .unset]) rfl k) ?_
    show own_G p e below s (own_Q0 n0) 0 0 (T102.setTop (mkF m 82 #[.val (.long x0), .second, .val (.long x1), .second, .val (.long x2), .second, .val (.long x3), .second, .val (.long x4), .second, .val (.int x5), .val (.long sS), .second, .val (.long a), .second, .val (.long o), .second, .val (.long b), .second, .val (.int (own_al x0 a o b)), .val (.int (own_al o b x0 a)), .unset, .unset, .unset] []))
    refine own_go (fun t k => XT.lloadN X102.here hx rfl (hb hby at_82) rfl k) ?_
    show own_G p e below s (own_Q0 n0) 0 0 (T102.setTop (mkF m 83 #[.val (.long x0), .second, .val (.long x1), .second, .val (.long x2), .second, .val (.long x3), .second, .val (.long x4), .second, .val (.int x5), .val (.long sS), .second, .val (.long a), .second, .val (.long o), .second, .val (.long b), .second, .val (.int (own_al x0 a o b)), .val (.int (own_al o b x0 a)), .unset, .unset, .unset] [(.long x0)]))
    refine own_go (fun t k => XT.lload X102.here hx rfl (hb hby at_83) rfl k) ?_
    show own_G p e below s (own_Q0 n0) 0 0 (T102.setTop (mkF m 85 #[.val (.long x0), .second, .val (.long x1), .second, .val (.long x2), .second, .val (.long x3), .second, .val (.long x4), .second, .val (.int x5), .val (.long sS), .second, .val (.long a), .second, .val (.long o), .second, .val (.long b), .second, .val (.int (own_al x0 a o b)), .val (.int (own_al o b x0 a)), .unset, .unset, .unset] [(.long a), (.long x0)]))
    refine own_go (fun t k => XT.lloadN X102.here hx rfl (hb hby at_85) rfl k) ?_
    show own_G p e below s (own_Q0 n0) 0 0 (T102.setTop (mkF m 86 #[.val (.long x0), .second, .val (.long x1), .second, .val (.long x2), .second, .val (.long x3), .second, .val (.long x4), .second, .val (.int x5), .val (.long sS), .second, .val (.long a), .second, .val (.long o), .second, .val (.long b), .second, .val (.int (own_al x0 a o b)), .val (.int (own_al o b x0 a)), .unset, .unset, .unset] [(.long x0), (.long a), (.long x0)]))
    refine own_go (fun t k => XT.lload X102.here hx rfl (hb hby at_86) rfl k) ?_
    show own_G p e below s (own_Q0 n0) 0 0 (T102.setTop (mkF m 88 #[.val (.long x0), .second, .val (.long x1), .second, .val (.long x2), .second, .val (.long x3), .second, .val (.long x4), .second, .val (.int x5), .val (.long sS), .second, .val (.long a), .second, .val (.long o), .second, .val (.long b), .second, .val (.int (own_al x0 a o b)), .val (.int (own_al o b x0 a)), .unset, .unset, .unset] [(.long a), (.long x0), (.long a), (.long x0)]))
    obtain ⟨_, _, ⟨T103, L103, k103, n103⟩, -, X103, ⟨Lc103, hQ103, l103, y103, z103⟩, st103⟩ := Jvm.LawKit.callS X102 hx (y := (⟨"com/example/oyster/oyster/store/PermitTime", "atLeast", "(JJJJ)Z"⟩ : MethodName)) hown (mvT hZ (hw _ (List.mem_of_getElem? (i := 2) rfl))) (mvT hZ (hw _ (List.mem_of_getElem? (i := 3) rfl))) (mvT hZ (hw _ (List.mem_of_getElem? (i := 4) rfl))) (mvT hZ (hw _ (List.mem_of_getElem? (i := 5) rfl))) (by decide) (backOf (W := 0) (rm1 l Z a0 hw [] x0 a x0 a h0) hZ (hw _ (List.mem_of_getElem? (i := 5) rfl)) (hw _ (List.mem_of_getElem? (i := 4) rfl)) (by decide) (by decide)) (g := (mkF m 88 #[.val (.long x0), .second, .val (.long x1), .second, .val (.long x2), .second, .val (.long x3), .second, .val (.long x4), .second, .val (.int x5), .val (.long sS), .second, .val (.long a), .second, .val (.long o), .second, .val (.long b), .second, .val (.int (own_al x0 a o b)), .val (.int (own_al o b x0 a)), .unset, .unset, .unset] [(.long a), (.long x0), (.long a), (.long x0)])) rfl (by rw [hml]; rfl) (argsL := [(.long x0), (.long a), (.long x0), (.long a)]) (rest := []) (lenOf pd1 rfl) rfl (by show 2 * 0 + _ ≤ _; exact Nat.le_of_eq rfl) (hb hby at_88) (fun _ _ => ⟨rfl, e102, (by decide : 0 + 0 ≤ _), (by decide : 0 + 0 ≤ _)⟩)
    dsimp only [Pt.U, Pt.locs, Pt.cells, Pt.slots] at X103 l103 y103 z103 st103 hQ103
    subst l103 y103 z103
    obtain ⟨rfl, rfl, e103⟩ := hQ103
    refine own_go (st103) ?_
    show own_G p e below s (own_Q0 n0) 0 0 (T103.setTop (mkF m 91 #[.val (.long x0), .second, .val (.long x1), .second, .val (.long x2), .second, .val (.long x3), .second, .val (.long x4), .second, .val (.int x5), .val (.long sS), .second, .val (.long a), .second, .val (.long o), .second, .val (.long b), .second, .val (.int (own_al x0 a o b)), .val (.int (own_al o b x0 a)), .unset, .unset, .unset] [(.int (own_al x0 a x0 a))]))
    refine own_go (fun t k => XS.istore X103.here hx rfl (hb hby at_91) rfl (l' := #[.val (.long x0), .second, .val (.long x1), .second, .val (.long x2), .second, .val (.long x3), .second, .val (.long x4), .second, .val (.int x5), .val (.long sS), .second, .val (.long a), .second, .val (.long o), .second, .val (.long b), .second, .val (.int (own_al x0 a o b)), .val (.int (own_al o b x0 a)), .val (.int (own_al x0 a x0 a)), .unset, .unset]) rfl k) ?_
    show own_G p e below s (own_Q0 n0) 0 0 (T103.setTop (mkF m 93 #[.val (.long x0), .second, .val (.long x1), .second, .val (.long x2), .second, .val (.long x3), .second, .val (.long x4), .second, .val (.int x5), .val (.long sS), .second, .val (.long a), .second, .val (.long o), .second, .val (.long b), .second, .val (.int (own_al x0 a o b)), .val (.int (own_al o b x0 a)), .val (.int (own_al x0 a x0 a)), .unset, .unset] []))
    have J156 : ∀ (sm ex : Int32) (hsm : own_same x0 a o b = sm) (hex : own_al x0 a o b = ex), own_G p e below s (own_Q0 n0) 0 0 (T103.setTop (mkF m 156 #[.val (.long x0), .second, .val (.long x1), .second, .val (.long x2), .second, .val (.long x3), .second, .val (.long x4), .second, .val (.int x5), .val (.long sS), .second, .val (.long a), .second, .val (.long o), .second, .val (.long b), .second, .val (.int (own_al x0 a o b)), .val (.int (own_al o b x0 a)), .val (.int (own_al x0 a x0 a)), .val (.int sm), .val (.int ex)] [])) := by
      intro sm ex hsm hex
      refine own_go (fun t k => XS.iload X103.here hx rfl (hb hby at_156) rfl k) ?_
      show own_G p e below s (own_Q0 n0) 0 0 (T103.setTop (mkF m 158 #[.val (.long x0), .second, .val (.long x1), .second, .val (.long x2), .second, .val (.long x3), .second, .val (.long x4), .second, .val (.int x5), .val (.long sS), .second, .val (.long a), .second, .val (.long o), .second, .val (.long b), .second, .val (.int (own_al x0 a o b)), .val (.int (own_al o b x0 a)), .val (.int (own_al x0 a x0 a)), .val (.int sm), .val (.int ex)] [(.int (own_al x0 a o b))]))
      refine own_go (fun t k => XS.iload X103.here hx rfl (hb hby at_158) rfl k) ?_
      show own_G p e below s (own_Q0 n0) 0 0 (T103.setTop (mkF m 160 #[.val (.long x0), .second, .val (.long x1), .second, .val (.long x2), .second, .val (.long x3), .second, .val (.long x4), .second, .val (.int x5), .val (.long sS), .second, .val (.long a), .second, .val (.long o), .second, .val (.long b), .second, .val (.int (own_al x0 a o b)), .val (.int (own_al o b x0 a)), .val (.int (own_al x0 a x0 a)), .val (.int sm), .val (.int ex)] [(.int ex), (.int (own_al x0 a o b))]))
      refine own_go (fun t k => XS.icmpNo X103.here hx rfl (hb hby at_160) rfl (XT.ii_ne_f hex) k) ?_
      show own_G p e below s (own_Q0 n0) 0 0 (T103.setTop (mkF m 163 #[.val (.long x0), .second, .val (.long x1), .second, .val (.long x2), .second, .val (.long x3), .second, .val (.long x4), .second, .val (.int x5), .val (.long sS), .second, .val (.long a), .second, .val (.long o), .second, .val (.long b), .second, .val (.int (own_al x0 a o b)), .val (.int (own_al o b x0 a)), .val (.int (own_al x0 a x0 a)), .val (.int sm), .val (.int ex)] []))
      refine own_go (fun t k => XS.iload X103.here hx rfl (hb hby at_163) rfl k) ?_
      show own_G p e below s (own_Q0 n0) 0 0 (T103.setTop (mkF m 165 #[.val (.long x0), .second, .val (.long x1), .second, .val (.long x2), .second, .val (.long x3), .second, .val (.long x4), .second, .val (.int x5), .val (.long sS), .second, .val (.long a), .second, .val (.long o), .second, .val (.long b), .second, .val (.int (own_al x0 a o b)), .val (.int (own_al o b x0 a)), .val (.int (own_al x0 a x0 a)), .val (.int sm), .val (.int ex)] [(.int (own_al x0 a x0 a))]))
      refine own_go (fun t k => XS.ifNo X103.here hx rfl (hb hby at_165) rfl (XT.i0_eq_f (own_al_self x0 a)) k) ?_
      show own_G p e below s (own_Q0 n0) 0 0 (T103.setTop (mkF m 168 #[.val (.long x0), .second, .val (.long x1), .second, .val (.long x2), .second, .val (.long x3), .second, .val (.long x4), .second, .val (.int x5), .val (.long sS), .second, .val (.long a), .second, .val (.long o), .second, .val (.long b), .second, .val (.int (own_al x0 a o b)), .val (.int (own_al o b x0 a)), .val (.int (own_al x0 a x0 a)), .val (.int sm), .val (.int ex)] []))
      refine own_go (fun t k => XS.iload X103.here hx rfl (hb hby at_168) rfl k) ?_
      show own_G p e below s (own_Q0 n0) 0 0 (T103.setTop (mkF m 170 #[.val (.long x0), .second, .val (.long x1), .second, .val (.long x2), .second, .val (.long x3), .second, .val (.long x4), .second, .val (.int x5), .val (.long sS), .second, .val (.long a), .second, .val (.long o), .second, .val (.long b), .second, .val (.int (own_al x0 a o b)), .val (.int (own_al o b x0 a)), .val (.int (own_al x0 a x0 a)), .val (.int sm), .val (.int ex)] [(.int (own_al x0 a o b))]))
      by_cases h1 : own_al x0 a o b = (0 : Int32)
      · skip
        refine own_go (fun t k => XS.ifNo X103.here hx rfl (hb hby at_170) rfl (XT.i0_ne_f h1) k) ?_
        show own_G p e below s (own_Q0 n0) 0 0 (T103.setTop (mkF m 173 #[.val (.long x0), .second, .val (.long x1), .second, .val (.long x2), .second, .val (.long x3), .second, .val (.long x4), .second, .val (.int x5), .val (.long sS), .second, .val (.long a), .second, .val (.long o), .second, .val (.long b), .second, .val (.int (own_al x0 a o b)), .val (.int (own_al o b x0 a)), .val (.int (own_al x0 a x0 a)), .val (.int sm), .val (.int ex)] []))
        refine own_go (fun t k => XS.iload X103.here hx rfl (hb hby at_173) rfl k) ?_
        show own_G p e below s (own_Q0 n0) 0 0 (T103.setTop (mkF m 175 #[.val (.long x0), .second, .val (.long x1), .second, .val (.long x2), .second, .val (.long x3), .second, .val (.long x4), .second, .val (.int x5), .val (.long sS), .second, .val (.long a), .second, .val (.long o), .second, .val (.long b), .second, .val (.int (own_al x0 a o b)), .val (.int (own_al o b x0 a)), .val (.int (own_al x0 a x0 a)), .val (.int sm), .val (.int ex)] [(.int (own_al o b x0 a))]))
        refine own_go (fun t k => XS.ifNo X103.here hx rfl (hb hby at_175) rfl (XT.i0_eq_f (own_al_tot h1)) k) ?_
        show own_G p e below s (own_Q0 n0) 0 0 (T103.setTop (mkF m 178 #[.val (.long x0), .second, .val (.long x1), .second, .val (.long x2), .second, .val (.long x3), .second, .val (.long x4), .second, .val (.int x5), .val (.long sS), .second, .val (.long a), .second, .val (.long o), .second, .val (.long b), .second, .val (.int (own_al x0 a o b)), .val (.int (own_al o b x0 a)), .val (.int (own_al x0 a x0 a)), .val (.int sm), .val (.int ex)] []))
        refine own_go (fun t k => XS.iload X103.here hx rfl (hb hby at_178) rfl k) ?_
        show own_G p e below s (own_Q0 n0) 0 0 (T103.setTop (mkF m 180 #[.val (.long x0), .second, .val (.long x1), .second, .val (.long x2), .second, .val (.long x3), .second, .val (.long x4), .second, .val (.int x5), .val (.long sS), .second, .val (.long a), .second, .val (.long o), .second, .val (.long b), .second, .val (.int (own_al x0 a o b)), .val (.int (own_al o b x0 a)), .val (.int (own_al x0 a x0 a)), .val (.int sm), .val (.int ex)] [(.int (own_al x0 a o b))]))
        refine own_go (fun t k => XS.ifYes X103.here hx rfl (pc0 := 180) (pc' := 192) rfl (hb hby at_180) rfl (XT.i0_eq_t h1) (by decide) (by decide) k) ?_
        show own_G p e below s (own_Q0 n0) 0 0 (T103.setTop (mkF m 192 #[.val (.long x0), .second, .val (.long x1), .second, .val (.long x2), .second, .val (.long x3), .second, .val (.long x4), .second, .val (.int x5), .val (.long sS), .second, .val (.long a), .second, .val (.long o), .second, .val (.long b), .second, .val (.int (own_al x0 a o b)), .val (.int (own_al o b x0 a)), .val (.int (own_al x0 a x0 a)), .val (.int sm), .val (.int ex)] []))
        refine own_go (fun t k => XS.iconst X103.here hx rfl (hb hby at_192) k) ?_
        show own_G p e below s (own_Q0 n0) 0 0 (T103.setTop (mkF m 193 #[.val (.long x0), .second, .val (.long x1), .second, .val (.long x2), .second, .val (.long x3), .second, .val (.long x4), .second, .val (.int x5), .val (.long sS), .second, .val (.long a), .second, .val (.long o), .second, .val (.long b), .second, .val (.int (own_al x0 a o b)), .val (.int (own_al o b x0 a)), .val (.int (own_al x0 a x0 a)), .val (.int sm), .val (.int ex)] [(.int (0 : Int32))]))
        refine own_go (fun t k => XS.iload X103.here hx rfl (hb hby at_193) rfl k) ?_
        show own_G p e below s (own_Q0 n0) 0 0 (T103.setTop (mkF m 195 #[.val (.long x0), .second, .val (.long x1), .second, .val (.long x2), .second, .val (.long x3), .second, .val (.long x4), .second, .val (.int x5), .val (.long sS), .second, .val (.long a), .second, .val (.long o), .second, .val (.long b), .second, .val (.int (own_al x0 a o b)), .val (.int (own_al o b x0 a)), .val (.int (own_al x0 a x0 a)), .val (.int sm), .val (.int ex)] [(.int sm), (.int (0 : Int32))]))
        refine own_go (fun t k => XS.icmpNo X103.here hx rfl (hb hby at_195) rfl (XT.ii_ne_f (hsm ▸ own_same_r h1)) k) ?_
        show own_G p e below s (own_Q0 n0) 0 0 (T103.setTop (mkF m 198 #[.val (.long x0), .second, .val (.long x1), .second, .val (.long x2), .second, .val (.long x3), .second, .val (.long x4), .second, .val (.int x5), .val (.long sS), .second, .val (.long a), .second, .val (.long o), .second, .val (.long b), .second, .val (.int (own_al x0 a o b)), .val (.int (own_al o b x0 a)), .val (.int (own_al x0 a x0 a)), .val (.int sm), .val (.int ex)] []))
        refine own_go (fun t k => XS.iconst X103.here hx rfl (hb hby at_198) k) ?_
        show own_G p e below s (own_Q0 n0) 0 0 (T103.setTop (mkF m 199 #[.val (.long x0), .second, .val (.long x1), .second, .val (.long x2), .second, .val (.long x3), .second, .val (.long x4), .second, .val (.int x5), .val (.long sS), .second, .val (.long a), .second, .val (.long o), .second, .val (.long b), .second, .val (.int (own_al x0 a o b)), .val (.int (own_al o b x0 a)), .val (.int (own_al x0 a x0 a)), .val (.int sm), .val (.int ex)] [(.int (1 : Int32))]))
        refine own_go (fun t k => XS.goto X103.here hx rfl (pc0 := 199) (pc' := 203) rfl (hb hby at_199) (by decide) (by decide) k) ?_
        show own_G p e below s (own_Q0 n0) 0 0 (T103.setTop (mkF m 203 #[.val (.long x0), .second, .val (.long x1), .second, .val (.long x2), .second, .val (.long x3), .second, .val (.long x4), .second, .val (.int x5), .val (.long sS), .second, .val (.long a), .second, .val (.long o), .second, .val (.long b), .second, .val (.int (own_al x0 a o b)), .val (.int (own_al o b x0 a)), .val (.int (own_al x0 a x0 a)), .val (.int sm), .val (.int ex)] [(.int (1 : Int32))]))
        exact own_leave X103 (some (.int (1 : Int32))) (fun h => by rw [Bd.returns] at h; cases h) Bd.notSynchronized (fun fs hr => retN X103 hx (t := .boolean) Bd.returns (by simp) (hb hby at_203) hr) ⟨rfl, (Fr.app (Fr.app (Fr.app (Fr.nil n0) (Fr.nil n0)) (Fr.nil n0)) (Fr.nil n0))⟩ (by decide) (by decide)
      · skip
        refine own_go (fun t k => XS.ifYes X103.here hx rfl (pc0 := 170) (pc' := 178) rfl (hb hby at_170) rfl (XT.i0_ne_t h1) (by decide) (by decide) k) ?_
        show own_G p e below s (own_Q0 n0) 0 0 (T103.setTop (mkF m 178 #[.val (.long x0), .second, .val (.long x1), .second, .val (.long x2), .second, .val (.long x3), .second, .val (.long x4), .second, .val (.int x5), .val (.long sS), .second, .val (.long a), .second, .val (.long o), .second, .val (.long b), .second, .val (.int (own_al x0 a o b)), .val (.int (own_al o b x0 a)), .val (.int (own_al x0 a x0 a)), .val (.int sm), .val (.int ex)] []))
        refine own_go (fun t k => XS.iload X103.here hx rfl (hb hby at_178) rfl k) ?_
        show own_G p e below s (own_Q0 n0) 0 0 (T103.setTop (mkF m 180 #[.val (.long x0), .second, .val (.long x1), .second, .val (.long x2), .second, .val (.long x3), .second, .val (.long x4), .second, .val (.int x5), .val (.long sS), .second, .val (.long a), .second, .val (.long o), .second, .val (.long b), .second, .val (.int (own_al x0 a o b)), .val (.int (own_al o b x0 a)), .val (.int (own_al x0 a x0 a)), .val (.int sm), .val (.int ex)] [(.int (own_al x0 a o b))]))
        refine own_go (fun t k => XS.ifNo X103.here hx rfl (hb hby at_180) rfl (XT.i0_eq_f h1) k) ?_
        show own_G p e below s (own_Q0 n0) 0 0 (T103.setTop (mkF m 183 #[.val (.long x0), .second, .val (.long x1), .second, .val (.long x2), .second, .val (.long x3), .second, .val (.long x4), .second, .val (.int x5), .val (.long sS), .second, .val (.long a), .second, .val (.long o), .second, .val (.long b), .second, .val (.int (own_al x0 a o b)), .val (.int (own_al o b x0 a)), .val (.int (own_al x0 a x0 a)), .val (.int sm), .val (.int ex)] []))
        refine own_go (fun t k => XS.iload X103.here hx rfl (hb hby at_183) rfl k) ?_
        show own_G p e below s (own_Q0 n0) 0 0 (T103.setTop (mkF m 185 #[.val (.long x0), .second, .val (.long x1), .second, .val (.long x2), .second, .val (.long x3), .second, .val (.long x4), .second, .val (.int x5), .val (.long sS), .second, .val (.long a), .second, .val (.long o), .second, .val (.long b), .second, .val (.int (own_al x0 a o b)), .val (.int (own_al o b x0 a)), .val (.int (own_al x0 a x0 a)), .val (.int sm), .val (.int ex)] [(.int (own_al o b x0 a))]))
        by_cases h2 : own_al o b x0 a = (0 : Int32)
        · skip
          refine own_go (fun t k => XS.ifYes X103.here hx rfl (pc0 := 185) (pc' := 192) rfl (hb hby at_185) rfl (XT.i0_eq_t h2) (by decide) (by decide) k) ?_
          show own_G p e below s (own_Q0 n0) 0 0 (T103.setTop (mkF m 192 #[.val (.long x0), .second, .val (.long x1), .second, .val (.long x2), .second, .val (.long x3), .second, .val (.long x4), .second, .val (.int x5), .val (.long sS), .second, .val (.long a), .second, .val (.long o), .second, .val (.long b), .second, .val (.int (own_al x0 a o b)), .val (.int (own_al o b x0 a)), .val (.int (own_al x0 a x0 a)), .val (.int sm), .val (.int ex)] []))
          refine own_go (fun t k => XS.iconst X103.here hx rfl (hb hby at_192) k) ?_
          show own_G p e below s (own_Q0 n0) 0 0 (T103.setTop (mkF m 193 #[.val (.long x0), .second, .val (.long x1), .second, .val (.long x2), .second, .val (.long x3), .second, .val (.long x4), .second, .val (.int x5), .val (.long sS), .second, .val (.long a), .second, .val (.long o), .second, .val (.long b), .second, .val (.int (own_al x0 a o b)), .val (.int (own_al o b x0 a)), .val (.int (own_al x0 a x0 a)), .val (.int sm), .val (.int ex)] [(.int (0 : Int32))]))
          refine own_go (fun t k => XS.iload X103.here hx rfl (hb hby at_193) rfl k) ?_
          show own_G p e below s (own_Q0 n0) 0 0 (T103.setTop (mkF m 195 #[.val (.long x0), .second, .val (.long x1), .second, .val (.long x2), .second, .val (.long x3), .second, .val (.long x4), .second, .val (.int x5), .val (.long sS), .second, .val (.long a), .second, .val (.long o), .second, .val (.long b), .second, .val (.int (own_al x0 a o b)), .val (.int (own_al o b x0 a)), .val (.int (own_al x0 a x0 a)), .val (.int sm), .val (.int ex)] [(.int sm), (.int (0 : Int32))]))
          refine own_go (fun t k => XS.icmpNo X103.here hx rfl (hb hby at_195) rfl (XT.ii_ne_f (hsm ▸ own_same_b h2)) k) ?_
          show own_G p e below s (own_Q0 n0) 0 0 (T103.setTop (mkF m 198 #[.val (.long x0), .second, .val (.long x1), .second, .val (.long x2), .second, .val (.long x3), .second, .val (.long x4), .second, .val (.int x5), .val (.long sS), .second, .val (.long a), .second, .val (.long o), .second, .val (.long b), .second, .val (.int (own_al x0 a o b)), .val (.int (own_al o b x0 a)), .val (.int (own_al x0 a x0 a)), .val (.int sm), .val (.int ex)] []))
          refine own_go (fun t k => XS.iconst X103.here hx rfl (hb hby at_198) k) ?_
          show own_G p e below s (own_Q0 n0) 0 0 (T103.setTop (mkF m 199 #[.val (.long x0), .second, .val (.long x1), .second, .val (.long x2), .second, .val (.long x3), .second, .val (.long x4), .second, .val (.int x5), .val (.long sS), .second, .val (.long a), .second, .val (.long o), .second, .val (.long b), .second, .val (.int (own_al x0 a o b)), .val (.int (own_al o b x0 a)), .val (.int (own_al x0 a x0 a)), .val (.int sm), .val (.int ex)] [(.int (1 : Int32))]))
          refine own_go (fun t k => XS.goto X103.here hx rfl (pc0 := 199) (pc' := 203) rfl (hb hby at_199) (by decide) (by decide) k) ?_
          show own_G p e below s (own_Q0 n0) 0 0 (T103.setTop (mkF m 203 #[.val (.long x0), .second, .val (.long x1), .second, .val (.long x2), .second, .val (.long x3), .second, .val (.long x4), .second, .val (.int x5), .val (.long sS), .second, .val (.long a), .second, .val (.long o), .second, .val (.long b), .second, .val (.int (own_al x0 a o b)), .val (.int (own_al o b x0 a)), .val (.int (own_al x0 a x0 a)), .val (.int sm), .val (.int ex)] [(.int (1 : Int32))]))
          exact own_leave X103 (some (.int (1 : Int32))) (fun h => by rw [Bd.returns] at h; cases h) Bd.notSynchronized (fun fs hr => retN X103 hx (t := .boolean) Bd.returns (by simp) (hb hby at_203) hr) ⟨rfl, (Fr.app (Fr.app (Fr.app (Fr.nil n0) (Fr.nil n0)) (Fr.nil n0)) (Fr.nil n0))⟩ (by decide) (by decide)
        · skip
          refine own_go (fun t k => XS.ifNo X103.here hx rfl (hb hby at_185) rfl (XT.i0_eq_f h2) k) ?_
          show own_G p e below s (own_Q0 n0) 0 0 (T103.setTop (mkF m 188 #[.val (.long x0), .second, .val (.long x1), .second, .val (.long x2), .second, .val (.long x3), .second, .val (.long x4), .second, .val (.int x5), .val (.long sS), .second, .val (.long a), .second, .val (.long o), .second, .val (.long b), .second, .val (.int (own_al x0 a o b)), .val (.int (own_al o b x0 a)), .val (.int (own_al x0 a x0 a)), .val (.int sm), .val (.int ex)] []))
          refine own_go (fun t k => XS.iconst X103.here hx rfl (hb hby at_188) k) ?_
          show own_G p e below s (own_Q0 n0) 0 0 (T103.setTop (mkF m 189 #[.val (.long x0), .second, .val (.long x1), .second, .val (.long x2), .second, .val (.long x3), .second, .val (.long x4), .second, .val (.int x5), .val (.long sS), .second, .val (.long a), .second, .val (.long o), .second, .val (.long b), .second, .val (.int (own_al x0 a o b)), .val (.int (own_al o b x0 a)), .val (.int (own_al x0 a x0 a)), .val (.int sm), .val (.int ex)] [(.int (1 : Int32))]))
          refine own_go (fun t k => XS.goto X103.here hx rfl (pc0 := 189) (pc' := 193) rfl (hb hby at_189) (by decide) (by decide) k) ?_
          show own_G p e below s (own_Q0 n0) 0 0 (T103.setTop (mkF m 193 #[.val (.long x0), .second, .val (.long x1), .second, .val (.long x2), .second, .val (.long x3), .second, .val (.long x4), .second, .val (.int x5), .val (.long sS), .second, .val (.long a), .second, .val (.long o), .second, .val (.long b), .second, .val (.int (own_al x0 a o b)), .val (.int (own_al o b x0 a)), .val (.int (own_al x0 a x0 a)), .val (.int sm), .val (.int ex)] [(.int (1 : Int32))]))
          refine own_go (fun t k => XS.iload X103.here hx rfl (hb hby at_193) rfl k) ?_
          show own_G p e below s (own_Q0 n0) 0 0 (T103.setTop (mkF m 195 #[.val (.long x0), .second, .val (.long x1), .second, .val (.long x2), .second, .val (.long x3), .second, .val (.long x4), .second, .val (.int x5), .val (.long sS), .second, .val (.long a), .second, .val (.long o), .second, .val (.long b), .second, .val (.int (own_al x0 a o b)), .val (.int (own_al o b x0 a)), .val (.int (own_al x0 a x0 a)), .val (.int sm), .val (.int ex)] [(.int sm), (.int (1 : Int32))]))
          refine own_go (fun t k => XS.icmpNo X103.here hx rfl (hb hby at_195) rfl (XT.ii_ne_f (hsm ▸ own_same_1 h1 h2)) k) ?_
          show own_G p e below s (own_Q0 n0) 0 0 (T103.setTop (mkF m 198 #[.val (.long x0), .second, .val (.long x1), .second, .val (.long x2), .second, .val (.long x3), .second, .val (.long x4), .second, .val (.int x5), .val (.long sS), .second, .val (.long a), .second, .val (.long o), .second, .val (.long b), .second, .val (.int (own_al x0 a o b)), .val (.int (own_al o b x0 a)), .val (.int (own_al x0 a x0 a)), .val (.int sm), .val (.int ex)] []))
          refine own_go (fun t k => XS.iconst X103.here hx rfl (hb hby at_198) k) ?_
          show own_G p e below s (own_Q0 n0) 0 0 (T103.setTop (mkF m 199 #[.val (.long x0), .second, .val (.long x1), .second, .val (.long x2), .second, .val (.long x3), .second, .val (.long x4), .second, .val (.int x5), .val (.long sS), .second, .val (.long a), .second, .val (.long o), .second, .val (.long b), .second, .val (.int (own_al x0 a o b)), .val (.int (own_al o b x0 a)), .val (.int (own_al x0 a x0 a)), .val (.int sm), .val (.int ex)] [(.int (1 : Int32))]))
          refine own_go (fun t k => XS.goto X103.here hx rfl (pc0 := 199) (pc' := 203) rfl (hb hby at_199) (by decide) (by decide) k) ?_
          show own_G p e below s (own_Q0 n0) 0 0 (T103.setTop (mkF m 203 #[.val (.long x0), .second, .val (.long x1), .second, .val (.long x2), .second, .val (.long x3), .second, .val (.long x4), .second, .val (.int x5), .val (.long sS), .second, .val (.long a), .second, .val (.long o), .second, .val (.long b), .second, .val (.int (own_al x0 a o b)), .val (.int (own_al o b x0 a)), .val (.int (own_al x0 a x0 a)), .val (.int sm), .val (.int ex)] [(.int (1 : Int32))]))
          exact own_leave X103 (some (.int (1 : Int32))) (fun h => by rw [Bd.returns] at h; cases h) Bd.notSynchronized (fun fs hr => retN X103 hx (t := .boolean) Bd.returns (by simp) (hb hby at_203) hr) ⟨rfl, (Fr.app (Fr.app (Fr.app (Fr.nil n0) (Fr.nil n0)) (Fr.nil n0)) (Fr.nil n0))⟩ (by decide) (by decide)
    have J115 : ∀ (sm : Int32) (hsm : own_same x0 a o b = sm), own_G p e below s (own_Q0 n0) 0 0 (T103.setTop (mkF m 115 #[.val (.long x0), .second, .val (.long x1), .second, .val (.long x2), .second, .val (.long x3), .second, .val (.long x4), .second, .val (.int x5), .val (.long sS), .second, .val (.long a), .second, .val (.long o), .second, .val (.long b), .second, .val (.int (own_al x0 a o b)), .val (.int (own_al o b x0 a)), .val (.int (own_al x0 a x0 a)), .val (.int sm), .unset] [])) := by
      intro sm hsm
      refine own_go (fun t k => XT.lloadN X103.here hx rfl (hb hby at_115) rfl k) ?_
      show own_G p e below s (own_Q0 n0) 0 0 (T103.setTop (mkF m 116 #[.val (.long x0), .second, .val (.long x1), .second, .val (.long x2), .second, .val (.long x3), .second, .val (.long x4), .second, .val (.int x5), .val (.long sS), .second, .val (.long a), .second, .val (.long o), .second, .val (.long b), .second, .val (.int (own_al x0 a o b)), .val (.int (own_al o b x0 a)), .val (.int (own_al x0 a x0 a)), .val (.int sm), .unset] [(.long x0)]))
      refine own_go (fun t k => XT.lload X103.here hx rfl (hb hby at_116) rfl k) ?_
      show own_G p e below s (own_Q0 n0) 0 0 (T103.setTop (mkF m 118 #[.val (.long x0), .second, .val (.long x1), .second, .val (.long x2), .second, .val (.long x3), .second, .val (.long x4), .second, .val (.int x5), .val (.long sS), .second, .val (.long a), .second, .val (.long o), .second, .val (.long b), .second, .val (.int (own_al x0 a o b)), .val (.int (own_al o b x0 a)), .val (.int (own_al x0 a x0 a)), .val (.int sm), .unset] [(.long o), (.long x0)]))
      refine own_go (fun t k => XT.lcmp X103.here hx rfl (hb hby at_118) rfl k) ?_
      show own_G p e below s (own_Q0 n0) 0 0 (T103.setTop (mkF m 119 #[.val (.long x0), .second, .val (.long x1), .second, .val (.long x2), .second, .val (.long x3), .second, .val (.long x4), .second, .val (.int x5), .val (.long sS), .second, .val (.long a), .second, .val (.long o), .second, .val (.long b), .second, .val (.int (own_al x0 a o b)), .val (.int (own_al o b x0 a)), .val (.int (own_al x0 a x0 a)), .val (.int sm), .unset] [(.int (XT.cmpL x0 o))]))
      by_cases h1 : o < x0
      · skip
        refine own_go (fun t k => XS.ifNo X103.here hx rfl (hb hby at_119) rfl (XT.ll_le_f h1) k) ?_
        show own_G p e below s (own_Q0 n0) 0 0 (T103.setTop (mkF m 122 #[.val (.long x0), .second, .val (.long x1), .second, .val (.long x2), .second, .val (.long x3), .second, .val (.long x4), .second, .val (.int x5), .val (.long sS), .second, .val (.long a), .second, .val (.long o), .second, .val (.long b), .second, .val (.int (own_al x0 a o b)), .val (.int (own_al o b x0 a)), .val (.int (own_al x0 a x0 a)), .val (.int sm), .unset] []))
        refine own_go (fun t k => XS.iconst X103.here hx rfl (hb hby at_122) k) ?_
        show own_G p e below s (own_Q0 n0) 0 0 (T103.setTop (mkF m 123 #[.val (.long x0), .second, .val (.long x1), .second, .val (.long x2), .second, .val (.long x3), .second, .val (.long x4), .second, .val (.int x5), .val (.long sS), .second, .val (.long a), .second, .val (.long o), .second, .val (.long b), .second, .val (.int (own_al x0 a o b)), .val (.int (own_al o b x0 a)), .val (.int (own_al x0 a x0 a)), .val (.int sm), .unset] [(.int (1 : Int32))]))
        refine own_go (fun t k => XS.istore X103.here hx rfl (hb hby at_123) rfl (l' := #[.val (.long x0), .second, .val (.long x1), .second, .val (.long x2), .second, .val (.long x3), .second, .val (.long x4), .second, .val (.int x5), .val (.long sS), .second, .val (.long a), .second, .val (.long o), .second, .val (.long b), .second, .val (.int (own_al x0 a o b)), .val (.int (own_al o b x0 a)), .val (.int (own_al x0 a x0 a)), .val (.int sm), .val (.int (1 : Int32))]) rfl k) ?_
        show own_G p e below s (own_Q0 n0) 0 0 (T103.setTop (mkF m 125 #[.val (.long x0), .second, .val (.long x1), .second, .val (.long x2), .second, .val (.long x3), .second, .val (.long x4), .second, .val (.int x5), .val (.long sS), .second, .val (.long a), .second, .val (.long o), .second, .val (.long b), .second, .val (.int (own_al x0 a o b)), .val (.int (own_al o b x0 a)), .val (.int (own_al x0 a x0 a)), .val (.int sm), .val (.int (1 : Int32))] []))
        refine own_go (fun t k => XS.goto X103.here hx rfl (pc0 := 125) (pc' := 156) rfl (hb hby at_125) (by decide) (by decide) k) ?_
        show own_G p e below s (own_Q0 n0) 0 0 (T103.setTop (mkF m 156 #[.val (.long x0), .second, .val (.long x1), .second, .val (.long x2), .second, .val (.long x3), .second, .val (.long x4), .second, .val (.int x5), .val (.long sS), .second, .val (.long a), .second, .val (.long o), .second, .val (.long b), .second, .val (.int (own_al x0 a o b)), .val (.int (own_al o b x0 a)), .val (.int (own_al x0 a x0 a)), .val (.int sm), .val (.int (1 : Int32))] []))
        exact J156 _ _ hsm (own_al_gt h1)
      · skip
        refine own_go (fun t k => XS.ifYes X103.here hx rfl (pc0 := 119) (pc' := 128) rfl (hb hby at_119) rfl (XT.ll_le_t h1) (by decide) (by decide) k) ?_
        show own_G p e below s (own_Q0 n0) 0 0 (T103.setTop (mkF m 128 #[.val (.long x0), .second, .val (.long x1), .second, .val (.long x2), .second, .val (.long x3), .second, .val (.long x4), .second, .val (.int x5), .val (.long sS), .second, .val (.long a), .second, .val (.long o), .second, .val (.long b), .second, .val (.int (own_al x0 a o b)), .val (.int (own_al o b x0 a)), .val (.int (own_al x0 a x0 a)), .val (.int sm), .unset] []))
        refine own_go (fun t k => XT.lloadN X103.here hx rfl (hb hby at_128) rfl k) ?_
        show own_G p e below s (own_Q0 n0) 0 0 (T103.setTop (mkF m 129 #[.val (.long x0), .second, .val (.long x1), .second, .val (.long x2), .second, .val (.long x3), .second, .val (.long x4), .second, .val (.int x5), .val (.long sS), .second, .val (.long a), .second, .val (.long o), .second, .val (.long b), .second, .val (.int (own_al x0 a o b)), .val (.int (own_al o b x0 a)), .val (.int (own_al x0 a x0 a)), .val (.int sm), .unset] [(.long x0)]))
        refine own_go (fun t k => XT.lload X103.here hx rfl (hb hby at_129) rfl k) ?_
        show own_G p e below s (own_Q0 n0) 0 0 (T103.setTop (mkF m 131 #[.val (.long x0), .second, .val (.long x1), .second, .val (.long x2), .second, .val (.long x3), .second, .val (.long x4), .second, .val (.int x5), .val (.long sS), .second, .val (.long a), .second, .val (.long o), .second, .val (.long b), .second, .val (.int (own_al x0 a o b)), .val (.int (own_al o b x0 a)), .val (.int (own_al x0 a x0 a)), .val (.int sm), .unset] [(.long o), (.long x0)]))
        refine own_go (fun t k => XT.lcmp X103.here hx rfl (hb hby at_131) rfl k) ?_
        show own_G p e below s (own_Q0 n0) 0 0 (T103.setTop (mkF m 132 #[.val (.long x0), .second, .val (.long x1), .second, .val (.long x2), .second, .val (.long x3), .second, .val (.long x4), .second, .val (.int x5), .val (.long sS), .second, .val (.long a), .second, .val (.long o), .second, .val (.long b), .second, .val (.int (own_al x0 a o b)), .val (.int (own_al o b x0 a)), .val (.int (own_al x0 a x0 a)), .val (.int sm), .unset] [(.int (XT.cmpL x0 o))]))
        by_cases h2 : x0 < o
        · skip
          refine own_go (fun t k => XS.ifNo X103.here hx rfl (hb hby at_132) rfl (XT.ll_ge_f h2) k) ?_
          show own_G p e below s (own_Q0 n0) 0 0 (T103.setTop (mkF m 135 #[.val (.long x0), .second, .val (.long x1), .second, .val (.long x2), .second, .val (.long x3), .second, .val (.long x4), .second, .val (.int x5), .val (.long sS), .second, .val (.long a), .second, .val (.long o), .second, .val (.long b), .second, .val (.int (own_al x0 a o b)), .val (.int (own_al o b x0 a)), .val (.int (own_al x0 a x0 a)), .val (.int sm), .unset] []))
          refine own_go (fun t k => XS.iconst X103.here hx rfl (hb hby at_135) k) ?_
          show own_G p e below s (own_Q0 n0) 0 0 (T103.setTop (mkF m 136 #[.val (.long x0), .second, .val (.long x1), .second, .val (.long x2), .second, .val (.long x3), .second, .val (.long x4), .second, .val (.int x5), .val (.long sS), .second, .val (.long a), .second, .val (.long o), .second, .val (.long b), .second, .val (.int (own_al x0 a o b)), .val (.int (own_al o b x0 a)), .val (.int (own_al x0 a x0 a)), .val (.int sm), .unset] [(.int (0 : Int32))]))
          refine own_go (fun t k => XS.istore X103.here hx rfl (hb hby at_136) rfl (l' := #[.val (.long x0), .second, .val (.long x1), .second, .val (.long x2), .second, .val (.long x3), .second, .val (.long x4), .second, .val (.int x5), .val (.long sS), .second, .val (.long a), .second, .val (.long o), .second, .val (.long b), .second, .val (.int (own_al x0 a o b)), .val (.int (own_al o b x0 a)), .val (.int (own_al x0 a x0 a)), .val (.int sm), .val (.int (0 : Int32))]) rfl k) ?_
          show own_G p e below s (own_Q0 n0) 0 0 (T103.setTop (mkF m 138 #[.val (.long x0), .second, .val (.long x1), .second, .val (.long x2), .second, .val (.long x3), .second, .val (.long x4), .second, .val (.int x5), .val (.long sS), .second, .val (.long a), .second, .val (.long o), .second, .val (.long b), .second, .val (.int (own_al x0 a o b)), .val (.int (own_al o b x0 a)), .val (.int (own_al x0 a x0 a)), .val (.int sm), .val (.int (0 : Int32))] []))
          refine own_go (fun t k => XS.goto X103.here hx rfl (pc0 := 138) (pc' := 156) rfl (hb hby at_138) (by decide) (by decide) k) ?_
          show own_G p e below s (own_Q0 n0) 0 0 (T103.setTop (mkF m 156 #[.val (.long x0), .second, .val (.long x1), .second, .val (.long x2), .second, .val (.long x3), .second, .val (.long x4), .second, .val (.int x5), .val (.long sS), .second, .val (.long a), .second, .val (.long o), .second, .val (.long b), .second, .val (.int (own_al x0 a o b)), .val (.int (own_al o b x0 a)), .val (.int (own_al x0 a x0 a)), .val (.int sm), .val (.int (0 : Int32))] []))
          exact J156 _ _ hsm (own_al_ne h1 (fun q => own_lt_irrefl o (q ▸ h2)))
        · skip
          refine own_go (fun t k => XS.ifYes X103.here hx rfl (pc0 := 132) (pc' := 141) rfl (hb hby at_132) rfl (XT.ll_ge_t h2) (by decide) (by decide) k) ?_
          show own_G p e below s (own_Q0 n0) 0 0 (T103.setTop (mkF m 141 #[.val (.long x0), .second, .val (.long x1), .second, .val (.long x2), .second, .val (.long x3), .second, .val (.long x4), .second, .val (.int x5), .val (.long sS), .second, .val (.long a), .second, .val (.long o), .second, .val (.long b), .second, .val (.int (own_al x0 a o b)), .val (.int (own_al o b x0 a)), .val (.int (own_al x0 a x0 a)), .val (.int sm), .unset] []))
          refine own_go (fun t k => XT.lload X103.here hx rfl (hb hby at_141) rfl k) ?_
          show own_G p e below s (own_Q0 n0) 0 0 (T103.setTop (mkF m 143 #[.val (.long x0), .second, .val (.long x1), .second, .val (.long x2), .second, .val (.long x3), .second, .val (.long x4), .second, .val (.int x5), .val (.long sS), .second, .val (.long a), .second, .val (.long o), .second, .val (.long b), .second, .val (.int (own_al x0 a o b)), .val (.int (own_al o b x0 a)), .val (.int (own_al x0 a x0 a)), .val (.int sm), .unset] [(.long a)]))
          refine own_go (fun t k => XT.lload X103.here hx rfl (hb hby at_143) rfl k) ?_
          show own_G p e below s (own_Q0 n0) 0 0 (T103.setTop (mkF m 145 #[.val (.long x0), .second, .val (.long x1), .second, .val (.long x2), .second, .val (.long x3), .second, .val (.long x4), .second, .val (.int x5), .val (.long sS), .second, .val (.long a), .second, .val (.long o), .second, .val (.long b), .second, .val (.int (own_al x0 a o b)), .val (.int (own_al o b x0 a)), .val (.int (own_al x0 a x0 a)), .val (.int sm), .unset] [(.long b), (.long a)]))
          refine own_go (fun t k => XT.lcmp X103.here hx rfl (hb hby at_145) rfl k) ?_
          show own_G p e below s (own_Q0 n0) 0 0 (T103.setTop (mkF m 146 #[.val (.long x0), .second, .val (.long x1), .second, .val (.long x2), .second, .val (.long x3), .second, .val (.long x4), .second, .val (.int x5), .val (.long sS), .second, .val (.long a), .second, .val (.long o), .second, .val (.long b), .second, .val (.int (own_al x0 a o b)), .val (.int (own_al o b x0 a)), .val (.int (own_al x0 a x0 a)), .val (.int sm), .unset] [(.int (XT.cmpL a b))]))
          by_cases h3 : a < b
          · skip
            refine own_go (fun t k => XS.ifYes X103.here hx rfl (pc0 := 146) (pc' := 153) rfl (hb hby at_146) rfl (XT.ll_lt_t h3) (by decide) (by decide) k) ?_
            show own_G p e below s (own_Q0 n0) 0 0 (T103.setTop (mkF m 153 #[.val (.long x0), .second, .val (.long x1), .second, .val (.long x2), .second, .val (.long x3), .second, .val (.long x4), .second, .val (.int x5), .val (.long sS), .second, .val (.long a), .second, .val (.long o), .second, .val (.long b), .second, .val (.int (own_al x0 a o b)), .val (.int (own_al o b x0 a)), .val (.int (own_al x0 a x0 a)), .val (.int sm), .unset] []))
            refine own_go (fun t k => XS.iconst X103.here hx rfl (hb hby at_153) k) ?_
            show own_G p e below s (own_Q0 n0) 0 0 (T103.setTop (mkF m 154 #[.val (.long x0), .second, .val (.long x1), .second, .val (.long x2), .second, .val (.long x3), .second, .val (.long x4), .second, .val (.int x5), .val (.long sS), .second, .val (.long a), .second, .val (.long o), .second, .val (.long b), .second, .val (.int (own_al x0 a o b)), .val (.int (own_al o b x0 a)), .val (.int (own_al x0 a x0 a)), .val (.int sm), .unset] [(.int (0 : Int32))]))
            refine own_go (fun t k => XS.istore X103.here hx rfl (hb hby at_154) rfl (l' := #[.val (.long x0), .second, .val (.long x1), .second, .val (.long x2), .second, .val (.long x3), .second, .val (.long x4), .second, .val (.int x5), .val (.long sS), .second, .val (.long a), .second, .val (.long o), .second, .val (.long b), .second, .val (.int (own_al x0 a o b)), .val (.int (own_al o b x0 a)), .val (.int (own_al x0 a x0 a)), .val (.int sm), .val (.int (0 : Int32))]) rfl k) ?_
            show own_G p e below s (own_Q0 n0) 0 0 (T103.setTop (mkF m 156 #[.val (.long x0), .second, .val (.long x1), .second, .val (.long x2), .second, .val (.long x3), .second, .val (.long x4), .second, .val (.int x5), .val (.long sS), .second, .val (.long a), .second, .val (.long o), .second, .val (.long b), .second, .val (.int (own_al x0 a o b)), .val (.int (own_al o b x0 a)), .val (.int (own_al x0 a x0 a)), .val (.int sm), .val (.int (0 : Int32))] []))
            exact J156 _ _ hsm (own_al_lt h1 (Int64.toInt_inj.mp (by rw [Int64.lt_iff_toInt_lt] at h1 h2; omega)) h3)
          · skip
            refine own_go (fun t k => XS.ifNo X103.here hx rfl (hb hby at_146) rfl (XT.ll_lt_f h3) k) ?_
            show own_G p e below s (own_Q0 n0) 0 0 (T103.setTop (mkF m 149 #[.val (.long x0), .second, .val (.long x1), .second, .val (.long x2), .second, .val (.long x3), .second, .val (.long x4), .second, .val (.int x5), .val (.long sS), .second, .val (.long a), .second, .val (.long o), .second, .val (.long b), .second, .val (.int (own_al x0 a o b)), .val (.int (own_al o b x0 a)), .val (.int (own_al x0 a x0 a)), .val (.int sm), .unset] []))
            refine own_go (fun t k => XS.iconst X103.here hx rfl (hb hby at_149) k) ?_
            show own_G p e below s (own_Q0 n0) 0 0 (T103.setTop (mkF m 150 #[.val (.long x0), .second, .val (.long x1), .second, .val (.long x2), .second, .val (.long x3), .second, .val (.long x4), .second, .val (.int x5), .val (.long sS), .second, .val (.long a), .second, .val (.long o), .second, .val (.long b), .second, .val (.int (own_al x0 a o b)), .val (.int (own_al o b x0 a)), .val (.int (own_al x0 a x0 a)), .val (.int sm), .unset] [(.int (1 : Int32))]))
            refine own_go (fun t k => XS.goto X103.here hx rfl (pc0 := 150) (pc' := 154) rfl (hb hby at_150) (by decide) (by decide) k) ?_
            show own_G p e below s (own_Q0 n0) 0 0 (T103.setTop (mkF m 154 #[.val (.long x0), .second, .val (.long x1), .second, .val (.long x2), .second, .val (.long x3), .second, .val (.long x4), .second, .val (.int x5), .val (.long sS), .second, .val (.long a), .second, .val (.long o), .second, .val (.long b), .second, .val (.int (own_al x0 a o b)), .val (.int (own_al o b x0 a)), .val (.int (own_al x0 a x0 a)), .val (.int sm), .unset] [(.int (1 : Int32))]))
            refine own_go (fun t k => XS.istore X103.here hx rfl (hb hby at_154) rfl (l' := #[.val (.long x0), .second, .val (.long x1), .second, .val (.long x2), .second, .val (.long x3), .second, .val (.long x4), .second, .val (.int x5), .val (.long sS), .second, .val (.long a), .second, .val (.long o), .second, .val (.long b), .second, .val (.int (own_al x0 a o b)), .val (.int (own_al o b x0 a)), .val (.int (own_al x0 a x0 a)), .val (.int sm), .val (.int (1 : Int32))]) rfl k) ?_
            show own_G p e below s (own_Q0 n0) 0 0 (T103.setTop (mkF m 156 #[.val (.long x0), .second, .val (.long x1), .second, .val (.long x2), .second, .val (.long x3), .second, .val (.long x4), .second, .val (.int x5), .val (.long sS), .second, .val (.long a), .second, .val (.long o), .second, .val (.long b), .second, .val (.int (own_al x0 a o b)), .val (.int (own_al o b x0 a)), .val (.int (own_al x0 a x0 a)), .val (.int sm), .val (.int (1 : Int32))] []))
            exact J156 _ _ hsm (own_al_ge h1 (Int64.toInt_inj.mp (by rw [Int64.lt_iff_toInt_lt] at h1 h2; omega)) h3)
    refine own_go (fun t k => XT.lloadN X103.here hx rfl (hb hby at_93) rfl k) ?_
    show own_G p e below s (own_Q0 n0) 0 0 (T103.setTop (mkF m 94 #[.val (.long x0), .second, .val (.long x1), .second, .val (.long x2), .second, .val (.long x3), .second, .val (.long x4), .second, .val (.int x5), .val (.long sS), .second, .val (.long a), .second, .val (.long o), .second, .val (.long b), .second, .val (.int (own_al x0 a o b)), .val (.int (own_al o b x0 a)), .val (.int (own_al x0 a x0 a)), .unset, .unset] [(.long x0)]))
    refine own_go (fun t k => XT.lload X103.here hx rfl (hb hby at_94) rfl k) ?_
    show own_G p e below s (own_Q0 n0) 0 0 (T103.setTop (mkF m 96 #[.val (.long x0), .second, .val (.long x1), .second, .val (.long x2), .second, .val (.long x3), .second, .val (.long x4), .second, .val (.int x5), .val (.long sS), .second, .val (.long a), .second, .val (.long o), .second, .val (.long b), .second, .val (.int (own_al x0 a o b)), .val (.int (own_al o b x0 a)), .val (.int (own_al x0 a x0 a)), .unset, .unset] [(.long o), (.long x0)]))
    refine own_go (fun t k => XT.lcmp X103.here hx rfl (hb hby at_96) rfl k) ?_
    show own_G p e below s (own_Q0 n0) 0 0 (T103.setTop (mkF m 97 #[.val (.long x0), .second, .val (.long x1), .second, .val (.long x2), .second, .val (.long x3), .second, .val (.long x4), .second, .val (.int x5), .val (.long sS), .second, .val (.long a), .second, .val (.long o), .second, .val (.long b), .second, .val (.int (own_al x0 a o b)), .val (.int (own_al o b x0 a)), .val (.int (own_al x0 a x0 a)), .unset, .unset] [(.int (XT.cmpL x0 o))]))
    by_cases h1 : x0 = o
    · skip
      refine own_go (fun t k => XS.ifNo X103.here hx rfl (hb hby at_97) rfl (XT.ll_ne_f h1) k) ?_
      show own_G p e below s (own_Q0 n0) 0 0 (T103.setTop (mkF m 100 #[.val (.long x0), .second, .val (.long x1), .second, .val (.long x2), .second, .val (.long x3), .second, .val (.long x4), .second, .val (.int x5), .val (.long sS), .second, .val (.long a), .second, .val (.long o), .second, .val (.long b), .second, .val (.int (own_al x0 a o b)), .val (.int (own_al o b x0 a)), .val (.int (own_al x0 a x0 a)), .unset, .unset] []))
      refine own_go (fun t k => XT.lload X103.here hx rfl (hb hby at_100) rfl k) ?_
      show own_G p e below s (own_Q0 n0) 0 0 (T103.setTop (mkF m 102 #[.val (.long x0), .second, .val (.long x1), .second, .val (.long x2), .second, .val (.long x3), .second, .val (.long x4), .second, .val (.int x5), .val (.long sS), .second, .val (.long a), .second, .val (.long o), .second, .val (.long b), .second, .val (.int (own_al x0 a o b)), .val (.int (own_al o b x0 a)), .val (.int (own_al x0 a x0 a)), .unset, .unset] [(.long a)]))
      refine own_go (fun t k => XT.lload X103.here hx rfl (hb hby at_102) rfl k) ?_
      show own_G p e below s (own_Q0 n0) 0 0 (T103.setTop (mkF m 104 #[.val (.long x0), .second, .val (.long x1), .second, .val (.long x2), .second, .val (.long x3), .second, .val (.long x4), .second, .val (.int x5), .val (.long sS), .second, .val (.long a), .second, .val (.long o), .second, .val (.long b), .second, .val (.int (own_al x0 a o b)), .val (.int (own_al o b x0 a)), .val (.int (own_al x0 a x0 a)), .unset, .unset] [(.long b), (.long a)]))
      refine own_go (fun t k => XT.lcmp X103.here hx rfl (hb hby at_104) rfl k) ?_
      show own_G p e below s (own_Q0 n0) 0 0 (T103.setTop (mkF m 105 #[.val (.long x0), .second, .val (.long x1), .second, .val (.long x2), .second, .val (.long x3), .second, .val (.long x4), .second, .val (.int x5), .val (.long sS), .second, .val (.long a), .second, .val (.long o), .second, .val (.long b), .second, .val (.int (own_al x0 a o b)), .val (.int (own_al o b x0 a)), .val (.int (own_al x0 a x0 a)), .unset, .unset] [(.int (XT.cmpL a b))]))
      by_cases h2 : a = b
      · skip
        refine own_go (fun t k => XS.ifNo X103.here hx rfl (hb hby at_105) rfl (XT.ll_ne_f h2) k) ?_
        show own_G p e below s (own_Q0 n0) 0 0 (T103.setTop (mkF m 108 #[.val (.long x0), .second, .val (.long x1), .second, .val (.long x2), .second, .val (.long x3), .second, .val (.long x4), .second, .val (.int x5), .val (.long sS), .second, .val (.long a), .second, .val (.long o), .second, .val (.long b), .second, .val (.int (own_al x0 a o b)), .val (.int (own_al o b x0 a)), .val (.int (own_al x0 a x0 a)), .unset, .unset] []))
        refine own_go (fun t k => XS.iconst X103.here hx rfl (hb hby at_108) k) ?_
        show own_G p e below s (own_Q0 n0) 0 0 (T103.setTop (mkF m 109 #[.val (.long x0), .second, .val (.long x1), .second, .val (.long x2), .second, .val (.long x3), .second, .val (.long x4), .second, .val (.int x5), .val (.long sS), .second, .val (.long a), .second, .val (.long o), .second, .val (.long b), .second, .val (.int (own_al x0 a o b)), .val (.int (own_al o b x0 a)), .val (.int (own_al x0 a x0 a)), .unset, .unset] [(.int (1 : Int32))]))
        refine own_go (fun t k => XS.goto X103.here hx rfl (pc0 := 109) (pc' := 113) rfl (hb hby at_109) (by decide) (by decide) k) ?_
        show own_G p e below s (own_Q0 n0) 0 0 (T103.setTop (mkF m 113 #[.val (.long x0), .second, .val (.long x1), .second, .val (.long x2), .second, .val (.long x3), .second, .val (.long x4), .second, .val (.int x5), .val (.long sS), .second, .val (.long a), .second, .val (.long o), .second, .val (.long b), .second, .val (.int (own_al x0 a o b)), .val (.int (own_al o b x0 a)), .val (.int (own_al x0 a x0 a)), .unset, .unset] [(.int (1 : Int32))]))
        refine own_go (fun t k => XS.istore X103.here hx rfl (hb hby at_113) rfl (l' := #[.val (.long x0), .second, .val (.long x1), .second, .val (.long x2), .second, .val (.long x3), .second, .val (.long x4), .second, .val (.int x5), .val (.long sS), .second, .val (.long a), .second, .val (.long o), .second, .val (.long b), .second, .val (.int (own_al x0 a o b)), .val (.int (own_al o b x0 a)), .val (.int (own_al x0 a x0 a)), .val (.int (1 : Int32)), .unset]) rfl k) ?_
        show own_G p e below s (own_Q0 n0) 0 0 (T103.setTop (mkF m 115 #[.val (.long x0), .second, .val (.long x1), .second, .val (.long x2), .second, .val (.long x3), .second, .val (.long x4), .second, .val (.int x5), .val (.long sS), .second, .val (.long a), .second, .val (.long o), .second, .val (.long b), .second, .val (.int (own_al x0 a o b)), .val (.int (own_al o b x0 a)), .val (.int (own_al x0 a x0 a)), .val (.int (1 : Int32)), .unset] []))
        exact J115 _ ((if_pos h1).trans (if_pos h2))
      · skip
        refine own_go (fun t k => XS.ifYes X103.here hx rfl (pc0 := 105) (pc' := 112) rfl (hb hby at_105) rfl (XT.ll_ne_t h2) (by decide) (by decide) k) ?_
        show own_G p e below s (own_Q0 n0) 0 0 (T103.setTop (mkF m 112 #[.val (.long x0), .second, .val (.long x1), .second, .val (.long x2), .second, .val (.long x3), .second, .val (.long x4), .second, .val (.int x5), .val (.long sS), .second, .val (.long a), .second, .val (.long o), .second, .val (.long b), .second, .val (.int (own_al x0 a o b)), .val (.int (own_al o b x0 a)), .val (.int (own_al x0 a x0 a)), .unset, .unset] []))
        refine own_go (fun t k => XS.iconst X103.here hx rfl (hb hby at_112) k) ?_
        show own_G p e below s (own_Q0 n0) 0 0 (T103.setTop (mkF m 113 #[.val (.long x0), .second, .val (.long x1), .second, .val (.long x2), .second, .val (.long x3), .second, .val (.long x4), .second, .val (.int x5), .val (.long sS), .second, .val (.long a), .second, .val (.long o), .second, .val (.long b), .second, .val (.int (own_al x0 a o b)), .val (.int (own_al o b x0 a)), .val (.int (own_al x0 a x0 a)), .unset, .unset] [(.int (0 : Int32))]))
        refine own_go (fun t k => XS.istore X103.here hx rfl (hb hby at_113) rfl (l' := #[.val (.long x0), .second, .val (.long x1), .second, .val (.long x2), .second, .val (.long x3), .second, .val (.long x4), .second, .val (.int x5), .val (.long sS), .second, .val (.long a), .second, .val (.long o), .second, .val (.long b), .second, .val (.int (own_al x0 a o b)), .val (.int (own_al o b x0 a)), .val (.int (own_al x0 a x0 a)), .val (.int (0 : Int32)), .unset]) rfl k) ?_
        show own_G p e below s (own_Q0 n0) 0 0 (T103.setTop (mkF m 115 #[.val (.long x0), .second, .val (.long x1), .second, .val (.long x2), .second, .val (.long x3), .second, .val (.long x4), .second, .val (.int x5), .val (.long sS), .second, .val (.long a), .second, .val (.long o), .second, .val (.long b), .second, .val (.int (own_al x0 a o b)), .val (.int (own_al o b x0 a)), .val (.int (own_al x0 a x0 a)), .val (.int (0 : Int32)), .unset] []))
        exact J115 _ ((if_pos h1).trans (if_neg h2))
    · skip
      refine own_go (fun t k => XS.ifYes X103.here hx rfl (pc0 := 97) (pc' := 112) rfl (hb hby at_97) rfl (XT.ll_ne_t h1) (by decide) (by decide) k) ?_
      show own_G p e below s (own_Q0 n0) 0 0 (T103.setTop (mkF m 112 #[.val (.long x0), .second, .val (.long x1), .second, .val (.long x2), .second, .val (.long x3), .second, .val (.long x4), .second, .val (.int x5), .val (.long sS), .second, .val (.long a), .second, .val (.long o), .second, .val (.long b), .second, .val (.int (own_al x0 a o b)), .val (.int (own_al o b x0 a)), .val (.int (own_al x0 a x0 a)), .unset, .unset] []))
      refine own_go (fun t k => XS.iconst X103.here hx rfl (hb hby at_112) k) ?_
      show own_G p e below s (own_Q0 n0) 0 0 (T103.setTop (mkF m 113 #[.val (.long x0), .second, .val (.long x1), .second, .val (.long x2), .second, .val (.long x3), .second, .val (.long x4), .second, .val (.int x5), .val (.long sS), .second, .val (.long a), .second, .val (.long o), .second, .val (.long b), .second, .val (.int (own_al x0 a o b)), .val (.int (own_al o b x0 a)), .val (.int (own_al x0 a x0 a)), .unset, .unset] [(.int (0 : Int32))]))
      refine own_go (fun t k => XS.istore X103.here hx rfl (hb hby at_113) rfl (l' := #[.val (.long x0), .second, .val (.long x1), .second, .val (.long x2), .second, .val (.long x3), .second, .val (.long x4), .second, .val (.int x5), .val (.long sS), .second, .val (.long a), .second, .val (.long o), .second, .val (.long b), .second, .val (.int (own_al x0 a o b)), .val (.int (own_al o b x0 a)), .val (.int (own_al x0 a x0 a)), .val (.int (0 : Int32)), .unset]) rfl k) ?_
      show own_G p e below s (own_Q0 n0) 0 0 (T103.setTop (mkF m 115 #[.val (.long x0), .second, .val (.long x1), .second, .val (.long x2), .second, .val (.long x3), .second, .val (.long x4), .second, .val (.int x5), .val (.long sS), .second, .val (.long a), .second, .val (.long o), .second, .val (.long b), .second, .val (.int (own_al x0 a o b)), .val (.int (own_al o b x0 a)), .val (.int (own_al x0 a x0 a)), .val (.int (0 : Int32)), .unset] []))
      exact J115 _ (if_neg h1)
  have J35 : ∀ (o : Int64), own_G p e below s (own_Q0 n0) 0 0 (s₁.setTop (mkF m 35 #[.val (.long x0), .second, .val (.long x1), .second, .val (.long x2), .second, .val (.long x3), .second, .val (.long x4), .second, .val (.int x5), .val (.long sS), .second, .val (.long a), .second, .val (.long o), .second, .unset, .unset, .unset, .unset, .unset, .unset, .unset] [])) := by
    intro o
    refine own_go (fun t k => XS.iload X0.here hx rfl (hb hby at_35) rfl k) ?_
    show own_G p e below s (own_Q0 n0) 0 0 (s₁.setTop (mkF m 37 #[.val (.long x0), .second, .val (.long x1), .second, .val (.long x2), .second, .val (.long x3), .second, .val (.long x4), .second, .val (.int x5), .val (.long sS), .second, .val (.long a), .second, .val (.long o), .second, .unset, .unset, .unset, .unset, .unset, .unset, .unset] [(.int x5)]))
    refine own_go (fun t k => XS.iconst X0.here hx rfl (hb hby at_37) k) ?_
    show own_G p e below s (own_Q0 n0) 0 0 (s₁.setTop (mkF m 38 #[.val (.long x0), .second, .val (.long x1), .second, .val (.long x2), .second, .val (.long x3), .second, .val (.long x4), .second, .val (.int x5), .val (.long sS), .second, .val (.long a), .second, .val (.long o), .second, .unset, .unset, .unset, .unset, .unset, .unset, .unset] [(.int (2 : Int32)), (.int x5)]))
    refine own_go (fun t k => XS.iand X0.here hx rfl (hb hby at_38) rfl k) ?_
    show own_G p e below s (own_Q0 n0) 0 0 (s₁.setTop (mkF m 39 #[.val (.long x0), .second, .val (.long x1), .second, .val (.long x2), .second, .val (.long x3), .second, .val (.long x4), .second, .val (.int x5), .val (.long sS), .second, .val (.long a), .second, .val (.long o), .second, .unset, .unset, .unset, .unset, .unset, .unset, .unset] [(.int (x5 &&& (2 : Int32)))]))
    by_cases h1 : (x5 &&& (2 : Int32)) = (0 : Int32)
    · skip
      refine own_go (fun t k => XS.ifYes X0.here hx rfl (pc0 := 39) (pc' := 47) rfl (hb hby at_39) rfl (XT.i0_eq_t h1) (by decide) (by decide) k) ?_
      show own_G p e below s (own_Q0 n0) 0 0 (s₁.setTop (mkF m 47 #[.val (.long x0), .second, .val (.long x1), .second, .val (.long x2), .second, .val (.long x3), .second, .val (.long x4), .second, .val (.int x5), .val (.long sS), .second, .val (.long a), .second, .val (.long o), .second, .unset, .unset, .unset, .unset, .unset, .unset, .unset] []))
      refine own_go (fun t k => XT.lload X0.here hx rfl (hb hby at_47) rfl k) ?_
      show own_G p e below s (own_Q0 n0) 0 0 (s₁.setTop (mkF m 49 #[.val (.long x0), .second, .val (.long x1), .second, .val (.long x2), .second, .val (.long x3), .second, .val (.long x4), .second, .val (.int x5), .val (.long sS), .second, .val (.long a), .second, .val (.long o), .second, .unset, .unset, .unset, .unset, .unset, .unset, .unset] [(.long x3)]))
      refine own_go (X0.ldc2Long hx hown (mvT hZ (hw _ (List.mem_of_getElem? (i := 1) rfl))) (g := (mkF m 49 #[.val (.long x0), .second, .val (.long x1), .second, .val (.long x2), .second, .val (.long x3), .second, .val (.long x4), .second, .val (.int x5), .val (.long sS), .second, .val (.long a), .second, .val (.long o), .second, .unset, .unset, .unset, .unset, .unset, .unset, .unset] [(.long x3)])) rfl (hb hby at_49)) ?_
      show own_G p e below s (own_Q0 n0) 0 0 (s₁.setTop (mkF m 52 #[.val (.long x0), .second, .val (.long x1), .second, .val (.long x2), .second, .val (.long x3), .second, .val (.long x4), .second, .val (.int x5), .val (.long sS), .second, .val (.long a), .second, .val (.long o), .second, .unset, .unset, .unset, .unset, .unset, .unset, .unset] [(.long (9223372036854775807 : Int64)), (.long x3)]))
      refine own_go (fun t k => XT.land X0.here hx rfl (hb hby at_52) rfl k) ?_
      show own_G p e below s (own_Q0 n0) 0 0 (s₁.setTop (mkF m 53 #[.val (.long x0), .second, .val (.long x1), .second, .val (.long x2), .second, .val (.long x3), .second, .val (.long x4), .second, .val (.int x5), .val (.long sS), .second, .val (.long a), .second, .val (.long o), .second, .unset, .unset, .unset, .unset, .unset, .unset, .unset] [(.long (x3 &&& (9223372036854775807 : Int64)))]))
      refine own_go (fun t k => XT.lload X0.here hx rfl (hb hby at_53) rfl k) ?_
      show own_G p e below s (own_Q0 n0) 0 0 (s₁.setTop (mkF m 55 #[.val (.long x0), .second, .val (.long x1), .second, .val (.long x2), .second, .val (.long x3), .second, .val (.long x4), .second, .val (.int x5), .val (.long sS), .second, .val (.long a), .second, .val (.long o), .second, .unset, .unset, .unset, .unset, .unset, .unset, .unset] [(.long sS), (.long (x3 &&& (9223372036854775807 : Int64)))]))
      refine own_go (fun t k => XT.lrem X0.here hx rfl (hb hby at_55) rfl hs0 k) ?_
      show own_G p e below s (own_Q0 n0) 0 0 (s₁.setTop (mkF m 56 #[.val (.long x0), .second, .val (.long x1), .second, .val (.long x2), .second, .val (.long x3), .second, .val (.long x4), .second, .val (.int x5), .val (.long sS), .second, .val (.long a), .second, .val (.long o), .second, .unset, .unset, .unset, .unset, .unset, .unset, .unset] [(.long ((x3 &&& (9223372036854775807 : Int64)) - ((x3 &&& (9223372036854775807 : Int64)) / sS) * sS))]))
      refine own_go (fun t k => XT.lstore X0.here hx rfl (hb hby at_56) rfl (l' := #[.val (.long x0), .second, .val (.long x1), .second, .val (.long x2), .second, .val (.long x3), .second, .val (.long x4), .second, .val (.int x5), .val (.long sS), .second, .val (.long a), .second, .val (.long o), .second, .val (.long ((x3 &&& (9223372036854775807 : Int64)) - ((x3 &&& (9223372036854775807 : Int64)) / sS) * sS)), .second, .unset, .unset, .unset, .unset, .unset]) rfl k) ?_
      show own_G p e below s (own_Q0 n0) 0 0 (s₁.setTop (mkF m 58 #[.val (.long x0), .second, .val (.long x1), .second, .val (.long x2), .second, .val (.long x3), .second, .val (.long x4), .second, .val (.int x5), .val (.long sS), .second, .val (.long a), .second, .val (.long o), .second, .val (.long ((x3 &&& (9223372036854775807 : Int64)) - ((x3 &&& (9223372036854775807 : Int64)) / sS) * sS)), .second, .unset, .unset, .unset, .unset, .unset] []))
      exact J58 _ _
    · skip
      refine own_go (fun t k => XS.ifNo X0.here hx rfl (hb hby at_39) rfl (XT.i0_eq_f h1) k) ?_
      show own_G p e below s (own_Q0 n0) 0 0 (s₁.setTop (mkF m 42 #[.val (.long x0), .second, .val (.long x1), .second, .val (.long x2), .second, .val (.long x3), .second, .val (.long x4), .second, .val (.int x5), .val (.long sS), .second, .val (.long a), .second, .val (.long o), .second, .unset, .unset, .unset, .unset, .unset, .unset, .unset] []))
      refine own_go (fun t k => XT.lload X0.here hx rfl (hb hby at_42) rfl k) ?_
      show own_G p e below s (own_Q0 n0) 0 0 (s₁.setTop (mkF m 44 #[.val (.long x0), .second, .val (.long x1), .second, .val (.long x2), .second, .val (.long x3), .second, .val (.long x4), .second, .val (.int x5), .val (.long sS), .second, .val (.long a), .second, .val (.long o), .second, .unset, .unset, .unset, .unset, .unset, .unset, .unset] [(.long a)]))
      refine own_go (fun t k => XS.goto X0.here hx rfl (pc0 := 44) (pc' := 56) rfl (hb hby at_44) (by decide) (by decide) k) ?_
      show own_G p e below s (own_Q0 n0) 0 0 (s₁.setTop (mkF m 56 #[.val (.long x0), .second, .val (.long x1), .second, .val (.long x2), .second, .val (.long x3), .second, .val (.long x4), .second, .val (.int x5), .val (.long sS), .second, .val (.long a), .second, .val (.long o), .second, .unset, .unset, .unset, .unset, .unset, .unset, .unset] [(.long a)]))
      refine own_go (fun t k => XT.lstore X0.here hx rfl (hb hby at_56) rfl (l' := #[.val (.long x0), .second, .val (.long x1), .second, .val (.long x2), .second, .val (.long x3), .second, .val (.long x4), .second, .val (.int x5), .val (.long sS), .second, .val (.long a), .second, .val (.long o), .second, .val (.long a), .second, .unset, .unset, .unset, .unset, .unset]) rfl k) ?_
      show own_G p e below s (own_Q0 n0) 0 0 (s₁.setTop (mkF m 58 #[.val (.long x0), .second, .val (.long x1), .second, .val (.long x2), .second, .val (.long x3), .second, .val (.long x4), .second, .val (.int x5), .val (.long sS), .second, .val (.long a), .second, .val (.long o), .second, .val (.long a), .second, .unset, .unset, .unset, .unset, .unset] []))
      exact J58 _ _
  refine own_go (fun t k => XS.iload X0.here hx rfl (hb hby at_20) rfl k) ?_
  show own_G p e below s (own_Q0 n0) 0 0 (s₁.setTop (mkF m 22 #[.val (.long x0), .second, .val (.long x1), .second, .val (.long x2), .second, .val (.long x3), .second, .val (.long x4), .second, .val (.int x5), .val (.long sS), .second, .val (.long a), .second, .unset, .unset, .unset, .unset, .unset, .unset, .unset, .unset, .unset] [(.int x5)]))
  refine own_go (fun t k => XS.iconst X0.here hx rfl (hb hby at_22) k) ?_
  show own_G p e below s (own_Q0 n0) 0 0 (s₁.setTop (mkF m 23 #[.val (.long x0), .second, .val (.long x1), .second, .val (.long x2), .second, .val (.long x3), .second, .val (.long x4), .second, .val (.int x5), .val (.long sS), .second, .val (.long a), .second, .unset, .unset, .unset, .unset, .unset, .unset, .unset, .unset, .unset] [(.int (1 : Int32)), (.int x5)]))
  refine own_go (fun t k => XS.iand X0.here hx rfl (hb hby at_23) rfl k) ?_
  show own_G p e below s (own_Q0 n0) 0 0 (s₁.setTop (mkF m 24 #[.val (.long x0), .second, .val (.long x1), .second, .val (.long x2), .second, .val (.long x3), .second, .val (.long x4), .second, .val (.int x5), .val (.long sS), .second, .val (.long a), .second, .unset, .unset, .unset, .unset, .unset, .unset, .unset, .unset, .unset] [(.int (x5 &&& (1 : Int32)))]))
  by_cases h1 : (x5 &&& (1 : Int32)) = (0 : Int32)
  · skip
    refine own_go (fun t k => XS.ifYes X0.here hx rfl (pc0 := 24) (pc' := 31) rfl (hb hby at_24) rfl (XT.i0_eq_t h1) (by decide) (by decide) k) ?_
    show own_G p e below s (own_Q0 n0) 0 0 (s₁.setTop (mkF m 31 #[.val (.long x0), .second, .val (.long x1), .second, .val (.long x2), .second, .val (.long x3), .second, .val (.long x4), .second, .val (.int x5), .val (.long sS), .second, .val (.long a), .second, .unset, .unset, .unset, .unset, .unset, .unset, .unset, .unset, .unset] []))
    refine own_go (fun t k => XT.lload X0.here hx rfl (hb hby at_31) rfl k) ?_
    show own_G p e below s (own_Q0 n0) 0 0 (s₁.setTop (mkF m 33 #[.val (.long x0), .second, .val (.long x1), .second, .val (.long x2), .second, .val (.long x3), .second, .val (.long x4), .second, .val (.int x5), .val (.long sS), .second, .val (.long a), .second, .unset, .unset, .unset, .unset, .unset, .unset, .unset, .unset, .unset] [(.long x2)]))
    refine own_go (fun t k => XT.lstore X0.here hx rfl (hb hby at_33) rfl (l' := #[.val (.long x0), .second, .val (.long x1), .second, .val (.long x2), .second, .val (.long x3), .second, .val (.long x4), .second, .val (.int x5), .val (.long sS), .second, .val (.long a), .second, .val (.long x2), .second, .unset, .unset, .unset, .unset, .unset, .unset, .unset]) rfl k) ?_
    show own_G p e below s (own_Q0 n0) 0 0 (s₁.setTop (mkF m 35 #[.val (.long x0), .second, .val (.long x1), .second, .val (.long x2), .second, .val (.long x3), .second, .val (.long x4), .second, .val (.int x5), .val (.long sS), .second, .val (.long a), .second, .val (.long x2), .second, .unset, .unset, .unset, .unset, .unset, .unset, .unset] []))
    exact J35 _
  · skip
    refine own_go (fun t k => XS.ifNo X0.here hx rfl (hb hby at_24) rfl (XT.i0_eq_f h1) k) ?_
    show own_G p e below s (own_Q0 n0) 0 0 (s₁.setTop (mkF m 27 #[.val (.long x0), .second, .val (.long x1), .second, .val (.long x2), .second, .val (.long x3), .second, .val (.long x4), .second, .val (.int x5), .val (.long sS), .second, .val (.long a), .second, .unset, .unset, .unset, .unset, .unset, .unset, .unset, .unset, .unset] []))
    refine own_go (fun t k => XT.lloadN X0.here hx rfl (hb hby at_27) rfl k) ?_
    show own_G p e below s (own_Q0 n0) 0 0 (s₁.setTop (mkF m 28 #[.val (.long x0), .second, .val (.long x1), .second, .val (.long x2), .second, .val (.long x3), .second, .val (.long x4), .second, .val (.int x5), .val (.long sS), .second, .val (.long a), .second, .unset, .unset, .unset, .unset, .unset, .unset, .unset, .unset, .unset] [(.long x0)]))
    refine own_go (fun t k => XS.goto X0.here hx rfl (pc0 := 28) (pc' := 33) rfl (hb hby at_28) (by decide) (by decide) k) ?_
    show own_G p e below s (own_Q0 n0) 0 0 (s₁.setTop (mkF m 33 #[.val (.long x0), .second, .val (.long x1), .second, .val (.long x2), .second, .val (.long x3), .second, .val (.long x4), .second, .val (.int x5), .val (.long sS), .second, .val (.long a), .second, .unset, .unset, .unset, .unset, .unset, .unset, .unset, .unset, .unset] [(.long x0)]))
    refine own_go (fun t k => XT.lstore X0.here hx rfl (hb hby at_33) rfl (l' := #[.val (.long x0), .second, .val (.long x1), .second, .val (.long x2), .second, .val (.long x3), .second, .val (.long x4), .second, .val (.int x5), .val (.long sS), .second, .val (.long a), .second, .val (.long x0), .second, .unset, .unset, .unset, .unset, .unset, .unset, .unset]) rfl k) ?_
    show own_G p e below s (own_Q0 n0) 0 0 (s₁.setTop (mkF m 35 #[.val (.long x0), .second, .val (.long x1), .second, .val (.long x2), .second, .val (.long x3), .second, .val (.long x4), .second, .val (.int x5), .val (.long sS), .second, .val (.long a), .second, .val (.long x0), .second, .unset, .unset, .unset, .unset, .unset, .unset, .unset] []))
    exact J35 _
set_option maxRecDepth 65536 in
set_option maxHeartbeats 40000000 in
theorem comes_1 {Post : Tables → Env → Array Value → State → Outcome → State → Prop} (hpost : ∀ tb e args s v u, (limb_1_1.after args s (.returned v) u = true ∧ limb_1_2.after args s (.returned v) u = true ∧ True) → FrameEnd s (.returned v) u (Jvm.fieldLocs frame_1_writes args s ++ Jvm.arrayLocs frame_1_arrays args s ++ Jvm.staticLocs frame_1_statics s) 0 0 → Post tb e args s (.returned v) u) :
    ArmFor flags0 classFile x code maxLocals ret World_1 tables_1 room_1 Calls_1 rest_1 Pre_1 Post := by
  intro l hfl _ _ p e ha hc hk s m args below hf hA hF happ hP
  obtain ⟨hcalls, hrest, hpre⟩ := hP
  obtain ⟨-, -, -, hnamed, -, -, -, hat⟩ := (Spec.applies_iff hf).mp happ
  obtain ⟨hg, hn⟩ := and_e (Cond.before_iff.mp (show (Jvm.Cond.and given_1 narrow_1).before args s = true from hpre))
  obtain ⟨h1, r0⟩ := and_e hg
  obtain ⟨k0, r1⟩ := and_e r0
  obtain ⟨k1, r2⟩ := and_e r1
  obtain ⟨k2, r3⟩ := and_e r2
  obtain ⟨k3, r4⟩ := and_e r3
  obtain ⟨k4, r5⟩ := and_e r4
  obtain ⟨w0, w1, w2, w3, w4, w5, rfl⟩ : ∃ w0 w1 w2 w3 w4 w5 : Value, args = #[w0, w1, w2, w3, w4, w5] := by
    have hs : args.size = 6 := by simpa [Cond.value, given_1] using h1
    obtain ⟨L⟩ := args
    match L, hs with
    | [w0, w1, w2, w3, w4, w5], _ => exact ⟨w0, w1, w2, w3, w4, w5, rfl⟩
  have hw := fun d (hd : d ∈ tables_1) => atoms_spec (ws := Jvm.Cond.code x code maxLocals ret :: tables_1) hat d (List.mem_cons_of_mem _ hd)
  obtain ⟨i0, e0⟩ := isL_v k0
  obtain rfl : w0 = (.long i0) := Option.some.inj e0
  obtain ⟨i1, e1⟩ := isL_v k1
  obtain rfl : w1 = (.long i1) := Option.some.inj e1
  obtain ⟨i2, e2⟩ := isL_v k2
  obtain rfl : w2 = (.long i2) := Option.some.inj e2
  obtain ⟨i3, e3⟩ := isL_v k3
  obtain rfl : w3 = (.long i3) := Option.some.inj e3
  obtain ⟨i4, e4⟩ := isL_v k4
  obtain rfl : w4 = (.long i4) := Option.some.inj e4
  obtain ⟨i5, e5⟩ := is_v r5
  obtain rfl : w5 = (.int i5) := Option.some.inj e5
  obtain ⟨n, o, h1, h2, h3, _, L, rfl, ⟨rfl, N⟩, hq⟩ := rm0 l s _ hw tables_1 i0 i1 i2 i3 i4 i5 s.heap s.heap.size (Nat.le_refl _)  p e ha hc hk s m _ below hf ((Spec.applies_iff_loose hf).mp happ).1 ⟨rfl, State.Warmed39.refl s, rfl⟩ trivial
  refine ⟨n, _, h1, h2, h3, hpost _ _ _ _ _ _ ⟨Cond.after_iff.mpr rfl, Cond.after_iff.mpr (eq_i res_at (Term.int_eval (1)) rfl), trivial⟩ ⟨hq.1, hq.2.1, (hq.2.2.sift fun y hy => Or.inr (N y hy)).mono (by decide) (by decide)⟩⟩
theorem main_1_1 : Claimed_1_1 := comes_1 fun _ _ _ _ _ _ h hF => ⟨h.1, hF⟩
theorem main_1_2 : Claimed_1_2 := comes_1 fun _ _ _ _ _ _ h hF => ⟨h.2.1, hF⟩
end Jvm.Pilot.@@N@@
namespace Jvm.Pilot.@@N@@
open Jvm Jvm.ClassFile Sem Op Lib Jvm.Free Jvm.Stand Jvm.Pilot.@@N@@.Jvm.D
/-! MADE BY PROGRAM (witnessworld.py) out of the Statement's table words and the real class files: 7 classes; the members and pool entries that the words name. The judged class is class 1, her method 1. -/
namespace start1
open Jvm.ClassFile
def u (s : String) : CpInfo := .utf8 (stringToUtf16 s)
/-- a pool by its gaps: so many unusable entries, then the entry; so many at the end -/
def gap : Nat → List CpInfo → List CpInfo
  | 0, r => r
  | n + 1, r => .unusable :: gap n r
def poolList (es : List (Nat × CpInfo)) (last : Nat) : List CpInfo := es.foldr (fun e r => gap e.1 (e.2 :: r)) (gap last [])
def pool (es : List (Nat × CpInfo)) (last : Nat) : Array CpInfo := ⟨poolList es last⟩
def fileOf (pool : Array CpInfo) (this : Nat) (attrs : Array Attribute := #[]) (ms : Array MethodInfo := #[]) (fl : Nat := 33) (sup : Nat := 0) (ifs : Array Nat := #[]) (fds : Array FieldInfo := #[]) : ClassFile where
  minorVersion := 0
  majorVersion := 65
  constantPool := pool
  accessFlags := fl
  thisClass := this
  superClass := sup
  interfaces := ifs
  fields := fds
  methods := ms
  attributes := attrs
def plain (name : String) (sup : Option ClassId) : Class where
  name := name
  kind := .ordinary
  loader := none
  accessFlags := 33
  super := sup
  interfaces := #[]
  cf := none
  fields := #[]
  methods := #[]
  instanceTypes := #[]
  staticTypes := #[]
  resolved := #[]
  callSites := []
  init := .initialized
  statics := none
  mirror := none

def pool0 : Array CpInfo := pool [(5, u "<init>"), (0, u "()V"), (1, .class_ 10), (1, u "java/lang/Object")] 113

def k0m0 : Method := { name := "<init>", desc := "()V", sig := { parameters := [], returnType := none }, accessFlags := 1, code := none }
/-- java/lang/Object -/
def k0 : Class := { plain "java/lang/Object" none with
  accessFlags := 33
  interfaces := #[]
  cf := some (fileOf pool0 8 #[] #[{ accessFlags := 1, nameIndex := 5, descriptorIndex := 6, attributes := #[] }] 33 0 #[] #[])
  fields := #[]
  methods := #[k0m0]
  instanceTypes := #[]
  staticTypes := #[]
  resolved := Array.replicate 124 none
  statics := none }

def pool1 : Array CpInfo := pool [(2, .class_ 4), (1, u "java/lang/Object"), (0, u "<init>"), (0, u "()V"), (0, .long 4611686018427387903), (3, .long 9223372036854775807), (1, .methodref 14 15), (0, .class_ 16), (0, .nameAndType 17 18), (0, u "com/example/oyster/oyster/store/PermitTime"), (0, u "atLeast"), (0, u "(JJJJ)Z"), (0, .class_ 20), (0, u "com/example/oyster/oyster/store/PermitTimeAtLeastPinLaw"), (2, u "law"), (0, u "(JJJJJI)Z")] 3

def k1m0 : Method := { name := "<init>", desc := "()V", sig := { parameters := [], returnType := none }, accessFlags := 1, code := none }
def k1c1 : Code := { maxStack := 8, maxLocals := 24, code := code, exceptionTable := #[], attributes := #[] }
def k1m1 : Method := { name := "law", desc := "(JJJJJI)Z", sig := { parameters := [.long, .long, .long, .long, .long, .int], returnType := some .boolean }, accessFlags := 9, code := some k1c1 }
/-- com/example/oyster/oyster/store/PermitTimeAtLeastPinLaw -/
def k1 : Class := { plain "com/example/oyster/oyster/store/PermitTimeAtLeastPinLaw" (some 0) with
  accessFlags := 49
  interfaces := #[]
  cf := some (fileOf pool1 19 #[] #[{ accessFlags := 1, nameIndex := 5, descriptorIndex := 6, attributes := #[] }, { accessFlags := 9, nameIndex := 23, descriptorIndex := 24, attributes := #[] }] 49 2 #[] #[])
  fields := #[]
  methods := #[k1m0, k1m1]
  instanceTypes := #[]
  staticTypes := #[]
  resolved := Array.replicate 28 none
  statics := none }

def pool2 : Array CpInfo := pool [(3, .class_ 4), (0, u "com/example/oyster/oyster/store/PermitTime"), (10, u "lastAsked"), (0, u "Lcom/example/oyster/oyster/store/PermitTime$Asked;"), (1, .class_ 20), (1, u "com/example/oyster/oyster/store/PermitTime$Asked"), (13, u "KEPT"), (0, u "Ljava/util/Map;"), (68, .class_ 105), (0, u "java/lang/Object"), (6, u "LONGEST_PERIOD"), (0, u "Ljava/time/Duration;"), (60, u "slicesPerPermit"), (0, u "J"), (2, u "slicesPerMicro"), (2, u "permitMicros"), (2, u "permitSlices"), (13, u "warmUpSlices"), (2, u "fullMicros"), (2, u "fullSlices"), (39, u "Ljava/math/BigInteger;"), (5, u "LONG_MIN"), (5, u "LONG_MAX"), (54, u "MOST_WARM_UP_SLICES"), (1, u "NANOS_PER_MICRO"), (0, u "MOST_PERMITS"), (21, u "atLeast"), (0, u "(JJJJ)Z")] 32

def k2c0 : Code := { maxStack := 4, maxLocals := 8, code := prog_21_method_16_code, exceptionTable := #[], attributes := #[] }
def k2m0 : Method := { name := "atLeast", desc := "(JJJJ)Z", sig := { parameters := [.long, .long, .long, .long], returnType := some .boolean }, accessFlags := 9, code := some k2c0 }
/-- com/example/oyster/oyster/store/PermitTime -/
def k2 : Class := { plain "com/example/oyster/oyster/store/PermitTime" (some 0) with
  accessFlags := 49
  interfaces := #[]
  cf := some (fileOf pool2 3 #[.nestMembers #[18]] #[{ accessFlags := 9, nameIndex := 336, descriptorIndex := 337, attributes := #[] }] 49 104 #[] #[{ accessFlags := 25, nameIndex := 311, descriptorIndex := 175, attributes := #[] }, { accessFlags := 26, nameIndex := 313, descriptorIndex := 175, attributes := #[] }, { accessFlags := 26, nameIndex := 112, descriptorIndex := 113, attributes := #[] }, { accessFlags := 26, nameIndex := 314, descriptorIndex := 175, attributes := #[] }, { accessFlags := 26, nameIndex := 250, descriptorIndex := 244, attributes := #[] }, { accessFlags := 26, nameIndex := 256, descriptorIndex := 244, attributes := #[] }, { accessFlags := 26, nameIndex := 34, descriptorIndex := 35, attributes := #[] }, { accessFlags := 74, nameIndex := 15, descriptorIndex := 16, attributes := #[] }, { accessFlags := 18, nameIndex := 178, descriptorIndex := 175, attributes := #[] }, { accessFlags := 18, nameIndex := 174, descriptorIndex := 175, attributes := #[] }, { accessFlags := 18, nameIndex := 181, descriptorIndex := 175, attributes := #[] }, { accessFlags := 18, nameIndex := 184, descriptorIndex := 175, attributes := #[] }, { accessFlags := 18, nameIndex := 198, descriptorIndex := 175, attributes := #[] }, { accessFlags := 18, nameIndex := 201, descriptorIndex := 175, attributes := #[] }, { accessFlags := 18, nameIndex := 204, descriptorIndex := 175, attributes := #[] }])
  fields := #[{ name := "MOST_WARM_UP_SLICES", type := .long, accessFlags := 25, slot := 0, constantValue := 0 }, { name := "NANOS_PER_MICRO", type := .long, accessFlags := 26, slot := 1, constantValue := 0 }, { name := "LONGEST_PERIOD", type := (.object "java/time/Duration"), accessFlags := 26, slot := 2, constantValue := 0 }, { name := "MOST_PERMITS", type := .long, accessFlags := 26, slot := 3, constantValue := 0 }, { name := "LONG_MIN", type := (.object "java/math/BigInteger"), accessFlags := 26, slot := 4, constantValue := 0 }, { name := "LONG_MAX", type := (.object "java/math/BigInteger"), accessFlags := 26, slot := 5, constantValue := 0 }, { name := "KEPT", type := (.object "java/util/Map"), accessFlags := 26, slot := 6, constantValue := 0 }, { name := "lastAsked", type := (.object "com/example/oyster/oyster/store/PermitTime$Asked"), accessFlags := 74, slot := 7, constantValue := 0 }, { name := "slicesPerMicro", type := .long, accessFlags := 18, slot := 0, constantValue := 0 }, { name := "slicesPerPermit", type := .long, accessFlags := 18, slot := 1, constantValue := 0 }, { name := "permitMicros", type := .long, accessFlags := 18, slot := 2, constantValue := 0 }, { name := "permitSlices", type := .long, accessFlags := 18, slot := 3, constantValue := 0 }, { name := "warmUpSlices", type := .long, accessFlags := 18, slot := 4, constantValue := 0 }, { name := "fullMicros", type := .long, accessFlags := 18, slot := 5, constantValue := 0 }, { name := "fullSlices", type := .long, accessFlags := 18, slot := 6, constantValue := 0 }]
  methods := #[k2m0]
  instanceTypes := #[.long, .long, .long, .long, .long, .long, .long]
  staticTypes := #[.long, .long, (.object "java/time/Duration"), .long, (.object "java/math/BigInteger"), (.object "java/math/BigInteger"), (.object "java/util/Map"), (.object "com/example/oyster/oyster/store/PermitTime$Asked")]
  resolved := Array.replicate 370 none
  statics := none }

def pool3 : Array CpInfo := pool [(1, u "java/lang/Cloneable"), (0, .class_ 1), (0, u "java/lang/Object"), (0, .class_ 3)] 3

/-- java/lang/Cloneable -/
def k3 : Class := { plain "java/lang/Cloneable" (some 0) with
  accessFlags := 1537
  interfaces := #[]
  cf := some (fileOf pool3 2 #[] #[] 1537 4 #[] #[])
  fields := #[]
  methods := #[]
  instanceTypes := #[]
  staticTypes := #[]
  resolved := Array.replicate 8 none
  statics := none }

def pool4 : Array CpInfo := pool [(1, u "java/io/Serializable"), (0, .class_ 1), (0, u "java/lang/Object"), (0, .class_ 3)] 3

/-- java/io/Serializable -/
def k4 : Class := { plain "java/io/Serializable" (some 0) with
  accessFlags := 1537
  interfaces := #[]
  cf := some (fileOf pool4 2 #[] #[] 1537 4 #[] #[])
  fields := #[]
  methods := #[]
  instanceTypes := #[]
  staticTypes := #[]
  resolved := Array.replicate 8 none
  statics := none }

/-- the primitive byte -/
def k5 : Class := { plain "byte" none with kind := .primitive 'B', accessFlags := 0x411 }
/-- [B -/
def k6 : Class := { plain "[B" (some 0) with kind := .array 5 .byte, interfaces := #[3, 4], accessFlags := 1041 }

def heap : Heap := #[]
def classes : Array Class := #[k0, k1, k2, k3, k4, k5, k6]
def interned : List (Array UInt16 × Addr) := []
def slotsUsed : Nat := 0
def theMethod : MethodId := ⟨1, 1⟩
def args0 : Array Value := #[.long 5, .long 3, .long 4, .long 7, .long 9, .int 1]
def aboutOver (below : List Frame) : State where
  vm := { classes := classes, interned := interned.toArray }
  heap := heap
  slotsUsed := slotsUsed
  threads := #[{ frames := .invoking theMethod args0 :: below }]
def below0 : List Frame := [.native { method := ⟨0, 0⟩, args := #[] }]
def about1 : State := aboutOver below0
def p0 : Program := .bare "" "" ""
def e0 : Env := launch0.env 0 0 0
theorem w_frames : about1.frames = Frame.invoking theMethod args0 :: below0 := rfl
set_option maxRecDepth 65536 in
theorem w_args : argsFit about1.vm theMethod args0 = true := by decide +kernel
set_option maxRecDepth 65536 in
theorem w_heap : heapFits about1 = true := by decide +kernel
set_option maxRecDepth 65536 in
theorem w_runnable : about1.curStatus? = some .runnable := by decide +kernel
set_option maxRecDepth 65536 in
theorem w_alone : about1.alone = true := by decide +kernel
set_option maxRecDepth 65536 in
theorem w_named : about1.methodNamed? x = some theMethod := by decide +kernel
set_option maxRecDepth 65536 in
theorem w_hears : about1.hears theMethod below0 = true := by decide +kernel
set_option maxRecDepth 65536 in
theorem w_ripe : about1.ripe theMethod args0 below0 = true := by decide +kernel
theorem w_running : about1.status = .running := rfl
set_option maxRecDepth 65536 in
theorem w_room : about1.hasRoom e0.platform room_1 = true :=
  launch0.hasRoom_least _ room_1 (by decide +kernel) (by decide +kernel) (by decide +kernel) (by decide +kernel) (by decide +kernel) (by decide +kernel)
theorem allAtoms_all (ts : List Jvm.Cond) (a : Array Jvm.Value) (st : Jvm.State) : (allAtoms ts).before a st = ts.all (fun c => c.before a st) := by
  induction ts with
  | nil => rfl
  | cons c t ih =>
    show (Jvm.Cond.and c (allAtoms t)).before a st = _
    rw [Jvm.Cond.before_and, ih, List.all_cons]
def words1 : List Jvm.Cond := Jvm.Cond.code x code maxLocals ret :: tables_1
/-- a 'code' word, met by the world's own term for the bytes: nothing is compared byte by byte -/
theorem code_word {y : MethodName} {bytes : ByteArray} {mx : Nat} {rt : Option FieldType} {a : Array Value} {s : State} {m : MethodId} {meth : Method} {c : Code} (h1 : s.methodNamed? y = some m) (h2 : s.vm.method? m = some meth) (h3 : meth.code = some c) (h4 : c.code = bytes)
    (h5 : (c.maxLocals == mx && c.exceptionTable.isEmpty && decide (c.maxStack ≤ mostOperands) && decide (meth.sig.returnType = rt) && !meth.locks && decide (parseMethodDescriptor y.desc = some meth.sig)) = true) : (Jvm.Cond.code y bytes mx rt).before a s = true := by
  simp only [Bool.and_eq_true, beq_iff_eq, Bool.not_eq_true', decide_eq_true_eq] at h5
  obtain ⟨⟨⟨⟨⟨g1, g2⟩, g3⟩, g4⟩, g5⟩, g6⟩ := h5
  simp [Cond.before, Cond.holds, Cond.value, h1, h2, h3, h4, g1, g2, g3, g4, g5, g6]
def isCode : Jvm.Cond → Bool
  | .code _ _ _ _ => true
  | _ => false
theorem all_split {L : List Jvm.Cond} {P : Jvm.Cond → Bool} (h1 : L.all (fun c => isCode c || P c) = true) (h2 : ∀ c ∈ L.filter isCode, P c = true) : L.all P = true := by
  refine List.all_eq_true.mpr fun c hc => ?_
  have h := List.all_eq_true.mp h1 c hc
  rcases Bool.eq_false_or_eq_true (isCode c) with hi | hi
  · exact h2 c (List.mem_filter.mpr ⟨hc, hi⟩)
  · simpa [hi] using h
set_option maxRecDepth 65536 in
theorem w_c0 : (Jvm.Cond.code x code maxLocals ret).before args0 about1 = true := code_word (m := ⟨1, 1⟩) (meth := k1m1) (c := k1c1) (by decide +kernel) rfl rfl rfl (by decide +kernel)
set_option maxRecDepth 65536 in
theorem w_c1 : (Jvm.Cond.code ({ cls := "com/example/oyster/oyster/store/PermitTime", name := "atLeast", desc := "(JJJJ)Z" } : Jvm.MethodName) prog_21_method_16_code (8 : Nat) (Option.some Jvm.ClassFile.FieldType.boolean)).before args0 about1 = true := code_word (m := ⟨2, 0⟩) (meth := k2m0) (c := k2c0) (by decide +kernel) rfl rfl rfl (by decide +kernel)
def codes1 : List Jvm.Cond := [Jvm.Cond.code x code maxLocals ret, Jvm.Cond.code ({ cls := "com/example/oyster/oyster/store/PermitTime", name := "atLeast", desc := "(JJJJ)Z" } : Jvm.MethodName) prog_21_method_16_code (8 : Nat) (Option.some Jvm.ClassFile.FieldType.boolean)]
set_option maxRecDepth 65536 in
theorem codes_eq : words1.filter isCode = codes1 := rfl
theorem w_codes : ∀ c ∈ words1.filter isCode, c.before args0 about1 = true := by
  rw [codes_eq]
  intro c hc
  simp only [codes1, List.mem_cons, List.not_mem_nil, or_false] at hc
  rcases hc with rfl | rfl
  · exact w_c0
  · exact w_c1
set_option maxRecDepth 65536 in
theorem w_t1 : words1.all (fun c => isCode c || c.before args0 about1) = true := by decide +kernel
theorem w_tables : (allAtoms (Jvm.Cond.code x code maxLocals ret :: tables_1)).before args0 about1 = true := by
  rw [allAtoms_all]
  show words1.all (fun c => c.before args0 about1) = true
  refine all_split ?_ w_codes
  rw [w_t1]
set_option maxRecDepth 65536 in
theorem w_case : (Jvm.Cond.and given_1 narrow_1).before args0 about1 = true := by decide +kernel
theorem w_applies : (headSpec (Jvm.Cond.code x code maxLocals ret :: tables_1) room_1).applies x e0.platform about1 = true :=
  (Spec.applies_iff w_frames).mpr ⟨w_running, w_runnable, w_alone, w_named, w_hears, w_ripe, w_room, w_tables⟩
theorem atStart : AtStart classFile x code maxLocals ret World_1 tables_1 room_1 Calls_1 rest_1 Pre_1 launch0 p0 e0 about1 theMethod args0 below0 :=
  ⟨lists_1, trivial, launch0.admits_env _ _ _, launch0.least_env, fairChoices_fair.cas, fairChoices_fair.clock, w_frames, w_args, w_heap, w_applies, trivial, trivial, w_case⟩
end start1
theorem witness_1 : WitnessClaimed_1 := ⟨start1.p0, start1.e0, start1.about1, start1.theMethod, start1.args0, start1.below0, start1.atStart⟩
end Jvm.Pilot.@@N@@
