import JvmDerived
import JvmDerived.Pilot.@@N@@Statement
import JvmDerived.Pilot.@@N@@Code
set_option linter.unusedVariables false
set_option linter.unusedSimpArgs false
namespace Jvm.Pilot.@@N@@
open Jvm Jvm.ClassFile Sem Op Lib Jvm.Free Jvm.Stand Jvm.LawKit Jvm.RoadKit Bundle Jvm.Pilot.@@N@@.Jvm.D
/-- what a walk that stands at A still owes -/
def own_G (p : Program) (e : Env) (below : List Frame) (s : State) (Q : Option Value → Heap → List Loc → Prop) (rc rs : Nat) (A : State) : Prop :=
  ∃ s₂ o, Steps p.tables e below A s₂ ∧ s₂.status = .running ∧ Ended s₂ below o ∧ ∃ v L, o = .returned v ∧ Q v s₂.heap L ∧ FrameEnd s o s₂ L rc rs
theorem own_go {p : Program} {e : Env} {below : List Frame} {s : State} {Q : Option Value → Heap → List Loc → Prop} {rc rs : Nat} {A B : State} (st : ∀ t, Steps p.tables e below B t → Steps p.tables e below A t) (k : own_G p e below s Q rc rs B) : own_G p e below s Q rc rs A := by
  obtain ⟨s₂, o, h, r⟩ := k
  exact ⟨s₂, o, st _ h, r⟩
theorem own_leave {p : Program} {l : Launch} {e : Env} {R : Room} {s : State} {m : MethodId} {args : Array Value} {below : List Frame} {meth : Method} {c : Code} {T : State} {locs : List Loc} {cells slots : Nat} {Q : Option Value → Heap → List Loc → Prop} {rc rs : Nat} {g : JFrame} (X : Stand p l e R s m args below meth c T locs cells slots) (v : Option Value) (hv : meth.sig.returnType = none → v = none) (hlk : meth.locks = false)
    (st : ∀ fs, (∀ (f : JFrame) (acts : List Action), f.method = m → f.locked = none → f.entered = [] → (doReturn e (T.setTop f) acts v).1 = T.setFrames fs) → Steps p.tables e below (T.setTop g) (T.setFrames fs)) (hQ : Q v T.heap locs) (hc : cells ≤ rc) (hs : slots ≤ rs) : own_G p e below s Q rc rs (T.setTop g) := by
  obtain ⟨fs, hr, hrun, hended, hW, hsame⟩ := X.leave (v := v) hv hlk
  exact ⟨_, _, st fs hr, hrun, hended, _, _, rfl, hQ, ⟨_, rfl⟩, hW, hsame.mono hc hs⟩
/-- Op.of, begins (with BEGIN, BEGIN_END) and ends (with END, BEGIN_END) -/
def own_of (aB aX aE aK : Addr) (b e : Int32) : Addr := if b = 0 then (if e = 0 then aK else aE) else (if e = 0 then aB else aX)
def own_is (aB aX o : Addr) : Int32 := if o = aB then 1 else if o = aX then 1 else 0
theorem own_is_1 {aB aX o : Addr} (h : o = aB) : own_is aB aX o = 1 := if_pos h
theorem own_is_2 {aB aX o : Addr} (h : ¬ o = aB) (h2 : o = aX) : own_is aB aX o = 1 := (if_neg h).trans (if_pos h2)
theorem own_is_0 {aB aX o : Addr} (h : ¬ o = aB) (h2 : ¬ o = aX) : own_is aB aX o = 0 := (if_neg h).trans (if_neg h2)
theorem own_one_ne : ¬ (1 : Int32) = 0 := by decide
theorem own_of_begins {aB aX aE aK : Addr} {b e : Int32} (nKB : aK ≠ aB) (nKX : aK ≠ aX) (nEB : aE ≠ aB) (nEX : aE ≠ aX) (hb : b = 0 ∨ b = 1) : own_is aB aX (own_of aB aX aE aK b e) = b := by
  rcases hb with rfl | rfl
  · by_cases he : e = 0
    · rw [show own_of aB aX aE aK 0 e = aK from (if_pos rfl).trans (if_pos he)]; exact own_is_0 nKB nKX
    · rw [show own_of aB aX aE aK 0 e = aE from (if_pos rfl).trans (if_neg he)]; exact own_is_0 nEB nEX
  · by_cases he : e = 0
    · rw [show own_of aB aX aE aK 1 e = aB from (if_neg own_one_ne).trans (if_pos he)]; exact own_is_1 rfl
    · rw [show own_of aB aX aE aK 1 e = aX from (if_neg own_one_ne).trans (if_neg he)]
      by_cases q : aX = aB
      · exact own_is_1 q
      · exact own_is_2 q rfl
theorem own_of_ends {aB aX aE aK : Addr} {b e : Int32} (nKE : aK ≠ aE) (nKX : aK ≠ aX) (nBE : aB ≠ aE) (nBX : aB ≠ aX) (he : e = 0 ∨ e = 1) : own_is aE aX (own_of aB aX aE aK b e) = e := by
  rcases he with rfl | rfl
  · by_cases hb : b = 0
    · rw [show own_of aB aX aE aK b 0 = aK from (if_pos hb).trans (if_pos rfl)]; exact own_is_0 nKE nKX
    · rw [show own_of aB aX aE aK b 0 = aB from (if_neg hb).trans (if_pos rfl)]; exact own_is_0 nBE nBX
  · by_cases hb : b = 0
    · rw [show own_of aB aX aE aK b 1 = aE from (if_pos hb).trans (if_neg own_one_ne)]; exact own_is_1 rfl
    · rw [show own_of aB aX aE aK b 1 = aX from (if_neg hb).trans (if_neg own_one_ne)]
      by_cases q : aX = aE
      · exact own_is_1 q
      · exact own_is_2 q rfl
theorem own_of_exa {P : Addr → Prop} {aB aX aE aK : Addr} (b e : Int32) (pB : P aB) (pX : P aX) (pE : P aE) (pK : P aK) : P (own_of aB aX aE aK b e) := by
  by_cases hb : b = 0
  · by_cases he : e = 0
    · rw [show own_of aB aX aE aK b e = aK from (if_pos hb).trans (if_pos he)]; exact pK
    · rw [show own_of aB aX aE aK b e = aE from (if_pos hb).trans (if_neg he)]; exact pE
  · by_cases he : e = 0
    · rw [show own_of aB aX aE aK b e = aB from (if_neg hb).trans (if_pos he)]; exact pB
    · rw [show own_of aB aX aE aK b e = aX from (if_neg hb).trans (if_neg he)]; exact pX
theorem own_ord {args : Array Value} {s : State} {t : Term} {a : Addr} {z : Int32} (ht : t.eval args s none [] s = some (.ref a)) (h : (Jvm.Cond.eq (.field t "java/lang/Enum" "ordinal" "I") (.int z)).value args s none s [] = some true) : Fld s s.heap a "java/lang/Enum" "ordinal" "I" (.int z) := by
  obtain ⟨x, y, hx, hy, k1, k2⟩ := cmp_v (Or.inl h)
  obtain rfl : y = .int z := Option.some.inj (hy.symm.trans (Term.int_eval z))
  obtain ⟨w, rfl⟩ := k2
  obtain rfl : w = z := gotT (Cond.eq_ints hx (Term.int_eval z)) h
  exact Fld.start ((fld_at ht).symm.trans hx)
theorem d1_0 : decode prog_116_method_5_code 0 = .ok (.aload_n 0, 1) := by decide +kernel
theorem d1_1 : decode prog_116_method_5_code 1 = .ok (.getstatic 3, 3) := by decide +kernel
theorem d1_4 : decode prog_116_method_5_code 4 = .ok (.if_acmp .eq 10, 3) := by decide +kernel
theorem d1_7 : decode prog_116_method_5_code 7 = .ok (.aload_n 0, 1) := by decide +kernel
theorem d1_8 : decode prog_116_method_5_code 8 = .ok (.getstatic 13, 3) := by decide +kernel
theorem d1_11 : decode prog_116_method_5_code 11 = .ok (.if_acmp .ne 7, 3) := by decide +kernel
theorem d1_14 : decode prog_116_method_5_code 14 = .ok (.iconst 1, 1) := by decide +kernel
theorem d1_15 : decode prog_116_method_5_code 15 = .ok (.goto 4, 3) := by decide +kernel
theorem d1_18 : decode prog_116_method_5_code 18 = .ok (.iconst 0, 1) := by decide +kernel
theorem d1_19 : decode prog_116_method_5_code 19 = .ok (.ireturn, 1) := by decide +kernel
theorem pnOp : plainName "com/example/packwire/packwire/wire/Frame$Op" = true := by first | (simp [plainName, overriddenIn]; done) | decide +kernel
def own_Qi (z : Int32) (h0 : Heap) (v : Option Value) (h : Heap) (L : List Loc) : Prop := v = some (.int z) ∧ L = [] ∧ h = h0
def own_Qa (z : Addr) (h0 : Heap) (v : Option Value) (h : Heap) (L : List Loc) : Prop := v = some (.ref z) ∧ L = [] ∧ h = h0
theorem pd1 : parseMethodDescriptor "()Z" = some ⟨[], some .boolean⟩ := by decide +kernel
theorem ef1 (m : MethodId) (x0 : Addr) : entryFrame m #[(.ref x0)] 1 = mkF m 0 #[.val (.ref x0)] [] := by first | (simp [entryFrame, mkF, argsToLocals, Value.category]; done) | rfl
set_option maxRecDepth 65536 in
set_option maxHeartbeats 40000000 in
theorem rm1 (l : Launch) (Z : State) (a0 : Array Value) (hw : ∀ d ∈ tables_1, d.before a0 Z = true) (ws : List Jvm.Cond) (ob aB aX : Addr) (h0 : Heap) (SB : Sta Z h0 "com/example/packwire/packwire/wire/Frame$Op" "BEGIN" "Lcom/example/packwire/packwire/wire/Frame$Op;" (.ref aB)) (SX : Sta Z h0 "com/example/packwire/packwire/wire/Frame$Op" "BEGIN_END" "Lcom/example/packwire/packwire/wire/Frame$Op;" (.ref aX)) :
    MetFree l (⟨"com/example/packwire/packwire/wire/Frame$Op", "begins", "()Z"⟩ : MethodName) (head1 (Jvm.Cond.code (⟨"com/example/packwire/packwire/wire/Frame$Op", "begins", "()Z"⟩ : MethodName) prog_116_method_5_code 1 (some .boolean) :: ws) ({ frames := 0, cells := 0, slots := 0, locals := 0 } : Room)) (fun a U => a = #[(.ref ob)] ∧ Z.Warmed39 U.vm ∧ U.heap = h0) (fun _ _ _ _ _ => True) (fun _ U o U' => ∃ v L, o = .returned v ∧ own_Qi (own_is aB aX ob) h0 v U'.heap L ∧ FrameEnd U o U' L ({ frames := 0, cells := 0, slots := 0, locals := 0 } : Room).cells ({ frames := 0, cells := 0, slots := 0, locals := 0 } : Room).slots) := by
  refine MetFree.of_bodySF (plainFor_of_name pnOp) hisR ?_
  intro p e s m args below meth c s₁ Bd hml0 hP hK
  obtain ⟨rfl, hZ, hh⟩ := hP
  have hx := Bd.exec
  have hby := Bd.bytes
  have hml : c.maxLocals = 1 := hml0
  have hown : s.vm.findClass "com/example/packwire/packwire/wire/Frame$Op" = some m.cls := findClass_of_methodNamed Bd.named
  have hnm := (name_of_methodNamed Bd.named Bd.method).1
  have X0 : Stand p l e ({ frames := 0, cells := 0, slots := 0, locals := 0 } : Room) s m #[(.ref ob)] below meth c s₁ [] 0 0 := Stand.of_body Bd
  have e0 : s₁.heap = h0 := by rw [← hh, Bd.state]; rfl
  refine (show own_G p e below s (own_Qi (own_is aB aX ob) h0) 0 0 (s₁.setTop (entryFrame m #[(.ref ob)] 1)) → _ from fun k => k) ?_
  refine own_go (fun t k => castTop (ef1 m ob) k) ?_
  show own_G p e below s (own_Qi (own_is aB aX ob) h0) 0 0 (s₁.setTop (mkF m 0 #[.val (.ref ob)] []))
  refine own_go (fun t k => XS.aloadN X0.here hx rfl (hb hby d1_0) rfl rfl k) ?_
  show own_G p e below s (own_Qi (own_is aB aX ob) h0) 0 0 (s₁.setTop (mkF m 1 #[.val (.ref ob)] [(.ref ob)]))
  obtain ⟨T101, X101, e101, st101⟩ := getS X0 hx hZ (host := "") hown (hw _ (List.mem_of_getElem? (i := 8) rfl)) Via.refl e0 SB (g := (mkF m 1 #[.val (.ref ob)] [(.ref ob)])) rfl (hb hby d1_1)
  refine own_go st101 ?_
  show own_G p e below s (own_Qi (own_is aB aX ob) h0) 0 0 (T101.setTop (mkF m 4 #[.val (.ref ob)] [(.ref aB), (.ref ob)]))
  by_cases h1 : ob = aB
  · skip
    refine own_go (fun t k => XT.acmpYes X101.here hx rfl (pc0 := 4) (pc' := 14) rfl (hb hby d1_4) rfl rfl rfl (XT.aa_eq_t (congrArg Value.ref h1)) (by decide) (by decide) k) ?_
    show own_G p e below s (own_Qi (own_is aB aX ob) h0) 0 0 (T101.setTop (mkF m 14 #[.val (.ref ob)] []))
    refine own_go (fun t k => XS.iconst X101.here hx rfl (hb hby d1_14) k) ?_
    show own_G p e below s (own_Qi (own_is aB aX ob) h0) 0 0 (T101.setTop (mkF m 15 #[.val (.ref ob)] [(.int (1 : Int32))]))
    refine own_go (fun t k => XS.goto X101.here hx rfl (pc0 := 15) (pc' := 19) rfl (hb hby d1_15) (by decide) (by decide) k) ?_
    show own_G p e below s (own_Qi (own_is aB aX ob) h0) 0 0 (T101.setTop (mkF m 19 #[.val (.ref ob)] [(.int (1 : Int32))]))
    exact own_leave X101 (some (.int (1 : Int32))) (fun h => by rw [Bd.returns] at h; cases h) Bd.notSynchronized (fun fs hr => retN X101 hx (t := .boolean) Bd.returns (by simp) (hb hby d1_19) hr) ⟨congrArg (fun z => some (Value.int z)) (own_is_1 h1).symm, rfl, e101⟩ (by decide) (by decide)
  · skip
    refine own_go (fun t k => XT.acmpNo X101.here hx rfl (hb hby d1_4) rfl rfl rfl (XT.aa_eq_f (fun q => h1 (Value.ref.inj q))) k) ?_
    show own_G p e below s (own_Qi (own_is aB aX ob) h0) 0 0 (T101.setTop (mkF m 7 #[.val (.ref ob)] []))
    refine own_go (fun t k => XS.aloadN X101.here hx rfl (hb hby d1_7) rfl rfl k) ?_
    show own_G p e below s (own_Qi (own_is aB aX ob) h0) 0 0 (T101.setTop (mkF m 8 #[.val (.ref ob)] [(.ref ob)]))
    obtain ⟨T102, X102, e102, st102⟩ := getS X101 hx hZ (host := "") hown (hw _ (List.mem_of_getElem? (i := 11) rfl)) Via.refl e101 SX (g := (mkF m 8 #[.val (.ref ob)] [(.ref ob)])) rfl (hb hby d1_8)
    refine own_go st102 ?_
    show own_G p e below s (own_Qi (own_is aB aX ob) h0) 0 0 (T102.setTop (mkF m 11 #[.val (.ref ob)] [(.ref aX), (.ref ob)]))
    by_cases h2 : ob = aX
    · skip
      refine own_go (fun t k => XT.acmpNo X102.here hx rfl (hb hby d1_11) rfl rfl rfl (XT.aa_ne_f (congrArg Value.ref h2)) k) ?_
      show own_G p e below s (own_Qi (own_is aB aX ob) h0) 0 0 (T102.setTop (mkF m 14 #[.val (.ref ob)] []))
      refine own_go (fun t k => XS.iconst X102.here hx rfl (hb hby d1_14) k) ?_
      show own_G p e below s (own_Qi (own_is aB aX ob) h0) 0 0 (T102.setTop (mkF m 15 #[.val (.ref ob)] [(.int (1 : Int32))]))
      refine own_go (fun t k => XS.goto X102.here hx rfl (pc0 := 15) (pc' := 19) rfl (hb hby d1_15) (by decide) (by decide) k) ?_
      show own_G p e below s (own_Qi (own_is aB aX ob) h0) 0 0 (T102.setTop (mkF m 19 #[.val (.ref ob)] [(.int (1 : Int32))]))
      exact own_leave X102 (some (.int (1 : Int32))) (fun h => by rw [Bd.returns] at h; cases h) Bd.notSynchronized (fun fs hr => retN X102 hx (t := .boolean) Bd.returns (by simp) (hb hby d1_19) hr) ⟨congrArg (fun z => some (Value.int z)) (own_is_2 h1 h2).symm, rfl, e102⟩ (by decide) (by decide)
    · skip
      refine own_go (fun t k => XT.acmpYes X102.here hx rfl (pc0 := 11) (pc' := 18) rfl (hb hby d1_11) rfl rfl rfl (XT.aa_ne_t (fun q => h2 (Value.ref.inj q))) (by decide) (by decide) k) ?_
      show own_G p e below s (own_Qi (own_is aB aX ob) h0) 0 0 (T102.setTop (mkF m 18 #[.val (.ref ob)] []))
      refine own_go (fun t k => XS.iconst X102.here hx rfl (hb hby d1_18) k) ?_
      show own_G p e below s (own_Qi (own_is aB aX ob) h0) 0 0 (T102.setTop (mkF m 19 #[.val (.ref ob)] [(.int (0 : Int32))]))
      exact own_leave X102 (some (.int (0 : Int32))) (fun h => by rw [Bd.returns] at h; cases h) Bd.notSynchronized (fun fs hr => retN X102 hx (t := .boolean) Bd.returns (by simp) (hb hby d1_19) hr) ⟨congrArg (fun z => some (Value.int z)) (own_is_0 h1 h2).symm, rfl, e102⟩ (by decide) (by decide)
theorem pn0 : plainName "com/example/packwire/packwire/wire/OpBeginsPinLaw" = true := by first | (simp [plainName, overriddenIn]; done) | decide +kernel
theorem ef0 (m : MethodId) (x0 : Int32) : entryFrame m #[(.int x0)] maxLocals = mkF m 0 #[.val (.int x0), .unset, .unset, .unset] [] := by first | (simp [entryFrame, mkF, argsToLocals, Value.category, maxLocals]; done) | rfl
def own_Q0 (n0 : Nat) (v : Option Value) (h : Heap) (L : List Loc) : Prop := v = some (.int 1) ∧ Fr n0 L
set_option maxRecDepth 65536 in
set_option maxHeartbeats 40000000 in
theorem rm0 (l : Launch) (Z : State) (a0 : Array Value) (hw : ∀ d ∈ tables_1, d.before a0 Z = true) (ws : List Jvm.Cond) (x0 : Int32) (h0 : Heap) (n0 : Nat) (Z0 : n0 ≤ h0.size) (aB aX aE aK : Addr) (SB : Sta Z h0 "com/example/packwire/packwire/wire/Frame$Op" "BEGIN" "Lcom/example/packwire/packwire/wire/Frame$Op;" (.ref aB)) (SX : Sta Z h0 "com/example/packwire/packwire/wire/Frame$Op" "BEGIN_END" "Lcom/example/packwire/packwire/wire/Frame$Op;" (.ref aX)) (SE : Sta Z h0 "com/example/packwire/packwire/wire/Frame$Op" "END" "Lcom/example/packwire/packwire/wire/Frame$Op;" (.ref aE)) (SK : Sta Z h0 "com/example/packwire/packwire/wire/Frame$Op" "KEEP" "Lcom/example/packwire/packwire/wire/Frame$Op;" (.ref aK)) (EB : Exa Z h0 aB "com/example/packwire/packwire/wire/Frame$Op") (EX : Exa Z h0 aX "com/example/packwire/packwire/wire/Frame$Op") (EE : Exa Z h0 aE "com/example/packwire/packwire/wire/Frame$Op") (EK : Exa Z h0 aK "com/example/packwire/packwire/wire/Frame$Op") (nKB : aK ≠ aB) (nKX : aK ≠ aX) (nEB : aE ≠ aB) (nEX : aE ≠ aX) (nKE : aK ≠ aE) (nBE : aB ≠ aE) (nBX : aB ≠ aX) (nXE : aX ≠ aE) (nXB : aX ≠ aB) :
    MetFree l x (head1 (Jvm.Cond.code x code maxLocals ret :: ws) room_1) (fun a U => a = #[(.int x0)] ∧ Z.Warmed39 U.vm ∧ U.heap = h0) (fun _ _ _ _ _ => True) (fun _ U o U' => ∃ v L, o = .returned v ∧ own_Q0 n0 v U'.heap L ∧ FrameEnd U o U' L 0 0) := by
  refine MetFree.of_bodySF (plainFor_of_name pn0) hisR ?_
  intro p e s m args below meth c s₁ Bd hml0 hP hK
  obtain ⟨rfl, hZ, hh⟩ := hP
  have hx := Bd.exec
  have hby := Bd.bytes
  have hml : c.maxLocals = 4 := hml0
  have hown : s.vm.findClass "com/example/packwire/packwire/wire/OpBeginsPinLaw" = some m.cls := findClass_of_methodNamed Bd.named
  have hnm := (name_of_methodNamed Bd.named Bd.method).1
  have X0 : Stand p l e room_1 s m #[(.int x0)] below meth c s₁ [] 0 0 := Stand.of_body Bd
  have e0 : s₁.heap = h0 := by rw [← hh, Bd.state]; rfl
  refine (show own_G p e below s (own_Q0 n0) 0 0 (s₁.setTop (entryFrame m #[(.int x0)] maxLocals)) → _ from fun k => k) ?_
  refine own_go (fun t k => castTop (ef0 m x0) k) ?_
  show own_G p e below s (own_Q0 n0) 0 0 (s₁.setTop (mkF m 0 #[.val (.int x0), .unset, .unset, .unset] []))
  refine own_go (fun t k => XS.iloadN X0.here hx rfl (hb hby at_0) rfl k) ?_
  show own_G p e below s (own_Q0 n0) 0 0 (s₁.setTop (mkF m 1 #[.val (.int x0), .unset, .unset, .unset] [(.int x0)]))
  refine own_go (fun t k => XS.iconst X0.here hx rfl (hb hby at_1) k) ?_
  show own_G p e below s (own_Q0 n0) 0 0 (s₁.setTop (mkF m 2 #[.val (.int x0), .unset, .unset, .unset] [(.int (3 : Int32)), (.int x0)]))
  refine own_go (fun t k => XS.iand X0.here hx rfl (hb hby at_2) rfl k) ?_
  show own_G p e below s (own_Q0 n0) 0 0 (s₁.setTop (mkF m 3 #[.val (.int x0), .unset, .unset, .unset] [(.int (x0 &&& (3 : Int32)))]))
  refine own_go (fun t k => XS.istoreN X0.here hx rfl (hb hby at_3) rfl (l' := #[.val (.int x0), .val (.int (x0 &&& (3 : Int32))), .unset, .unset]) rfl k) ?_
  show own_G p e below s (own_Q0 n0) 0 0 (s₁.setTop (mkF m 4 #[.val (.int x0), .val (.int (x0 &&& (3 : Int32))), .unset, .unset] []))
  suffices own_n_i : ∀ i : Int32, i = (x0 &&& (3 : Int32)) → own_G p e below s (own_Q0 n0) 0 0 (s₁.setTop (mkF m 4 #[.val (.int x0), .val (.int i), .unset, .unset] [])) from own_n_i _ rfl
  intro i h_i
  have J51 : ∀ (TJ : State) (XJ : Stand p l e room_1 s m #[(.int x0)] below meth c TJ [] 0 0) (eJ : TJ.heap = h0) (o : Addr) (ex : Int32) (Eo : Exa Z h0 o "com/example/packwire/packwire/wire/Frame$Op") (hex : own_is aB aX o = ex), own_G p e below s (own_Q0 n0) 0 0 (TJ.setTop (mkF m 51 #[.val (.int x0), .val (.int i), .val (.ref o), .val (.int ex)] [])) := by
    intro TJ XJ eJ o ex Eo hex
    refine own_go (fun t k => XS.aloadN XJ.here hx rfl (hb hby at_51) rfl rfl k) ?_
    show own_G p e below s (own_Q0 n0) 0 0 (TJ.setTop (mkF m 52 #[.val (.int x0), .val (.int i), .val (.ref o), .val (.int ex)] [(.ref o)]))
    obtain ⟨cq103, kq103, q103a, q103b, q103c⟩ := isOf hZ eJ Eo
    obtain ⟨_, _, ⟨T103, L103, k103, n103⟩, -, X103, ⟨Lc103, hQ103, l103, y103, z103⟩, st103⟩ := XJ.virtualBack hx (y := (⟨"com/example/packwire/packwire/wire/Frame$Op", "begins", "()Z"⟩ : MethodName)) (z := (⟨"com/example/packwire/packwire/wire/Frame$Op", "begins", "()Z"⟩ : MethodName)) hown (mvT hZ (hw _ (List.mem_of_getElem? (i := 3) rfl))) (mvT hZ (hw _ (List.mem_of_getElem? (i := 4) rfl))) (notFace_of_selects (args := #[]) (mvT hZ (hw _ (List.mem_of_getElem? (i := 6) rfl)))) (mvT hZ (hw _ (List.mem_of_getElem? (i := 6) rfl))) (mvT hZ (hw _ (List.mem_of_getElem? (i := 5) rfl))) (by decide) (backOf (W := 0) (rm1 l Z a0 hw [] o aB aX h0 SB SX) hZ (hw _ (List.mem_of_getElem? (i := 7) rfl)) (hw _ (List.mem_of_getElem? (i := 1) rfl)) (by decide) (by decide)) q103a q103c (g := (mkF m 52 #[.val (.int x0), .val (.int i), .val (.ref o), .val (.int ex)] [(.ref o)])) rfl (by rw [hml]; rfl) (Steps.refl _) (argsL := []) (rest := []) (lenOf pd1 rfl) rfl (by show 2 * 0 + _ ≤ _; exact Nat.le_of_eq rfl) (hb hby at_52) (fun _ _ => ⟨rfl, eJ, (by decide : 0 + 0 ≤ _), (by decide : 0 + 0 ≤ _)⟩)
    dsimp only [Pt.U, Pt.locs, Pt.cells, Pt.slots] at X103 l103 y103 z103 st103 hQ103
    subst l103 y103 z103
    obtain ⟨rfl, rfl, e103⟩ := hQ103
    refine own_go (fun t k => st103.trans k) ?_
    show own_G p e below s (own_Q0 n0) 0 0 (T103.setTop (mkF m 55 #[.val (.int x0), .val (.int i), .val (.ref o), .val (.int ex)] [(.int (own_is aB aX o))]))
    refine own_go (fun t k => XS.iloadN X103.here hx rfl (hb hby at_55) rfl k) ?_
    show own_G p e below s (own_Q0 n0) 0 0 (T103.setTop (mkF m 56 #[.val (.int x0), .val (.int i), .val (.ref o), .val (.int ex)] [(.int ex), (.int (own_is aB aX o))]))
    refine own_go (fun t k => XS.icmpNo X103.here hx rfl (hb hby at_56) rfl (XT.ii_ne_f hex) k) ?_
    show own_G p e below s (own_Q0 n0) 0 0 (T103.setTop (mkF m 59 #[.val (.int x0), .val (.int i), .val (.ref o), .val (.int ex)] []))
    refine own_go (fun t k => XS.iconst X103.here hx rfl (hb hby at_59) k) ?_
    show own_G p e below s (own_Q0 n0) 0 0 (T103.setTop (mkF m 60 #[.val (.int x0), .val (.int i), .val (.ref o), .val (.int ex)] [(.int (1 : Int32))]))
    refine own_go (fun t k => XS.goto X103.here hx rfl (pc0 := 60) (pc' := 64) rfl (hb hby at_60) (by decide) (by decide) k) ?_
    show own_G p e below s (own_Q0 n0) 0 0 (T103.setTop (mkF m 64 #[.val (.int x0), .val (.int i), .val (.ref o), .val (.int ex)] [(.int (1 : Int32))]))
    exact own_leave X103 (some (.int (1 : Int32))) (fun h => by rw [Bd.returns] at h; cases h) Bd.notSynchronized (fun fs hr => retN X103 hx (t := .boolean) Bd.returns (by simp) (hb hby at_64) hr) ⟨rfl, (Fr.app (Fr.nil n0) (Fr.nil n0))⟩ (by decide) (by decide)
  refine own_go (fun t k => XS.iloadN X0.here hx rfl (hb hby at_4) rfl k) ?_
  show own_G p e below s (own_Q0 n0) 0 0 (s₁.setTop (mkF m 5 #[.val (.int x0), .val (.int i), .unset, .unset] [(.int i)]))
  by_cases h1 : i = (0 : Int32)
  · skip
    refine own_go (fun t k => XS.ifNo X0.here hx rfl (hb hby at_5) rfl (XT.i0_ne_f h1) k) ?_
    show own_G p e below s (own_Q0 n0) 0 0 (s₁.setTop (mkF m 8 #[.val (.int x0), .val (.int i), .unset, .unset] []))
    obtain ⟨T104, X104, e104, st104⟩ := getS X0 hx hZ (host := "") hown (hw _ (List.mem_of_getElem? (i := 0) rfl)) Via.refl e0 SB (g := (mkF m 8 #[.val (.int x0), .val (.int i), .unset, .unset] [])) rfl (hb hby at_8)
    refine own_go st104 ?_
    show own_G p e below s (own_Q0 n0) 0 0 (T104.setTop (mkF m 11 #[.val (.int x0), .val (.int i), .unset, .unset] [(.ref aB)]))
    refine own_go (fun t k => XS.astoreN X104.here hx rfl (hb hby at_11) rfl rfl (l' := #[.val (.int x0), .val (.int i), .val (.ref aB), .unset]) rfl k) ?_
    show own_G p e below s (own_Q0 n0) 0 0 (T104.setTop (mkF m 12 #[.val (.int x0), .val (.int i), .val (.ref aB), .unset] []))
    refine own_go (fun t k => XS.iconst X104.here hx rfl (hb hby at_12) k) ?_
    show own_G p e below s (own_Q0 n0) 0 0 (T104.setTop (mkF m 13 #[.val (.int x0), .val (.int i), .val (.ref aB), .unset] [(.int (1 : Int32))]))
    refine own_go (fun t k => XS.istoreN X104.here hx rfl (hb hby at_13) rfl (l' := #[.val (.int x0), .val (.int i), .val (.ref aB), .val (.int (1 : Int32))]) rfl k) ?_
    show own_G p e below s (own_Q0 n0) 0 0 (T104.setTop (mkF m 14 #[.val (.int x0), .val (.int i), .val (.ref aB), .val (.int (1 : Int32))] []))
    refine own_go (fun t k => XS.goto X104.here hx rfl (pc0 := 14) (pc' := 51) rfl (hb hby at_14) (by decide) (by decide) k) ?_
    show own_G p e below s (own_Q0 n0) 0 0 (T104.setTop (mkF m 51 #[.val (.int x0), .val (.int i), .val (.ref aB), .val (.int (1 : Int32))] []))
    exact J51 _ X104 e104 _ _ EB (own_is_1 rfl)
  · skip
    refine own_go (fun t k => XS.ifYes X0.here hx rfl (pc0 := 5) (pc' := 17) rfl (hb hby at_5) rfl (XT.i0_ne_t h1) (by decide) (by decide) k) ?_
    show own_G p e below s (own_Q0 n0) 0 0 (s₁.setTop (mkF m 17 #[.val (.int x0), .val (.int i), .unset, .unset] []))
    refine own_go (fun t k => XS.iloadN X0.here hx rfl (hb hby at_17) rfl k) ?_
    show own_G p e below s (own_Q0 n0) 0 0 (s₁.setTop (mkF m 18 #[.val (.int x0), .val (.int i), .unset, .unset] [(.int i)]))
    refine own_go (fun t k => XS.iconst X0.here hx rfl (hb hby at_18) k) ?_
    show own_G p e below s (own_Q0 n0) 0 0 (s₁.setTop (mkF m 19 #[.val (.int x0), .val (.int i), .unset, .unset] [(.int (1 : Int32)), (.int i)]))
    by_cases h2 : i = (1 : Int32)
    · skip
      refine own_go (fun t k => XS.icmpNo X0.here hx rfl (hb hby at_19) rfl (XT.ii_ne_f h2) k) ?_
      show own_G p e below s (own_Q0 n0) 0 0 (s₁.setTop (mkF m 22 #[.val (.int x0), .val (.int i), .unset, .unset] []))
      obtain ⟨T105, X105, e105, st105⟩ := getS X0 hx hZ (host := "") hown (hw _ (List.mem_of_getElem? (i := 14) rfl)) Via.refl e0 SK (g := (mkF m 22 #[.val (.int x0), .val (.int i), .unset, .unset] [])) rfl (hb hby at_22)
      refine own_go st105 ?_
      show own_G p e below s (own_Q0 n0) 0 0 (T105.setTop (mkF m 25 #[.val (.int x0), .val (.int i), .unset, .unset] [(.ref aK)]))
      refine own_go (fun t k => XS.astoreN X105.here hx rfl (hb hby at_25) rfl rfl (l' := #[.val (.int x0), .val (.int i), .val (.ref aK), .unset]) rfl k) ?_
      show own_G p e below s (own_Q0 n0) 0 0 (T105.setTop (mkF m 26 #[.val (.int x0), .val (.int i), .val (.ref aK), .unset] []))
      refine own_go (fun t k => XS.iconst X105.here hx rfl (hb hby at_26) k) ?_
      show own_G p e below s (own_Q0 n0) 0 0 (T105.setTop (mkF m 27 #[.val (.int x0), .val (.int i), .val (.ref aK), .unset] [(.int (0 : Int32))]))
      refine own_go (fun t k => XS.istoreN X105.here hx rfl (hb hby at_27) rfl (l' := #[.val (.int x0), .val (.int i), .val (.ref aK), .val (.int (0 : Int32))]) rfl k) ?_
      show own_G p e below s (own_Q0 n0) 0 0 (T105.setTop (mkF m 28 #[.val (.int x0), .val (.int i), .val (.ref aK), .val (.int (0 : Int32))] []))
      refine own_go (fun t k => XS.goto X105.here hx rfl (pc0 := 28) (pc' := 51) rfl (hb hby at_28) (by decide) (by decide) k) ?_
      show own_G p e below s (own_Q0 n0) 0 0 (T105.setTop (mkF m 51 #[.val (.int x0), .val (.int i), .val (.ref aK), .val (.int (0 : Int32))] []))
      exact J51 _ X105 e105 _ _ EK (own_is_0 nKB nKX)
    · skip
      refine own_go (fun t k => XS.icmpYes X0.here hx rfl (pc0 := 19) (pc' := 31) rfl (hb hby at_19) rfl (XT.ii_ne_t h2) (by decide) (by decide) k) ?_
      show own_G p e below s (own_Q0 n0) 0 0 (s₁.setTop (mkF m 31 #[.val (.int x0), .val (.int i), .unset, .unset] []))
      refine own_go (fun t k => XS.iloadN X0.here hx rfl (hb hby at_31) rfl k) ?_
      show own_G p e below s (own_Q0 n0) 0 0 (s₁.setTop (mkF m 32 #[.val (.int x0), .val (.int i), .unset, .unset] [(.int i)]))
      refine own_go (fun t k => XS.iconst X0.here hx rfl (hb hby at_32) k) ?_
      show own_G p e below s (own_Q0 n0) 0 0 (s₁.setTop (mkF m 33 #[.val (.int x0), .val (.int i), .unset, .unset] [(.int (2 : Int32)), (.int i)]))
      by_cases h3 : i = (2 : Int32)
      · skip
        refine own_go (fun t k => XS.icmpNo X0.here hx rfl (hb hby at_33) rfl (XT.ii_ne_f h3) k) ?_
        show own_G p e below s (own_Q0 n0) 0 0 (s₁.setTop (mkF m 36 #[.val (.int x0), .val (.int i), .unset, .unset] []))
        obtain ⟨T106, X106, e106, st106⟩ := getS X0 hx hZ (host := "") hown (hw _ (List.mem_of_getElem? (i := 12) rfl)) Via.refl e0 SE (g := (mkF m 36 #[.val (.int x0), .val (.int i), .unset, .unset] [])) rfl (hb hby at_36)
        refine own_go st106 ?_
        show own_G p e below s (own_Q0 n0) 0 0 (T106.setTop (mkF m 39 #[.val (.int x0), .val (.int i), .unset, .unset] [(.ref aE)]))
        refine own_go (fun t k => XS.astoreN X106.here hx rfl (hb hby at_39) rfl rfl (l' := #[.val (.int x0), .val (.int i), .val (.ref aE), .unset]) rfl k) ?_
        show own_G p e below s (own_Q0 n0) 0 0 (T106.setTop (mkF m 40 #[.val (.int x0), .val (.int i), .val (.ref aE), .unset] []))
        refine own_go (fun t k => XS.iconst X106.here hx rfl (hb hby at_40) k) ?_
        show own_G p e below s (own_Q0 n0) 0 0 (T106.setTop (mkF m 41 #[.val (.int x0), .val (.int i), .val (.ref aE), .unset] [(.int (0 : Int32))]))
        refine own_go (fun t k => XS.istoreN X106.here hx rfl (hb hby at_41) rfl (l' := #[.val (.int x0), .val (.int i), .val (.ref aE), .val (.int (0 : Int32))]) rfl k) ?_
        show own_G p e below s (own_Q0 n0) 0 0 (T106.setTop (mkF m 42 #[.val (.int x0), .val (.int i), .val (.ref aE), .val (.int (0 : Int32))] []))
        refine own_go (fun t k => XS.goto X106.here hx rfl (pc0 := 42) (pc' := 51) rfl (hb hby at_42) (by decide) (by decide) k) ?_
        show own_G p e below s (own_Q0 n0) 0 0 (T106.setTop (mkF m 51 #[.val (.int x0), .val (.int i), .val (.ref aE), .val (.int (0 : Int32))] []))
        exact J51 _ X106 e106 _ _ EE (own_is_0 nEB nEX)
      · skip
        refine own_go (fun t k => XS.icmpYes X0.here hx rfl (pc0 := 33) (pc' := 45) rfl (hb hby at_33) rfl (XT.ii_ne_t h3) (by decide) (by decide) k) ?_
        show own_G p e below s (own_Q0 n0) 0 0 (s₁.setTop (mkF m 45 #[.val (.int x0), .val (.int i), .unset, .unset] []))
        obtain ⟨T107, X107, e107, st107⟩ := getS X0 hx hZ (host := "") hown (hw _ (List.mem_of_getElem? (i := 9) rfl)) Via.refl e0 SX (g := (mkF m 45 #[.val (.int x0), .val (.int i), .unset, .unset] [])) rfl (hb hby at_45)
        refine own_go st107 ?_
        show own_G p e below s (own_Q0 n0) 0 0 (T107.setTop (mkF m 48 #[.val (.int x0), .val (.int i), .unset, .unset] [(.ref aX)]))
        refine own_go (fun t k => XS.astoreN X107.here hx rfl (hb hby at_48) rfl rfl (l' := #[.val (.int x0), .val (.int i), .val (.ref aX), .unset]) rfl k) ?_
        show own_G p e below s (own_Q0 n0) 0 0 (T107.setTop (mkF m 49 #[.val (.int x0), .val (.int i), .val (.ref aX), .unset] []))
        refine own_go (fun t k => XS.iconst X107.here hx rfl (hb hby at_49) k) ?_
        show own_G p e below s (own_Q0 n0) 0 0 (T107.setTop (mkF m 50 #[.val (.int x0), .val (.int i), .val (.ref aX), .unset] [(.int (1 : Int32))]))
        refine own_go (fun t k => XS.istoreN X107.here hx rfl (hb hby at_50) rfl (l' := #[.val (.int x0), .val (.int i), .val (.ref aX), .val (.int (1 : Int32))]) rfl k) ?_
        show own_G p e below s (own_Q0 n0) 0 0 (T107.setTop (mkF m 51 #[.val (.int x0), .val (.int i), .val (.ref aX), .val (.int (1 : Int32))] []))
        exact J51 _ X107 e107 _ _ EX (own_is_2 nXB rfl)
set_option maxRecDepth 65536 in
set_option maxHeartbeats 40000000 in
theorem comes_1 {Post : Tables → Env → Array Value → State → Outcome → State → Prop} (hpost : ∀ tb e args s v u, (limb_1_1.after args s (.returned v) u = true ∧ limb_1_2.after args s (.returned v) u = true ∧ True) → FrameEnd s (.returned v) u (Jvm.fieldLocs frame_1_writes args s ++ Jvm.arrayLocs frame_1_arrays args s ++ Jvm.staticLocs frame_1_statics s) 0 0 → Post tb e args s (.returned v) u) :
    ArmFor flags0 classFile x code maxLocals ret World_1 tables_1 room_1 Calls_1 rest_1 Pre_1 Post := by
  intro l hfl _ _ p e ha hc hk s m args below hf hA hF happ hP
  obtain ⟨hcalls, hrest, hpre⟩ := hP
  obtain ⟨-, -, -, hnamed, -, -, -, hat⟩ := (Spec.applies_iff hf).mp happ
  obtain ⟨hg, hn⟩ := and_e (Cond.before_iff.mp (show (Jvm.Cond.and given_1 narrow_1).before args s = true from hpre))
  obtain ⟨h1, r0⟩ := and_e hg
  obtain ⟨w0, rfl⟩ : ∃ w0 : Value, args = #[w0] := by
    have hs : args.size = 1 := by simpa [Cond.value, given_1] using h1
    obtain ⟨L⟩ := args
    match L, hs with
    | [w0], _ => exact ⟨w0, rfl⟩
  have hw := fun d (hd : d ∈ tables_1) => atoms_spec (ws := Jvm.Cond.code x code maxLocals ret :: tables_1) hat d (List.mem_cons_of_mem _ hd)
  obtain ⟨i0, e0⟩ := is_v r0
  obtain rfl : w0 = (.int i0) := Option.some.inj e0
  obtain ⟨xB, q0⟩ := and_e hn
  obtain ⟨xX, q1⟩ := and_e q0
  obtain ⟨oX, q2⟩ := and_e q1
  obtain ⟨oB, q3⟩ := and_e q2
  obtain ⟨xE, q4⟩ := and_e q3
  obtain ⟨oE, q5⟩ := and_e q4
  obtain ⟨xK, q6⟩ := and_e q5
  have oK := q6
  obtain ⟨aB, vB⟩ := exa_v xB
  have EB : Exa s s.heap aB "com/example/packwire/packwire/wire/Frame$Op" := Exa.start vB xB
  have SB : Sta s s.heap "com/example/packwire/packwire/wire/Frame$Op" "BEGIN" "Lcom/example/packwire/packwire/wire/Frame$Op;" (.ref aB) := Sta.start vB (Or.inr ⟨(hw _ (List.mem_of_getElem? (i := 1) rfl)), (hw _ (List.mem_of_getElem? (i := 2) rfl))⟩)
  have FB := own_ord vB oB
  obtain ⟨aX, vX⟩ := exa_v xX
  have EX : Exa s s.heap aX "com/example/packwire/packwire/wire/Frame$Op" := Exa.start vX xX
  have SX : Sta s s.heap "com/example/packwire/packwire/wire/Frame$Op" "BEGIN_END" "Lcom/example/packwire/packwire/wire/Frame$Op;" (.ref aX) := Sta.start vX (Or.inr ⟨(hw _ (List.mem_of_getElem? (i := 1) rfl)), (hw _ (List.mem_of_getElem? (i := 10) rfl))⟩)
  have FX := own_ord vX oX
  obtain ⟨aE, vE⟩ := exa_v xE
  have EE : Exa s s.heap aE "com/example/packwire/packwire/wire/Frame$Op" := Exa.start vE xE
  have SE : Sta s s.heap "com/example/packwire/packwire/wire/Frame$Op" "END" "Lcom/example/packwire/packwire/wire/Frame$Op;" (.ref aE) := Sta.start vE (Or.inr ⟨(hw _ (List.mem_of_getElem? (i := 1) rfl)), (hw _ (List.mem_of_getElem? (i := 13) rfl))⟩)
  have FE := own_ord vE oE
  obtain ⟨aK, vK⟩ := exa_v xK
  have EK : Exa s s.heap aK "com/example/packwire/packwire/wire/Frame$Op" := Exa.start vK xK
  have SK : Sta s s.heap "com/example/packwire/packwire/wire/Frame$Op" "KEEP" "Lcom/example/packwire/packwire/wire/Frame$Op;" (.ref aK) := Sta.start vK (Or.inr ⟨(hw _ (List.mem_of_getElem? (i := 1) rfl)), (hw _ (List.mem_of_getElem? (i := 15) rfl))⟩)
  have FK := own_ord vK oK
  have nKB : aK ≠ aB := FK.ne FB (by decide)
  have nKX : aK ≠ aX := FK.ne FX (by decide)
  have nEB : aE ≠ aB := FE.ne FB (by decide)
  have nEX : aE ≠ aX := FE.ne FX (by decide)
  have nKE : aK ≠ aE := FK.ne FE (by decide)
  have nBE : aB ≠ aE := FB.ne FE (by decide)
  have nBX : aB ≠ aX := FB.ne FX (by decide)
  have nXE : aX ≠ aE := FX.ne FE (by decide)
  have nXB : aX ≠ aB := FX.ne FB (by decide)
  obtain ⟨n, o, h1, h2, h3, _, L, rfl, ⟨rfl, N⟩, hq⟩ := rm0 l s _ hw tables_1 i0 s.heap s.heap.size (Nat.le_refl _) aB aX aE aK SB SX SE SK EB EX EE EK nKB nKX nEB nEX nKE nBE nBX nXE nXB p e ha hc hk s m _ below hf ((Spec.applies_iff_loose hf).mp happ).1 ⟨rfl, State.Warmed39.refl s, rfl⟩ trivial
  refine ⟨n, _, h1, h2, h3, hpost _ _ _ _ _ _ ⟨Cond.after_iff.mpr rfl, Cond.after_iff.mpr (eq_i res_at (Term.int_eval (1)) rfl), trivial⟩ ⟨hq.1, hq.2.1, (hq.2.2.sift fun y hy => Or.inr (N y hy)).mono (by decide) (by decide)⟩⟩
theorem main_1_1 : Claimed_1_1 := comes_1 fun _ _ _ _ _ _ h hF => ⟨h.1, hF⟩
theorem main_1_2 : Claimed_1_2 := comes_1 fun _ _ _ _ _ _ h hF => ⟨h.2.1, hF⟩
end Jvm.Pilot.@@N@@
namespace Jvm.Pilot.@@N@@
open Jvm Jvm.ClassFile Sem Op Lib Jvm.Free Jvm.Stand Jvm.Pilot.@@N@@.Jvm.D
/-! MADE BY PROGRAM (witnessworld.py) out of the Statement's table words and the real class files: 12 classes; the members and pool entries that the words name. The judged class is class 1, her method 1. -/
namespace start1
open Jvm.ClassFile
def u (s : String) : CpInfo := .utf8 (stringToUtf16 s)
/-- a pool by its gaps: so many unusable entries, then the entry; so many at the end -/
def gap : Nat → List CpInfo → List CpInfo
  | 0, r => r
  | n + 1, r => .unusable :: gap n r
def poolList (es : List (Nat × CpInfo)) (last : Nat) : List CpInfo := es.foldr (fun e r => gap e.1 (e.2 :: r)) (gap last [])
def pool (es : List (Nat × CpInfo)) (last : Nat) : Array CpInfo := ⟨poolList es last⟩
def fileOf (pool : Array CpInfo) (this : Nat) (attrs : Array Attribute := #[]) (ms : Array MethodInfo := #[]) (fl : Nat := 33) (sup : Nat := 0) (ifs : Array Nat := #[]) (fds : Array FieldInfo := #[]) : ClassFile where
  minorVersion := 0
  majorVersion := 65
  constantPool := pool
  accessFlags := fl
  thisClass := this
  superClass := sup
  interfaces := ifs
  fields := fds
  methods := ms
  attributes := attrs
def plain (name : String) (sup : Option ClassId) : Class where
  name := name
  kind := .ordinary
  loader := none
  accessFlags := 33
  super := sup
  interfaces := #[]
  cf := none
  fields := #[]
  methods := #[]
  instanceTypes := #[]
  staticTypes := #[]
  resolved := #[]
  callSites := []
  init := .initialized
  statics := none
  mirror := none

def pool0 : Array CpInfo := pool [(5, u "<init>"), (0, u "()V"), (1, .class_ 10), (1, u "java/lang/Object")] 113

def k0m0 : Method := { name := "<init>", desc := "()V", sig := { parameters := [], returnType := none }, accessFlags := 1, code := none }
/-- java/lang/Object -/
def k0 : Class := { plain "java/lang/Object" none with
  accessFlags := 33
  interfaces := #[]
  cf := some (fileOf pool0 8 #[] #[{ accessFlags := 1, nameIndex := 5, descriptorIndex := 6, attributes := #[] }] 33 0 #[] #[])
  fields := #[]
  methods := #[k0m0]
  instanceTypes := #[]
  staticTypes := #[]
  resolved := Array.replicate 124 none
  statics := none }

def pool1 : Array CpInfo := pool [(2, .class_ 4), (1, u "java/lang/Object"), (0, u "<init>"), (0, u "()V"), (0, .fieldref 8 9), (0, .class_ 10), (0, .nameAndType 11 12), (0, u "com/example/packwire/packwire/wire/Frame$Op"), (0, u "BEGIN"), (0, u "Lcom/example/packwire/packwire/wire/Frame$Op;"), (0, .fieldref 8 14), (0, .nameAndType 15 12), (0, u "KEEP"), (0, .fieldref 8 17), (0, .nameAndType 18 12), (0, u "END"), (0, .fieldref 8 20), (0, .nameAndType 21 12), (0, u "BEGIN_END"), (0, .methodref 8 23), (0, .nameAndType 24 25), (0, u "begins"), (0, u "()Z"), (0, .class_ 27), (0, u "com/example/packwire/packwire/wire/OpBeginsPinLaw"), (2, u "law"), (0, u "(I)Z")] 7

def k1m0 : Method := { name := "<init>", desc := "()V", sig := { parameters := [], returnType := none }, accessFlags := 1, code := none }
def k1c1 : Code := { maxStack := 2, maxLocals := 4, code := code, exceptionTable := #[], attributes := #[] }
def k1m1 : Method := { name := "law", desc := "(I)Z", sig := { parameters := [.int], returnType := some .boolean }, accessFlags := 9, code := some k1c1 }
/-- com/example/packwire/packwire/wire/OpBeginsPinLaw -/
def k1 : Class := { plain "com/example/packwire/packwire/wire/OpBeginsPinLaw" (some 0) with
  accessFlags := 49
  interfaces := #[]
  cf := some (fileOf pool1 26 #[] #[{ accessFlags := 1, nameIndex := 5, descriptorIndex := 6, attributes := #[] }, { accessFlags := 9, nameIndex := 30, descriptorIndex := 31, attributes := #[] }] 49 2 #[] #[])
  fields := #[]
  methods := #[k1m0, k1m1]
  instanceTypes := #[]
  staticTypes := #[]
  resolved := Array.replicate 39 none
  statics := none }

def pool2 : Array CpInfo := pool [(1, .class_ 2), (0, u "java/lang/constant/Constable"), (0, .class_ 4), (0, u "java/lang/Object")] 6

/-- java/lang/constant/Constable -/
def k2 : Class := { plain "java/lang/constant/Constable" (some 0) with
  accessFlags := 1537
  interfaces := #[]
  cf := some (fileOf pool2 1 #[] #[] 1537 3 #[] #[])
  fields := #[]
  methods := #[]
  instanceTypes := #[]
  staticTypes := #[]
  resolved := Array.replicate 11 none
  statics := none }

def pool3 : Array CpInfo := pool [(1, .class_ 2), (0, u "java/lang/Comparable"), (0, .class_ 4), (0, u "java/lang/Object")] 7

/-- java/lang/Comparable -/
def k3 : Class := { plain "java/lang/Comparable" (some 0) with
  accessFlags := 1537
  interfaces := #[]
  cf := some (fileOf pool3 1 #[] #[] 1537 3 #[] #[])
  fields := #[]
  methods := #[]
  instanceTypes := #[]
  staticTypes := #[]
  resolved := Array.replicate 12 none
  statics := none }

def pool4 : Array CpInfo := pool [(1, .class_ 2), (0, u "java/io/Serializable"), (0, .class_ 4), (0, u "java/lang/Object")] 2

/-- java/io/Serializable -/
def k4 : Class := { plain "java/io/Serializable" (some 0) with
  accessFlags := 1537
  interfaces := #[]
  cf := some (fileOf pool4 1 #[] #[] 1537 3 #[] #[])
  fields := #[]
  methods := #[]
  instanceTypes := #[]
  staticTypes := #[]
  resolved := Array.replicate 7 none
  statics := none }

def pool5 : Array CpInfo := pool [(2, .class_ 4), (1, u "java/lang/Enum"), (0, u "name"), (0, u "Ljava/lang/String;"), (2, u "ordinal"), (0, u "I"), (1, .class_ 14), (1, u "java/lang/Object"), (4, u "hash"), (86, .class_ 108), (1, u "java/lang/Enum$EnumDesc"), (2, .class_ 112), (0, u "java/lang/constant/Constable"), (0, .class_ 114), (0, u "java/lang/Comparable"), (0, .class_ 116), (0, u "java/io/Serializable")] 87

/-- java/lang/Enum -/
def k5 : Class := { plain "java/lang/Enum" (some 0) with
  accessFlags := 1057
  interfaces := #[2, 3, 4]
  cf := some (fileOf pool5 2 #[.nestMembers #[106]] #[] 1057 12 #[111, 113, 115] #[{ accessFlags := 18, nameIndex := 5, descriptorIndex := 6, attributes := #[] }, { accessFlags := 18, nameIndex := 9, descriptorIndex := 10, attributes := #[] }, { accessFlags := 2, nameIndex := 19, descriptorIndex := 10, attributes := #[] }])
  fields := #[{ name := "name", type := (.object "java/lang/String"), accessFlags := 18, slot := 0, constantValue := 0 }, { name := "ordinal", type := .int, accessFlags := 18, slot := 1, constantValue := 0 }, { name := "hash", type := .int, accessFlags := 2, slot := 2, constantValue := 0 }]
  methods := #[]
  instanceTypes := #[(.object "java/lang/String"), .int, .int]
  staticTypes := #[]
  resolved := Array.replicate 204 none
  statics := none }

def pool6 : Array CpInfo := pool [(1, .class_ 2), (0, u "com/example/packwire/packwire/wire/Frame$Op"), (0, .fieldref 1 4), (0, .nameAndType 5 6), (0, u "BEGIN"), (0, u "Lcom/example/packwire/packwire/wire/Frame$Op;"), (2, u "KEEP"), (2, u "END"), (0, .fieldref 1 14), (0, .nameAndType 15 6), (0, u "BEGIN_END"), (2, u "$VALUES"), (0, u "[Lcom/example/packwire/packwire/wire/Frame$Op;"), (6, .class_ 28), (1, u "java/lang/Enum"), (8, u "text"), (0, u "Ljava/lang/String;"), (29, u "begins"), (0, u "()Z"), (8, .class_ 79), (0, u "com/example/packwire/packwire/wire/Frame")] 2

def k6c0 : Code := { maxStack := 2, maxLocals := 1, code := prog_116_method_5_code, exceptionTable := #[], attributes := #[] }
def k6m0 : Method := { name := "begins", desc := "()Z", sig := { parameters := [], returnType := some .boolean }, accessFlags := 0, code := some k6c0 }
/-- com/example/packwire/packwire/wire/Frame$Op -/
def k6 : Class := { plain "com/example/packwire/packwire/wire/Frame$Op" (some 5) with
  accessFlags := 16432
  interfaces := #[]
  cf := some (fileOf pool6 1 #[.nestHost 78] #[{ accessFlags := 0, nameIndex := 68, descriptorIndex := 69, attributes := #[] }] 16432 26 #[] #[{ accessFlags := 16409, nameIndex := 5, descriptorIndex := 6, attributes := #[] }, { accessFlags := 16409, nameIndex := 9, descriptorIndex := 6, attributes := #[] }, { accessFlags := 16409, nameIndex := 12, descriptorIndex := 6, attributes := #[] }, { accessFlags := 16409, nameIndex := 15, descriptorIndex := 6, attributes := #[] }, { accessFlags := 18, nameIndex := 37, descriptorIndex := 38, attributes := #[] }, { accessFlags := 4122, nameIndex := 18, descriptorIndex := 19, attributes := #[] }])
  fields := #[{ name := "BEGIN", type := (.object "com/example/packwire/packwire/wire/Frame$Op"), accessFlags := 16409, slot := 0, constantValue := 0 }, { name := "KEEP", type := (.object "com/example/packwire/packwire/wire/Frame$Op"), accessFlags := 16409, slot := 1, constantValue := 0 }, { name := "END", type := (.object "com/example/packwire/packwire/wire/Frame$Op"), accessFlags := 16409, slot := 2, constantValue := 0 }, { name := "BEGIN_END", type := (.object "com/example/packwire/packwire/wire/Frame$Op"), accessFlags := 16409, slot := 3, constantValue := 0 }, { name := "text", type := (.object "java/lang/String"), accessFlags := 18, slot := 3, constantValue := 0 }, { name := "$VALUES", type := (.array (.object "com/example/packwire/packwire/wire/Frame$Op")), accessFlags := 4122, slot := 4, constantValue := 0 }]
  methods := #[k6m0]
  instanceTypes := #[(.object "java/lang/String"), .int, .int, (.object "java/lang/String")]
  staticTypes := #[(.object "com/example/packwire/packwire/wire/Frame$Op"), (.object "com/example/packwire/packwire/wire/Frame$Op"), (.object "com/example/packwire/packwire/wire/Frame$Op"), (.object "com/example/packwire/packwire/wire/Frame$Op"), (.array (.object "com/example/packwire/packwire/wire/Frame$Op"))]
  resolved := Array.replicate 82 none
  statics := some 0 }

def pool7 : Array CpInfo := pool [(1, u "java/lang/Cloneable"), (0, .class_ 1), (0, u "java/lang/Object"), (0, .class_ 3)] 3

/-- java/lang/Cloneable -/
def k7 : Class := { plain "java/lang/Cloneable" (some 0) with
  accessFlags := 1537
  interfaces := #[]
  cf := some (fileOf pool7 2 #[] #[] 1537 4 #[] #[])
  fields := #[]
  methods := #[]
  instanceTypes := #[]
  staticTypes := #[]
  resolved := Array.replicate 8 none
  statics := none }

/-- the primitive byte -/
def k8 : Class := { plain "byte" none with kind := .primitive 'B', accessFlags := 0x411 }
/-- [B -/
def k9 : Class := { plain "[B" (some 0) with kind := .array 8 .byte, interfaces := #[7, 4], accessFlags := 1041 }

/-- the primitive int -/
def k10 : Class := { plain "int" none with kind := .primitive 'I', accessFlags := 0x411 }
/-- [I -/
def k11 : Class := { plain "[I" (some 0) with kind := .array 10 .int, interfaces := #[7, 4], accessFlags := 1041 }

def heap : Heap := #[{ cls := 6, slots := #[.ref 1, .ref 2, .ref 3, .ref 4, .null], vm := .statics 6 },
  { cls := 6, slots := #[.null, .int 0, .int 0, .null], vm := .none },
  { cls := 6, slots := #[.null, .int 1, .int 0, .null], vm := .none },
  { cls := 6, slots := #[.null, .int 2, .int 0, .null], vm := .none },
  { cls := 6, slots := #[.null, .int 3, .int 0, .null], vm := .none }]
def classes : Array Class := #[k0, k1, k2, k3, k4, k5, k6, k7, k8, k9, k10, k11]
def interned : List (Array UInt16 × Addr) := []
def slotsUsed : Nat := 21
def theMethod : MethodId := ⟨1, 1⟩
def args0 : Array Value := #[.int 5]
def aboutOver (below : List Frame) : State where
  vm := { classes := classes, interned := interned.toArray }
  heap := heap
  slotsUsed := slotsUsed
  threads := #[{ frames := .invoking theMethod args0 :: below }]
def below0 : List Frame := [.native { method := ⟨0, 0⟩, args := #[] }]
def about1 : State := aboutOver below0
def p0 : Program := .bare "" "" ""
def e0 : Env := launch0.env 0 0 0
theorem w_frames : about1.frames = Frame.invoking theMethod args0 :: below0 := rfl
set_option maxRecDepth 65536 in
theorem w_args : argsFit about1.vm theMethod args0 = true := by decide +kernel
set_option maxRecDepth 65536 in
theorem w_heap : heapFits about1 = true := by decide +kernel
set_option maxRecDepth 65536 in
theorem w_runnable : about1.curStatus? = some .runnable := by decide +kernel
set_option maxRecDepth 65536 in
theorem w_alone : about1.alone = true := by decide +kernel
set_option maxRecDepth 65536 in
theorem w_named : about1.methodNamed? x = some theMethod := by decide +kernel
set_option maxRecDepth 65536 in
theorem w_hears : about1.hears theMethod below0 = true := by decide +kernel
set_option maxRecDepth 65536 in
theorem w_ripe : about1.ripe theMethod args0 below0 = true := by decide +kernel
theorem w_running : about1.status = .running := rfl
set_option maxRecDepth 65536 in
theorem w_room : about1.hasRoom e0.platform room_1 = true :=
  launch0.hasRoom_least _ room_1 (by decide +kernel) (by decide +kernel) (by decide +kernel) (by decide +kernel) (by decide +kernel) (by decide +kernel)
theorem allAtoms_all (ts : List Jvm.Cond) (a : Array Jvm.Value) (st : Jvm.State) : (allAtoms ts).before a st = ts.all (fun c => c.before a st) := by
  induction ts with
  | nil => rfl
  | cons c t ih =>
    show (Jvm.Cond.and c (allAtoms t)).before a st = _
    rw [Jvm.Cond.before_and, ih, List.all_cons]
def words1 : List Jvm.Cond := Jvm.Cond.code x code maxLocals ret :: tables_1
/-- a 'code' word, met by the world's own term for the bytes: nothing is compared byte by byte -/
theorem code_word {y : MethodName} {bytes : ByteArray} {mx : Nat} {rt : Option FieldType} {a : Array Value} {s : State} {m : MethodId} {meth : Method} {c : Code} (h1 : s.methodNamed? y = some m) (h2 : s.vm.method? m = some meth) (h3 : meth.code = some c) (h4 : c.code = bytes)
    (h5 : (c.maxLocals == mx && c.exceptionTable.isEmpty && decide (c.maxStack ≤ mostOperands) && decide (meth.sig.returnType = rt) && !meth.locks && decide (parseMethodDescriptor y.desc = some meth.sig)) = true) : (Jvm.Cond.code y bytes mx rt).before a s = true := by
  simp only [Bool.and_eq_true, beq_iff_eq, Bool.not_eq_true', decide_eq_true_eq] at h5
  obtain ⟨⟨⟨⟨⟨g1, g2⟩, g3⟩, g4⟩, g5⟩, g6⟩ := h5
  simp [Cond.before, Cond.holds, Cond.value, h1, h2, h3, h4, g1, g2, g3, g4, g5, g6]
def isCode : Jvm.Cond → Bool
  | .code _ _ _ _ => true
  | _ => false
theorem all_split {L : List Jvm.Cond} {P : Jvm.Cond → Bool} (h1 : L.all (fun c => isCode c || P c) = true) (h2 : ∀ c ∈ L.filter isCode, P c = true) : L.all P = true := by
  refine List.all_eq_true.mpr fun c hc => ?_
  have h := List.all_eq_true.mp h1 c hc
  rcases Bool.eq_false_or_eq_true (isCode c) with hi | hi
  · exact h2 c (List.mem_filter.mpr ⟨hc, hi⟩)
  · simpa [hi] using h
set_option maxRecDepth 65536 in
theorem w_c0 : (Jvm.Cond.code x code maxLocals ret).before args0 about1 = true := code_word (m := ⟨1, 1⟩) (meth := k1m1) (c := k1c1) (by decide +kernel) rfl rfl rfl (by decide +kernel)
set_option maxRecDepth 65536 in
theorem w_c1 : (Jvm.Cond.code ({ cls := "com/example/packwire/packwire/wire/Frame$Op", name := "begins", desc := "()Z" } : Jvm.MethodName) prog_116_method_5_code (1 : Nat) (Option.some Jvm.ClassFile.FieldType.boolean)).before args0 about1 = true := code_word (m := ⟨6, 0⟩) (meth := k6m0) (c := k6c0) (by decide +kernel) rfl rfl rfl (by decide +kernel)
def codes1 : List Jvm.Cond := [Jvm.Cond.code x code maxLocals ret, Jvm.Cond.code ({ cls := "com/example/packwire/packwire/wire/Frame$Op", name := "begins", desc := "()Z" } : Jvm.MethodName) prog_116_method_5_code (1 : Nat) (Option.some Jvm.ClassFile.FieldType.boolean)]
set_option maxRecDepth 65536 in
theorem codes_eq : words1.filter isCode = codes1 := rfl
theorem w_codes : ∀ c ∈ words1.filter isCode, c.before args0 about1 = true := by
  rw [codes_eq]
  intro c hc
  simp only [codes1, List.mem_cons, List.not_mem_nil, or_false] at hc
  rcases hc with rfl | rfl
  · exact w_c0
  · exact w_c1
set_option maxRecDepth 65536 in
theorem w_t1 : words1.all (fun c => isCode c || c.before args0 about1) = true := by decide +kernel
theorem w_tables : (allAtoms (Jvm.Cond.code x code maxLocals ret :: tables_1)).before args0 about1 = true := by
  rw [allAtoms_all]
  show words1.all (fun c => c.before args0 about1) = true
  refine all_split ?_ w_codes
  rw [w_t1]
set_option maxRecDepth 65536 in
theorem w_case : (Jvm.Cond.and given_1 narrow_1).before args0 about1 = true := by decide +kernel
theorem w_applies : (headSpec (Jvm.Cond.code x code maxLocals ret :: tables_1) room_1).applies x e0.platform about1 = true :=
  (Spec.applies_iff w_frames).mpr ⟨w_running, w_runnable, w_alone, w_named, w_hears, w_ripe, w_room, w_tables⟩
theorem atStart : AtStart classFile x code maxLocals ret World_1 tables_1 room_1 Calls_1 rest_1 Pre_1 launch0 p0 e0 about1 theMethod args0 below0 :=
  ⟨lists_1, trivial, launch0.admits_env _ _ _, launch0.least_env, fairChoices_fair.cas, fairChoices_fair.clock, w_frames, w_args, w_heap, w_applies, trivial, trivial, w_case⟩
end start1
theorem witness_1 : WitnessClaimed_1 := ⟨start1.p0, start1.e0, start1.about1, start1.theMethod, start1.args0, start1.below0, start1.atStart⟩
end Jvm.Pilot.@@N@@
