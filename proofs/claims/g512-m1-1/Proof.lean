import JvmDerived
import JvmDerived.Pilot.@@N@@Statement
import JvmDerived.Pilot.@@N@@Code
set_option linter.unusedVariables false
set_option linter.unusedSimpArgs false
namespace Jvm.Pilot.@@N@@
open Jvm Jvm.ClassFile Sem Op Lib Jvm.Free Jvm.Stand Jvm.LawKit Jvm.RoadKit Bundle Jvm.Pilot.@@N@@.Jvm.D
/-- what a walk that stands at A still owes -/
def own_G (p : Program) (e : Env) (below : List Frame) (s : State) (Q : Option Value → Heap → List Loc → Prop) (rc rs : Nat) (A : State) : Prop :=
  ∃ s₂ o, Steps p.tables e below A s₂ ∧ s₂.status = .running ∧ Ended s₂ below o ∧ ∃ v L, o = .returned v ∧ Q v s₂.heap L ∧ FrameEnd s o s₂ L rc rs
theorem own_go {p : Program} {e : Env} {below : List Frame} {s : State} {Q : Option Value → Heap → List Loc → Prop} {rc rs : Nat} {A B : State} (st : ∀ t, Steps p.tables e below B t → Steps p.tables e below A t) (k : own_G p e below s Q rc rs B) : own_G p e below s Q rc rs A := by
  obtain ⟨s₂, o, h, r⟩ := k
  exact ⟨s₂, o, st _ h, r⟩
theorem own_leave {p : Program} {l : Launch} {e : Env} {R : Room} {s : State} {m : MethodId} {args : Array Value} {below : List Frame} {meth : Method} {c : Code} {T : State} {locs : List Loc} {cells slots : Nat} {Q : Option Value → Heap → List Loc → Prop} {rc rs : Nat} {g : JFrame} (X : Stand p l e R s m args below meth c T locs cells slots) (v : Option Value) (hv : meth.sig.returnType = none → v = none) (hlk : meth.locks = false)
    (st : ∀ fs, (∀ (f : JFrame) (acts : List Action), f.method = m → f.locked = none → f.entered = [] → (doReturn e (T.setTop f) acts v).1 = T.setFrames fs) → Steps p.tables e below (T.setTop g) (T.setFrames fs)) (hQ : Q v T.heap locs) (hc : cells ≤ rc) (hs : slots ≤ rs) : own_G p e below s Q rc rs (T.setTop g) := by
  obtain ⟨fs, hr, hrun, hended, hW, hsame⟩ := X.leave (v := v) hv hlk
  exact ⟨_, _, st fs hr, hrun, hended, _, _, rfl, hQ, ⟨_, rfl⟩, hW, hsame.mono hc hs⟩
/-- Op.of, begins (with BEGIN, BEGIN_END) and ends (with END, BEGIN_END) -/
def own_of (aB aX aE aK : Addr) (b e : Int32) : Addr := if b = 0 then (if e = 0 then aK else aE) else (if e = 0 then aB else aX)
def own_is (aB aX o : Addr) : Int32 := if o = aB then 1 else if o = aX then 1 else 0
theorem own_is_1 {aB aX o : Addr} (h : o = aB) : own_is aB aX o = 1 := if_pos h
theorem own_is_2 {aB aX o : Addr} (h : ¬ o = aB) (h2 : o = aX) : own_is aB aX o = 1 := (if_neg h).trans (if_pos h2)
theorem own_is_0 {aB aX o : Addr} (h : ¬ o = aB) (h2 : ¬ o = aX) : own_is aB aX o = 0 := (if_neg h).trans (if_neg h2)
theorem own_one_ne : ¬ (1 : Int32) = 0 := by decide
theorem own_of_begins {aB aX aE aK : Addr} {b e : Int32} (nKB : aK ≠ aB) (nKX : aK ≠ aX) (nEB : aE ≠ aB) (nEX : aE ≠ aX) (hb : b = 0 ∨ b = 1) : own_is aB aX (own_of aB aX aE aK b e) = b := by
  rcases hb with rfl | rfl
  · by_cases he : e = 0
    · rw [show own_of aB aX aE aK 0 e = aK from (if_pos rfl).trans (if_pos he)]; exact own_is_0 nKB nKX
    · rw [show own_of aB aX aE aK 0 e = aE from (if_pos rfl).trans (if_neg he)]; exact own_is_0 nEB nEX
  · by_cases he : e = 0
    · rw [show own_of aB aX aE aK 1 e = aB from (if_neg own_one_ne).trans (if_pos he)]; exact own_is_1 rfl
    · rw [show own_of aB aX aE aK 1 e = aX from (if_neg own_one_ne).trans (if_neg he)]
      by_cases q : aX = aB
      · exact own_is_1 q
      · exact own_is_2 q rfl
theorem own_of_ends {aB aX aE aK : Addr} {b e : Int32} (nKE : aK ≠ aE) (nKX : aK ≠ aX) (nBE : aB ≠ aE) (nBX : aB ≠ aX) (he : e = 0 ∨ e = 1) : own_is aE aX (own_of aB aX aE aK b e) = e := by
  rcases he with rfl | rfl
  · by_cases hb : b = 0
    · rw [show own_of aB aX aE aK b 0 = aK from (if_pos hb).trans (if_pos rfl)]; exact own_is_0 nKE nKX
    · rw [show own_of aB aX aE aK b 0 = aB from (if_neg hb).trans (if_pos rfl)]; exact own_is_0 nBE nBX
  · by_cases hb : b = 0
    · rw [show own_of aB aX aE aK b 1 = aE from (if_pos hb).trans (if_neg own_one_ne)]; exact own_is_1 rfl
    · rw [show own_of aB aX aE aK b 1 = aX from (if_neg hb).trans (if_neg own_one_ne)]
      by_cases q : aX = aE
      · exact own_is_1 q
      · exact own_is_2 q rfl
theorem own_of_exa {P : Addr → Prop} {aB aX aE aK : Addr} (b e : Int32) (pB : P aB) (pX : P aX) (pE : P aE) (pK : P aK) : P (own_of aB aX aE aK b e) := by
  by_cases hb : b = 0
  · by_cases he : e = 0
    · rw [show own_of aB aX aE aK b e = aK from (if_pos hb).trans (if_pos he)]; exact pK
    · rw [show own_of aB aX aE aK b e = aE from (if_pos hb).trans (if_neg he)]; exact pE
  · by_cases he : e = 0
    · rw [show own_of aB aX aE aK b e = aB from (if_neg hb).trans (if_pos he)]; exact pB
    · rw [show own_of aB aX aE aK b e = aX from (if_neg hb).trans (if_neg he)]; exact pX
theorem own_ord {args : Array Value} {s : State} {t : Term} {a : Addr} {z : Int32} (ht : t.eval args s none [] s = some (.ref a)) (h : (Jvm.Cond.eq (.field t "java/lang/Enum" "ordinal" "I") (.int z)).value args s none s [] = some true) : Fld s s.heap a "java/lang/Enum" "ordinal" "I" (.int z) := by
  obtain ⟨x, y, hx, hy, k1, k2⟩ := cmp_v (Or.inl h)
  obtain rfl : y = .int z := Option.some.inj (hy.symm.trans (Term.int_eval z))
  obtain ⟨w, rfl⟩ := k2
  obtain rfl : w = z := gotT (Cond.eq_ints hx (Term.int_eval z)) h
  exact Fld.start ((fld_at ht).symm.trans hx)
theorem d1_0 : decode prog_116_method_4_code 0 = .ok (.iload_n 0, 1) := by decide +kernel
theorem d1_1 : decode prog_116_method_4_code 1 = .ok (.ifCond .eq 20, 3) := by decide +kernel
theorem d1_4 : decode prog_116_method_4_code 4 = .ok (.iload_n 1, 1) := by decide +kernel
theorem d1_5 : decode prog_116_method_4_code 5 = .ok (.ifCond .eq 9, 3) := by decide +kernel
theorem d1_8 : decode prog_116_method_4_code 8 = .ok (.getstatic 13, 3) := by decide +kernel
theorem d1_11 : decode prog_116_method_4_code 11 = .ok (.goto 6, 3) := by decide +kernel
theorem d1_14 : decode prog_116_method_4_code 14 = .ok (.getstatic 3, 3) := by decide +kernel
theorem d1_17 : decode prog_116_method_4_code 17 = .ok (.astore_n 2, 1) := by decide +kernel
theorem d1_18 : decode prog_116_method_4_code 18 = .ok (.goto 17, 3) := by decide +kernel
theorem d1_21 : decode prog_116_method_4_code 21 = .ok (.iload_n 1, 1) := by decide +kernel
theorem d1_22 : decode prog_116_method_4_code 22 = .ok (.ifCond .eq 9, 3) := by decide +kernel
theorem d1_25 : decode prog_116_method_4_code 25 = .ok (.getstatic 10, 3) := by decide +kernel
theorem d1_28 : decode prog_116_method_4_code 28 = .ok (.goto 6, 3) := by decide +kernel
theorem d1_31 : decode prog_116_method_4_code 31 = .ok (.getstatic 7, 3) := by decide +kernel
theorem d1_34 : decode prog_116_method_4_code 34 = .ok (.astore_n 2, 1) := by decide +kernel
theorem d1_35 : decode prog_116_method_4_code 35 = .ok (.aload_n 2, 1) := by decide +kernel
theorem d1_36 : decode prog_116_method_4_code 36 = .ok (.areturn, 1) := by decide +kernel
theorem d2_0 : decode prog_116_method_5_code 0 = .ok (.aload_n 0, 1) := by decide +kernel
theorem d2_1 : decode prog_116_method_5_code 1 = .ok (.getstatic 3, 3) := by decide +kernel
theorem d2_4 : decode prog_116_method_5_code 4 = .ok (.if_acmp .eq 10, 3) := by decide +kernel
theorem d2_7 : decode prog_116_method_5_code 7 = .ok (.aload_n 0, 1) := by decide +kernel
theorem d2_8 : decode prog_116_method_5_code 8 = .ok (.getstatic 13, 3) := by decide +kernel
theorem d2_11 : decode prog_116_method_5_code 11 = .ok (.if_acmp .ne 7, 3) := by decide +kernel
theorem d2_14 : decode prog_116_method_5_code 14 = .ok (.iconst 1, 1) := by decide +kernel
theorem d2_15 : decode prog_116_method_5_code 15 = .ok (.goto 4, 3) := by decide +kernel
theorem d2_18 : decode prog_116_method_5_code 18 = .ok (.iconst 0, 1) := by decide +kernel
theorem d2_19 : decode prog_116_method_5_code 19 = .ok (.ireturn, 1) := by decide +kernel
theorem d3_0 : decode prog_116_method_6_code 0 = .ok (.aload_n 0, 1) := by decide +kernel
theorem d3_1 : decode prog_116_method_6_code 1 = .ok (.getstatic 10, 3) := by decide +kernel
theorem d3_4 : decode prog_116_method_6_code 4 = .ok (.if_acmp .eq 10, 3) := by decide +kernel
theorem d3_7 : decode prog_116_method_6_code 7 = .ok (.aload_n 0, 1) := by decide +kernel
theorem d3_8 : decode prog_116_method_6_code 8 = .ok (.getstatic 13, 3) := by decide +kernel
theorem d3_11 : decode prog_116_method_6_code 11 = .ok (.if_acmp .ne 7, 3) := by decide +kernel
theorem d3_14 : decode prog_116_method_6_code 14 = .ok (.iconst 1, 1) := by decide +kernel
theorem d3_15 : decode prog_116_method_6_code 15 = .ok (.goto 4, 3) := by decide +kernel
theorem d3_18 : decode prog_116_method_6_code 18 = .ok (.iconst 0, 1) := by decide +kernel
theorem d3_19 : decode prog_116_method_6_code 19 = .ok (.ireturn, 1) := by decide +kernel
theorem pnOp : plainName "com/example/packwire/packwire/wire/Frame$Op" = true := by first | (simp [plainName, overriddenIn]; done) | decide +kernel
def own_Qi (z : Int32) (h0 : Heap) (v : Option Value) (h : Heap) (L : List Loc) : Prop := v = some (.int z) ∧ L = [] ∧ h = h0
def own_Qa (z : Addr) (h0 : Heap) (v : Option Value) (h : Heap) (L : List Loc) : Prop := v = some (.ref z) ∧ L = [] ∧ h = h0
theorem pd1 : parseMethodDescriptor "(ZZ)Lcom/example/packwire/packwire/wire/Frame$Op;" = some ⟨[.boolean, .boolean], some (.object "com/example/packwire/packwire/wire/Frame$Op")⟩ := by decide +kernel
theorem ef1 (m : MethodId) (x0 : Int32) (x1 : Int32) : entryFrame m #[(.int x0), (.int x1)] 3 = mkF m 0 #[.val (.int x0), .val (.int x1), .unset] [] := by first | (simp [entryFrame, mkF, argsToLocals, Value.category]; done) | rfl
set_option maxRecDepth 65536 in
set_option maxHeartbeats 40000000 in
theorem rm1 (l : Launch) (Z : State) (a0 : Array Value) (hw : ∀ d ∈ tables_1, d.before a0 Z = true) (ws : List Jvm.Cond) (b e1 : Int32) (aB aX aE aK : Addr) (h0 : Heap) (SB : Sta Z h0 "com/example/packwire/packwire/wire/Frame$Op" "BEGIN" "Lcom/example/packwire/packwire/wire/Frame$Op;" (.ref aB)) (SX : Sta Z h0 "com/example/packwire/packwire/wire/Frame$Op" "BEGIN_END" "Lcom/example/packwire/packwire/wire/Frame$Op;" (.ref aX)) (SE : Sta Z h0 "com/example/packwire/packwire/wire/Frame$Op" "END" "Lcom/example/packwire/packwire/wire/Frame$Op;" (.ref aE)) (SK : Sta Z h0 "com/example/packwire/packwire/wire/Frame$Op" "KEEP" "Lcom/example/packwire/packwire/wire/Frame$Op;" (.ref aK)) :
    MetFree l (⟨"com/example/packwire/packwire/wire/Frame$Op", "of", "(ZZ)Lcom/example/packwire/packwire/wire/Frame$Op;"⟩ : MethodName) (head1 (Jvm.Cond.code (⟨"com/example/packwire/packwire/wire/Frame$Op", "of", "(ZZ)Lcom/example/packwire/packwire/wire/Frame$Op;"⟩ : MethodName) prog_116_method_4_code 3 (some (.object "com/example/packwire/packwire/wire/Frame$Op")) :: ws) ({ frames := 0, cells := 0, slots := 0, locals := 0 } : Room)) (fun a U => a = #[(.int b), (.int e1)] ∧ Z.Warmed39 U.vm ∧ U.heap = h0) (fun _ _ _ _ _ => True) (fun _ U o U' => ∃ v L, o = .returned v ∧ own_Qa (own_of aB aX aE aK b e1) h0 v U'.heap L ∧ FrameEnd U o U' L ({ frames := 0, cells := 0, slots := 0, locals := 0 } : Room).cells ({ frames := 0, cells := 0, slots := 0, locals := 0 } : Room).slots) := by
  refine MetFree.of_bodySF (plainFor_of_name pnOp) hisR ?_
  intro p e s m args below meth c s₁ Bd hml0 hP hK
  obtain ⟨rfl, hZ, hh⟩ := hP
  have hx := Bd.exec
  have hby := Bd.bytes
  have hml : c.maxLocals = 3 := hml0
  have hown : s.vm.findClass "com/example/packwire/packwire/wire/Frame$Op" = some m.cls := findClass_of_methodNamed Bd.named
  have hnm := (name_of_methodNamed Bd.named Bd.method).1
  have X0 : Stand p l e ({ frames := 0, cells := 0, slots := 0, locals := 0 } : Room) s m #[(.int b), (.int e1)] below meth c s₁ [] 0 0 := Stand.of_body Bd
  have e0 : s₁.heap = h0 := by rw [← hh, Bd.state]; rfl
  refine (show own_G p e below s (own_Qa (own_of aB aX aE aK b e1) h0) 0 0 (s₁.setTop (entryFrame m #[(.int b), (.int e1)] 3)) → _ from fun k => k) ?_
  refine own_go (fun t k => castTop (ef1 m b e1) k) ?_
  show own_G p e below s (own_Qa (own_of aB aX aE aK b e1) h0) 0 0 (s₁.setTop (mkF m 0 #[.val (.int b), .val (.int e1), .unset] []))
  refine own_go (fun t k => XS.iloadN X0.here hx rfl (hb hby d1_0) rfl k) ?_
  show own_G p e below s (own_Qa (own_of aB aX aE aK b e1) h0) 0 0 (s₁.setTop (mkF m 1 #[.val (.int b), .val (.int e1), .unset] [(.int b)]))
  by_cases h1 : b = (0 : Int32)
  · skip
    refine own_go (fun t k => XS.ifYes X0.here hx rfl (pc0 := 1) (pc' := 21) rfl (hb hby d1_1) rfl (XT.i0_eq_t h1) (by decide) (by decide) k) ?_
    show own_G p e below s (own_Qa (own_of aB aX aE aK b e1) h0) 0 0 (s₁.setTop (mkF m 21 #[.val (.int b), .val (.int e1), .unset] []))
    refine own_go (fun t k => XS.iloadN X0.here hx rfl (hb hby d1_21) rfl k) ?_
    show own_G p e below s (own_Qa (own_of aB aX aE aK b e1) h0) 0 0 (s₁.setTop (mkF m 22 #[.val (.int b), .val (.int e1), .unset] [(.int e1)]))
    by_cases h2 : e1 = (0 : Int32)
    · skip
      refine own_go (fun t k => XS.ifYes X0.here hx rfl (pc0 := 22) (pc' := 31) rfl (hb hby d1_22) rfl (XT.i0_eq_t h2) (by decide) (by decide) k) ?_
      show own_G p e below s (own_Qa (own_of aB aX aE aK b e1) h0) 0 0 (s₁.setTop (mkF m 31 #[.val (.int b), .val (.int e1), .unset] []))
      obtain ⟨T101, X101, e101, st101⟩ := getS X0 hx hZ (host := "") hown (hw _ (List.mem_of_getElem? (i := 4) rfl)) Via.refl e0 SK (g := (mkF m 31 #[.val (.int b), .val (.int e1), .unset] [])) rfl (hb hby d1_31)
      refine own_go st101 ?_
      show own_G p e below s (own_Qa (own_of aB aX aE aK b e1) h0) 0 0 (T101.setTop (mkF m 34 #[.val (.int b), .val (.int e1), .unset] [(.ref aK)]))
      refine own_go (fun t k => XS.astoreN X101.here hx rfl (hb hby d1_34) rfl rfl (l' := #[.val (.int b), .val (.int e1), .val (.ref aK)]) rfl k) ?_
      show own_G p e below s (own_Qa (own_of aB aX aE aK b e1) h0) 0 0 (T101.setTop (mkF m 35 #[.val (.int b), .val (.int e1), .val (.ref aK)] []))
      refine own_go (fun t k => XS.aloadN X101.here hx rfl (hb hby d1_35) rfl rfl k) ?_
      show own_G p e below s (own_Qa (own_of aB aX aE aK b e1) h0) 0 0 (T101.setTop (mkF m 36 #[.val (.int b), .val (.int e1), .val (.ref aK)] [(.ref aK)]))
      exact own_leave X101 (some (.ref aK)) (fun h => by rw [Bd.returns] at h; cases h) Bd.notSynchronized (fun fs hr => X101.areturnOut hx rfl Bd.returns rfl (hb hby d1_36) hr) ⟨congrArg (fun z => some (Value.ref z)) ((if_pos h1).trans (if_pos h2)).symm, rfl, e101⟩ (by decide) (by decide)
    · skip
      refine own_go (fun t k => XS.ifNo X0.here hx rfl (hb hby d1_22) rfl (XT.i0_eq_f h2) k) ?_
      show own_G p e below s (own_Qa (own_of aB aX aE aK b e1) h0) 0 0 (s₁.setTop (mkF m 25 #[.val (.int b), .val (.int e1), .unset] []))
      obtain ⟨T102, X102, e102, st102⟩ := getS X0 hx hZ (host := "") hown (hw _ (List.mem_of_getElem? (i := 20) rfl)) Via.refl e0 SE (g := (mkF m 25 #[.val (.int b), .val (.int e1), .unset] [])) rfl (hb hby d1_25)
      refine own_go st102 ?_
      show own_G p e below s (own_Qa (own_of aB aX aE aK b e1) h0) 0 0 (T102.setTop (mkF m 28 #[.val (.int b), .val (.int e1), .unset] [(.ref aE)]))
      refine own_go (fun t k => XS.goto X102.here hx rfl (pc0 := 28) (pc' := 34) rfl (hb hby d1_28) (by decide) (by decide) k) ?_
      show own_G p e below s (own_Qa (own_of aB aX aE aK b e1) h0) 0 0 (T102.setTop (mkF m 34 #[.val (.int b), .val (.int e1), .unset] [(.ref aE)]))
      refine own_go (fun t k => XS.astoreN X102.here hx rfl (hb hby d1_34) rfl rfl (l' := #[.val (.int b), .val (.int e1), .val (.ref aE)]) rfl k) ?_
      show own_G p e below s (own_Qa (own_of aB aX aE aK b e1) h0) 0 0 (T102.setTop (mkF m 35 #[.val (.int b), .val (.int e1), .val (.ref aE)] []))
      refine own_go (fun t k => XS.aloadN X102.here hx rfl (hb hby d1_35) rfl rfl k) ?_
      show own_G p e below s (own_Qa (own_of aB aX aE aK b e1) h0) 0 0 (T102.setTop (mkF m 36 #[.val (.int b), .val (.int e1), .val (.ref aE)] [(.ref aE)]))
      exact own_leave X102 (some (.ref aE)) (fun h => by rw [Bd.returns] at h; cases h) Bd.notSynchronized (fun fs hr => X102.areturnOut hx rfl Bd.returns rfl (hb hby d1_36) hr) ⟨congrArg (fun z => some (Value.ref z)) ((if_pos h1).trans (if_neg h2)).symm, rfl, e102⟩ (by decide) (by decide)
  · skip
    refine own_go (fun t k => XS.ifNo X0.here hx rfl (hb hby d1_1) rfl (XT.i0_eq_f h1) k) ?_
    show own_G p e below s (own_Qa (own_of aB aX aE aK b e1) h0) 0 0 (s₁.setTop (mkF m 4 #[.val (.int b), .val (.int e1), .unset] []))
    refine own_go (fun t k => XS.iloadN X0.here hx rfl (hb hby d1_4) rfl k) ?_
    show own_G p e below s (own_Qa (own_of aB aX aE aK b e1) h0) 0 0 (s₁.setTop (mkF m 5 #[.val (.int b), .val (.int e1), .unset] [(.int e1)]))
    by_cases h2 : e1 = (0 : Int32)
    · skip
      refine own_go (fun t k => XS.ifYes X0.here hx rfl (pc0 := 5) (pc' := 14) rfl (hb hby d1_5) rfl (XT.i0_eq_t h2) (by decide) (by decide) k) ?_
      show own_G p e below s (own_Qa (own_of aB aX aE aK b e1) h0) 0 0 (s₁.setTop (mkF m 14 #[.val (.int b), .val (.int e1), .unset] []))
      obtain ⟨T103, X103, e103, st103⟩ := getS X0 hx hZ (host := "") hown (hw _ (List.mem_of_getElem? (i := 11) rfl)) Via.refl e0 SB (g := (mkF m 14 #[.val (.int b), .val (.int e1), .unset] [])) rfl (hb hby d1_14)
      refine own_go st103 ?_
      show own_G p e below s (own_Qa (own_of aB aX aE aK b e1) h0) 0 0 (T103.setTop (mkF m 17 #[.val (.int b), .val (.int e1), .unset] [(.ref aB)]))
      refine own_go (fun t k => XS.astoreN X103.here hx rfl (hb hby d1_17) rfl rfl (l' := #[.val (.int b), .val (.int e1), .val (.ref aB)]) rfl k) ?_
      show own_G p e below s (own_Qa (own_of aB aX aE aK b e1) h0) 0 0 (T103.setTop (mkF m 18 #[.val (.int b), .val (.int e1), .val (.ref aB)] []))
      refine own_go (fun t k => XS.goto X103.here hx rfl (pc0 := 18) (pc' := 35) rfl (hb hby d1_18) (by decide) (by decide) k) ?_
      show own_G p e below s (own_Qa (own_of aB aX aE aK b e1) h0) 0 0 (T103.setTop (mkF m 35 #[.val (.int b), .val (.int e1), .val (.ref aB)] []))
      refine own_go (fun t k => XS.aloadN X103.here hx rfl (hb hby d1_35) rfl rfl k) ?_
      show own_G p e below s (own_Qa (own_of aB aX aE aK b e1) h0) 0 0 (T103.setTop (mkF m 36 #[.val (.int b), .val (.int e1), .val (.ref aB)] [(.ref aB)]))
      exact own_leave X103 (some (.ref aB)) (fun h => by rw [Bd.returns] at h; cases h) Bd.notSynchronized (fun fs hr => X103.areturnOut hx rfl Bd.returns rfl (hb hby d1_36) hr) ⟨congrArg (fun z => some (Value.ref z)) ((if_neg h1).trans (if_pos h2)).symm, rfl, e103⟩ (by decide) (by decide)
    · skip
      refine own_go (fun t k => XS.ifNo X0.here hx rfl (hb hby d1_5) rfl (XT.i0_eq_f h2) k) ?_
      show own_G p e below s (own_Qa (own_of aB aX aE aK b e1) h0) 0 0 (s₁.setTop (mkF m 8 #[.val (.int b), .val (.int e1), .unset] []))
      obtain ⟨T104, X104, e104, st104⟩ := getS X0 hx hZ (host := "") hown (hw _ (List.mem_of_getElem? (i := 13) rfl)) Via.refl e0 SX (g := (mkF m 8 #[.val (.int b), .val (.int e1), .unset] [])) rfl (hb hby d1_8)
      refine own_go st104 ?_
      show own_G p e below s (own_Qa (own_of aB aX aE aK b e1) h0) 0 0 (T104.setTop (mkF m 11 #[.val (.int b), .val (.int e1), .unset] [(.ref aX)]))
      refine own_go (fun t k => XS.goto X104.here hx rfl (pc0 := 11) (pc' := 17) rfl (hb hby d1_11) (by decide) (by decide) k) ?_
      show own_G p e below s (own_Qa (own_of aB aX aE aK b e1) h0) 0 0 (T104.setTop (mkF m 17 #[.val (.int b), .val (.int e1), .unset] [(.ref aX)]))
      refine own_go (fun t k => XS.astoreN X104.here hx rfl (hb hby d1_17) rfl rfl (l' := #[.val (.int b), .val (.int e1), .val (.ref aX)]) rfl k) ?_
      show own_G p e below s (own_Qa (own_of aB aX aE aK b e1) h0) 0 0 (T104.setTop (mkF m 18 #[.val (.int b), .val (.int e1), .val (.ref aX)] []))
      refine own_go (fun t k => XS.goto X104.here hx rfl (pc0 := 18) (pc' := 35) rfl (hb hby d1_18) (by decide) (by decide) k) ?_
      show own_G p e below s (own_Qa (own_of aB aX aE aK b e1) h0) 0 0 (T104.setTop (mkF m 35 #[.val (.int b), .val (.int e1), .val (.ref aX)] []))
      refine own_go (fun t k => XS.aloadN X104.here hx rfl (hb hby d1_35) rfl rfl k) ?_
      show own_G p e below s (own_Qa (own_of aB aX aE aK b e1) h0) 0 0 (T104.setTop (mkF m 36 #[.val (.int b), .val (.int e1), .val (.ref aX)] [(.ref aX)]))
      exact own_leave X104 (some (.ref aX)) (fun h => by rw [Bd.returns] at h; cases h) Bd.notSynchronized (fun fs hr => X104.areturnOut hx rfl Bd.returns rfl (hb hby d1_36) hr) ⟨congrArg (fun z => some (Value.ref z)) ((if_neg h1).trans (if_neg h2)).symm, rfl, e104⟩ (by decide) (by decide)
theorem pd2 : parseMethodDescriptor "()Z" = some ⟨[], some .boolean⟩ := by decide +kernel
theorem ef2 (m : MethodId) (x0 : Addr) : entryFrame m #[(.ref x0)] 1 = mkF m 0 #[.val (.ref x0)] [] := by first | (simp [entryFrame, mkF, argsToLocals, Value.category]; done) | rfl
set_option maxRecDepth 65536 in
set_option maxHeartbeats 40000000 in
theorem rm2 (l : Launch) (Z : State) (a0 : Array Value) (hw : ∀ d ∈ tables_1, d.before a0 Z = true) (ws : List Jvm.Cond) (ob aB aX : Addr) (h0 : Heap) (SB : Sta Z h0 "com/example/packwire/packwire/wire/Frame$Op" "BEGIN" "Lcom/example/packwire/packwire/wire/Frame$Op;" (.ref aB)) (SX : Sta Z h0 "com/example/packwire/packwire/wire/Frame$Op" "BEGIN_END" "Lcom/example/packwire/packwire/wire/Frame$Op;" (.ref aX)) :
    MetFree l (⟨"com/example/packwire/packwire/wire/Frame$Op", "begins", "()Z"⟩ : MethodName) (head1 (Jvm.Cond.code (⟨"com/example/packwire/packwire/wire/Frame$Op", "begins", "()Z"⟩ : MethodName) prog_116_method_5_code 1 (some .boolean) :: ws) ({ frames := 0, cells := 0, slots := 0, locals := 0 } : Room)) (fun a U => a = #[(.ref ob)] ∧ Z.Warmed39 U.vm ∧ U.heap = h0) (fun _ _ _ _ _ => True) (fun _ U o U' => ∃ v L, o = .returned v ∧ own_Qi (own_is aB aX ob) h0 v U'.heap L ∧ FrameEnd U o U' L ({ frames := 0, cells := 0, slots := 0, locals := 0 } : Room).cells ({ frames := 0, cells := 0, slots := 0, locals := 0 } : Room).slots) := by
  refine MetFree.of_bodySF (plainFor_of_name pnOp) hisR ?_
  intro p e s m args below meth c s₁ Bd hml0 hP hK
  obtain ⟨rfl, hZ, hh⟩ := hP
  have hx := Bd.exec
  have hby := Bd.bytes
  have hml : c.maxLocals = 1 := hml0
  have hown : s.vm.findClass "com/example/packwire/packwire/wire/Frame$Op" = some m.cls := findClass_of_methodNamed Bd.named
  have hnm := (name_of_methodNamed Bd.named Bd.method).1
  have X0 : Stand p l e ({ frames := 0, cells := 0, slots := 0, locals := 0 } : Room) s m #[(.ref ob)] below meth c s₁ [] 0 0 := Stand.of_body Bd
  have e0 : s₁.heap = h0 := by rw [← hh, Bd.state]; rfl
  refine (show own_G p e below s (own_Qi (own_is aB aX ob) h0) 0 0 (s₁.setTop (entryFrame m #[(.ref ob)] 1)) → _ from fun k => k) ?_
  refine own_go (fun t k => castTop (ef2 m ob) k) ?_
  show own_G p e below s (own_Qi (own_is aB aX ob) h0) 0 0 (s₁.setTop (mkF m 0 #[.val (.ref ob)] []))
  refine own_go (fun t k => XS.aloadN X0.here hx rfl (hb hby d2_0) rfl rfl k) ?_
  show own_G p e below s (own_Qi (own_is aB aX ob) h0) 0 0 (s₁.setTop (mkF m 1 #[.val (.ref ob)] [(.ref ob)]))
  obtain ⟨T105, X105, e105, st105⟩ := getS X0 hx hZ (host := "") hown (hw _ (List.mem_of_getElem? (i := 11) rfl)) Via.refl e0 SB (g := (mkF m 1 #[.val (.ref ob)] [(.ref ob)])) rfl (hb hby d2_1)
  refine own_go st105 ?_
  show own_G p e below s (own_Qi (own_is aB aX ob) h0) 0 0 (T105.setTop (mkF m 4 #[.val (.ref ob)] [(.ref aB), (.ref ob)]))
  by_cases h1 : ob = aB
  · skip
    refine own_go (fun t k => XT.acmpYes X105.here hx rfl (pc0 := 4) (pc' := 14) rfl (hb hby d2_4) rfl rfl rfl (XT.aa_eq_t (congrArg Value.ref h1)) (by decide) (by decide) k) ?_
    show own_G p e below s (own_Qi (own_is aB aX ob) h0) 0 0 (T105.setTop (mkF m 14 #[.val (.ref ob)] []))
    refine own_go (fun t k => XS.iconst X105.here hx rfl (hb hby d2_14) k) ?_
    show own_G p e below s (own_Qi (own_is aB aX ob) h0) 0 0 (T105.setTop (mkF m 15 #[.val (.ref ob)] [(.int (1 : Int32))]))
    refine own_go (fun t k => XS.goto X105.here hx rfl (pc0 := 15) (pc' := 19) rfl (hb hby d2_15) (by decide) (by decide) k) ?_
    show own_G p e below s (own_Qi (own_is aB aX ob) h0) 0 0 (T105.setTop (mkF m 19 #[.val (.ref ob)] [(.int (1 : Int32))]))
    exact own_leave X105 (some (.int (1 : Int32))) (fun h => by rw [Bd.returns] at h; cases h) Bd.notSynchronized (fun fs hr => retN X105 hx (t := .boolean) Bd.returns (by simp) (hb hby d2_19) hr) ⟨congrArg (fun z => some (Value.int z)) (own_is_1 h1).symm, rfl, e105⟩ (by decide) (by decide)
  · skip
    refine own_go (fun t k => XT.acmpNo X105.here hx rfl (hb hby d2_4) rfl rfl rfl (XT.aa_eq_f (fun q => h1 (Value.ref.inj q))) k) ?_
    show own_G p e below s (own_Qi (own_is aB aX ob) h0) 0 0 (T105.setTop (mkF m 7 #[.val (.ref ob)] []))
    refine own_go (fun t k => XS.aloadN X105.here hx rfl (hb hby d2_7) rfl rfl k) ?_
    show own_G p e below s (own_Qi (own_is aB aX ob) h0) 0 0 (T105.setTop (mkF m 8 #[.val (.ref ob)] [(.ref ob)]))
    obtain ⟨T106, X106, e106, st106⟩ := getS X105 hx hZ (host := "") hown (hw _ (List.mem_of_getElem? (i := 13) rfl)) Via.refl e105 SX (g := (mkF m 8 #[.val (.ref ob)] [(.ref ob)])) rfl (hb hby d2_8)
    refine own_go st106 ?_
    show own_G p e below s (own_Qi (own_is aB aX ob) h0) 0 0 (T106.setTop (mkF m 11 #[.val (.ref ob)] [(.ref aX), (.ref ob)]))
    by_cases h2 : ob = aX
    · skip
      refine own_go (fun t k => XT.acmpNo X106.here hx rfl (hb hby d2_11) rfl rfl rfl (XT.aa_ne_f (congrArg Value.ref h2)) k) ?_
      show own_G p e below s (own_Qi (own_is aB aX ob) h0) 0 0 (T106.setTop (mkF m 14 #[.val (.ref ob)] []))
      refine own_go (fun t k => XS.iconst X106.here hx rfl (hb hby d2_14) k) ?_
      show own_G p e below s (own_Qi (own_is aB aX ob) h0) 0 0 (T106.setTop (mkF m 15 #[.val (.ref ob)] [(.int (1 : Int32))]))
      refine own_go (fun t k => XS.goto X106.here hx rfl (pc0 := 15) (pc' := 19) rfl (hb hby d2_15) (by decide) (by decide) k) ?_
      show own_G p e below s (own_Qi (own_is aB aX ob) h0) 0 0 (T106.setTop (mkF m 19 #[.val (.ref ob)] [(.int (1 : Int32))]))
      exact own_leave X106 (some (.int (1 : Int32))) (fun h => by rw [Bd.returns] at h; cases h) Bd.notSynchronized (fun fs hr => retN X106 hx (t := .boolean) Bd.returns (by simp) (hb hby d2_19) hr) ⟨congrArg (fun z => some (Value.int z)) (own_is_2 h1 h2).symm, rfl, e106⟩ (by decide) (by decide)
    · skip
      refine own_go (fun t k => XT.acmpYes X106.here hx rfl (pc0 := 11) (pc' := 18) rfl (hb hby d2_11) rfl rfl rfl (XT.aa_ne_t (fun q => h2 (Value.ref.inj q))) (by decide) (by decide) k) ?_
      show own_G p e below s (own_Qi (own_is aB aX ob) h0) 0 0 (T106.setTop (mkF m 18 #[.val (.ref ob)] []))
      refine own_go (fun t k => XS.iconst X106.here hx rfl (hb hby d2_18) k) ?_
      show own_G p e below s (own_Qi (own_is aB aX ob) h0) 0 0 (T106.setTop (mkF m 19 #[.val (.ref ob)] [(.int (0 : Int32))]))
      exact own_leave X106 (some (.int (0 : Int32))) (fun h => by rw [Bd.returns] at h; cases h) Bd.notSynchronized (fun fs hr => retN X106 hx (t := .boolean) Bd.returns (by simp) (hb hby d2_19) hr) ⟨congrArg (fun z => some (Value.int z)) (own_is_0 h1 h2).symm, rfl, e106⟩ (by decide) (by decide)
theorem pd3 : parseMethodDescriptor "()Z" = some ⟨[], some .boolean⟩ := by decide +kernel
theorem ef3 (m : MethodId) (x0 : Addr) : entryFrame m #[(.ref x0)] 1 = mkF m 0 #[.val (.ref x0)] [] := by first | (simp [entryFrame, mkF, argsToLocals, Value.category]; done) | rfl
set_option maxRecDepth 65536 in
set_option maxHeartbeats 40000000 in
theorem rm3 (l : Launch) (Z : State) (a0 : Array Value) (hw : ∀ d ∈ tables_1, d.before a0 Z = true) (ws : List Jvm.Cond) (ob aE aX : Addr) (h0 : Heap) (SE : Sta Z h0 "com/example/packwire/packwire/wire/Frame$Op" "END" "Lcom/example/packwire/packwire/wire/Frame$Op;" (.ref aE)) (SX : Sta Z h0 "com/example/packwire/packwire/wire/Frame$Op" "BEGIN_END" "Lcom/example/packwire/packwire/wire/Frame$Op;" (.ref aX)) :
    MetFree l (⟨"com/example/packwire/packwire/wire/Frame$Op", "ends", "()Z"⟩ : MethodName) (head1 (Jvm.Cond.code (⟨"com/example/packwire/packwire/wire/Frame$Op", "ends", "()Z"⟩ : MethodName) prog_116_method_6_code 1 (some .boolean) :: ws) ({ frames := 0, cells := 0, slots := 0, locals := 0 } : Room)) (fun a U => a = #[(.ref ob)] ∧ Z.Warmed39 U.vm ∧ U.heap = h0) (fun _ _ _ _ _ => True) (fun _ U o U' => ∃ v L, o = .returned v ∧ own_Qi (own_is aE aX ob) h0 v U'.heap L ∧ FrameEnd U o U' L ({ frames := 0, cells := 0, slots := 0, locals := 0 } : Room).cells ({ frames := 0, cells := 0, slots := 0, locals := 0 } : Room).slots) := by
  refine MetFree.of_bodySF (plainFor_of_name pnOp) hisR ?_
  intro p e s m args below meth c s₁ Bd hml0 hP hK
  obtain ⟨rfl, hZ, hh⟩ := hP
  have hx := Bd.exec
  have hby := Bd.bytes
  have hml : c.maxLocals = 1 := hml0
  have hown : s.vm.findClass "com/example/packwire/packwire/wire/Frame$Op" = some m.cls := findClass_of_methodNamed Bd.named
  have hnm := (name_of_methodNamed Bd.named Bd.method).1
  have X0 : Stand p l e ({ frames := 0, cells := 0, slots := 0, locals := 0 } : Room) s m #[(.ref ob)] below meth c s₁ [] 0 0 := Stand.of_body Bd
  have e0 : s₁.heap = h0 := by rw [← hh, Bd.state]; rfl
  refine (show own_G p e below s (own_Qi (own_is aE aX ob) h0) 0 0 (s₁.setTop (entryFrame m #[(.ref ob)] 1)) → _ from fun k => k) ?_
  refine own_go (fun t k => castTop (ef3 m ob) k) ?_
  show own_G p e below s (own_Qi (own_is aE aX ob) h0) 0 0 (s₁.setTop (mkF m 0 #[.val (.ref ob)] []))
  refine own_go (fun t k => XS.aloadN X0.here hx rfl (hb hby d3_0) rfl rfl k) ?_
  show own_G p e below s (own_Qi (own_is aE aX ob) h0) 0 0 (s₁.setTop (mkF m 1 #[.val (.ref ob)] [(.ref ob)]))
  obtain ⟨T107, X107, e107, st107⟩ := getS X0 hx hZ (host := "") hown (hw _ (List.mem_of_getElem? (i := 20) rfl)) Via.refl e0 SE (g := (mkF m 1 #[.val (.ref ob)] [(.ref ob)])) rfl (hb hby d3_1)
  refine own_go st107 ?_
  show own_G p e below s (own_Qi (own_is aE aX ob) h0) 0 0 (T107.setTop (mkF m 4 #[.val (.ref ob)] [(.ref aE), (.ref ob)]))
  by_cases h1 : ob = aE
  · skip
    refine own_go (fun t k => XT.acmpYes X107.here hx rfl (pc0 := 4) (pc' := 14) rfl (hb hby d3_4) rfl rfl rfl (XT.aa_eq_t (congrArg Value.ref h1)) (by decide) (by decide) k) ?_
    show own_G p e below s (own_Qi (own_is aE aX ob) h0) 0 0 (T107.setTop (mkF m 14 #[.val (.ref ob)] []))
    refine own_go (fun t k => XS.iconst X107.here hx rfl (hb hby d3_14) k) ?_
    show own_G p e below s (own_Qi (own_is aE aX ob) h0) 0 0 (T107.setTop (mkF m 15 #[.val (.ref ob)] [(.int (1 : Int32))]))
    refine own_go (fun t k => XS.goto X107.here hx rfl (pc0 := 15) (pc' := 19) rfl (hb hby d3_15) (by decide) (by decide) k) ?_
    show own_G p e below s (own_Qi (own_is aE aX ob) h0) 0 0 (T107.setTop (mkF m 19 #[.val (.ref ob)] [(.int (1 : Int32))]))
    exact own_leave X107 (some (.int (1 : Int32))) (fun h => by rw [Bd.returns] at h; cases h) Bd.notSynchronized (fun fs hr => retN X107 hx (t := .boolean) Bd.returns (by simp) (hb hby d3_19) hr) ⟨congrArg (fun z => some (Value.int z)) (own_is_1 h1).symm, rfl, e107⟩ (by decide) (by decide)
  · skip
    refine own_go (fun t k => XT.acmpNo X107.here hx rfl (hb hby d3_4) rfl rfl rfl (XT.aa_eq_f (fun q => h1 (Value.ref.inj q))) k) ?_
    show own_G p e below s (own_Qi (own_is aE aX ob) h0) 0 0 (T107.setTop (mkF m 7 #[.val (.ref ob)] []))
    refine own_go (fun t k => XS.aloadN X107.here hx rfl (hb hby d3_7) rfl rfl k) ?_
    show own_G p e below s (own_Qi (own_is aE aX ob) h0) 0 0 (T107.setTop (mkF m 8 #[.val (.ref ob)] [(.ref ob)]))
    obtain ⟨T108, X108, e108, st108⟩ := getS X107 hx hZ (host := "") hown (hw _ (List.mem_of_getElem? (i := 13) rfl)) Via.refl e107 SX (g := (mkF m 8 #[.val (.ref ob)] [(.ref ob)])) rfl (hb hby d3_8)
    refine own_go st108 ?_
    show own_G p e below s (own_Qi (own_is aE aX ob) h0) 0 0 (T108.setTop (mkF m 11 #[.val (.ref ob)] [(.ref aX), (.ref ob)]))
    by_cases h2 : ob = aX
    · skip
      refine own_go (fun t k => XT.acmpNo X108.here hx rfl (hb hby d3_11) rfl rfl rfl (XT.aa_ne_f (congrArg Value.ref h2)) k) ?_
      show own_G p e below s (own_Qi (own_is aE aX ob) h0) 0 0 (T108.setTop (mkF m 14 #[.val (.ref ob)] []))
      refine own_go (fun t k => XS.iconst X108.here hx rfl (hb hby d3_14) k) ?_
      show own_G p e below s (own_Qi (own_is aE aX ob) h0) 0 0 (T108.setTop (mkF m 15 #[.val (.ref ob)] [(.int (1 : Int32))]))
      refine own_go (fun t k => XS.goto X108.here hx rfl (pc0 := 15) (pc' := 19) rfl (hb hby d3_15) (by decide) (by decide) k) ?_
      show own_G p e below s (own_Qi (own_is aE aX ob) h0) 0 0 (T108.setTop (mkF m 19 #[.val (.ref ob)] [(.int (1 : Int32))]))
      exact own_leave X108 (some (.int (1 : Int32))) (fun h => by rw [Bd.returns] at h; cases h) Bd.notSynchronized (fun fs hr => retN X108 hx (t := .boolean) Bd.returns (by simp) (hb hby d3_19) hr) ⟨congrArg (fun z => some (Value.int z)) (own_is_2 h1 h2).symm, rfl, e108⟩ (by decide) (by decide)
    · skip
      refine own_go (fun t k => XT.acmpYes X108.here hx rfl (pc0 := 11) (pc' := 18) rfl (hb hby d3_11) rfl rfl rfl (XT.aa_ne_t (fun q => h2 (Value.ref.inj q))) (by decide) (by decide) k) ?_
      show own_G p e below s (own_Qi (own_is aE aX ob) h0) 0 0 (T108.setTop (mkF m 18 #[.val (.ref ob)] []))
      refine own_go (fun t k => XS.iconst X108.here hx rfl (hb hby d3_18) k) ?_
      show own_G p e below s (own_Qi (own_is aE aX ob) h0) 0 0 (T108.setTop (mkF m 19 #[.val (.ref ob)] [(.int (0 : Int32))]))
      exact own_leave X108 (some (.int (0 : Int32))) (fun h => by rw [Bd.returns] at h; cases h) Bd.notSynchronized (fun fs hr => retN X108 hx (t := .boolean) Bd.returns (by simp) (hb hby d3_19) hr) ⟨congrArg (fun z => some (Value.int z)) (own_is_0 h1 h2).symm, rfl, e108⟩ (by decide) (by decide)
theorem pn0 : plainName "com/example/packwire/packwire/wire/OpOfPinLaw" = true := by first | (simp [plainName, overriddenIn]; done) | decide +kernel
theorem ef0 (m : MethodId) (x0 : Int32) : entryFrame m #[(.int x0)] maxLocals = mkF m 0 #[.val (.int x0), .unset, .unset, .unset] [] := by first | (simp [entryFrame, mkF, argsToLocals, Value.category, maxLocals]; done) | rfl
def own_Q0 (n0 : Nat) (v : Option Value) (h : Heap) (L : List Loc) : Prop := v = some (.int 1) ∧ Fr n0 L
set_option maxRecDepth 65536 in
set_option maxHeartbeats 40000000 in
theorem rm0 (l : Launch) (Z : State) (a0 : Array Value) (hw : ∀ d ∈ tables_1, d.before a0 Z = true) (ws : List Jvm.Cond) (x0 : Int32) (h0 : Heap) (n0 : Nat) (Z0 : n0 ≤ h0.size) (aB aX aE aK : Addr) (SB : Sta Z h0 "com/example/packwire/packwire/wire/Frame$Op" "BEGIN" "Lcom/example/packwire/packwire/wire/Frame$Op;" (.ref aB)) (SX : Sta Z h0 "com/example/packwire/packwire/wire/Frame$Op" "BEGIN_END" "Lcom/example/packwire/packwire/wire/Frame$Op;" (.ref aX)) (SE : Sta Z h0 "com/example/packwire/packwire/wire/Frame$Op" "END" "Lcom/example/packwire/packwire/wire/Frame$Op;" (.ref aE)) (SK : Sta Z h0 "com/example/packwire/packwire/wire/Frame$Op" "KEEP" "Lcom/example/packwire/packwire/wire/Frame$Op;" (.ref aK)) (EB : Exa Z h0 aB "com/example/packwire/packwire/wire/Frame$Op") (EX : Exa Z h0 aX "com/example/packwire/packwire/wire/Frame$Op") (EE : Exa Z h0 aE "com/example/packwire/packwire/wire/Frame$Op") (EK : Exa Z h0 aK "com/example/packwire/packwire/wire/Frame$Op") (nKB : aK ≠ aB) (nKX : aK ≠ aX) (nEB : aE ≠ aB) (nEX : aE ≠ aX) (nKE : aK ≠ aE) (nBE : aB ≠ aE) (nBX : aB ≠ aX) (nXE : aX ≠ aE) (nXB : aX ≠ aB) :
    MetFree l x (head1 (Jvm.Cond.code x code maxLocals ret :: ws) room_1) (fun a U => a = #[(.int x0)] ∧ Z.Warmed39 U.vm ∧ U.heap = h0) (fun _ _ _ _ _ => True) (fun _ U o U' => ∃ v L, o = .returned v ∧ own_Q0 n0 v U'.heap L ∧ FrameEnd U o U' L 0 0) := by
  refine MetFree.of_bodySF (plainFor_of_name pn0) hisR ?_
  intro p e s m args below meth c s₁ Bd hml0 hP hK
  obtain ⟨rfl, hZ, hh⟩ := hP
  have hx := Bd.exec
  have hby := Bd.bytes
  have hml : c.maxLocals = 4 := hml0
  have hown : s.vm.findClass "com/example/packwire/packwire/wire/OpOfPinLaw" = some m.cls := findClass_of_methodNamed Bd.named
  have hnm := (name_of_methodNamed Bd.named Bd.method).1
  have X0 : Stand p l e room_1 s m #[(.int x0)] below meth c s₁ [] 0 0 := Stand.of_body Bd
  have e0 : s₁.heap = h0 := by rw [← hh, Bd.state]; rfl
  refine (show own_G p e below s (own_Q0 n0) 0 0 (s₁.setTop (entryFrame m #[(.int x0)] maxLocals)) → _ from fun k => k) ?_
  refine own_go (fun t k => castTop (ef0 m x0) k) ?_
  show own_G p e below s (own_Q0 n0) 0 0 (s₁.setTop (mkF m 0 #[.val (.int x0), .unset, .unset, .unset] []))
  have J24 : ∀ (b e1 : Int32) (hB : b = 0 ∨ b = 1) (he : e1 = 0 ∨ e1 = 1), own_G p e below s (own_Q0 n0) 0 0 (s₁.setTop (mkF m 24 #[.val (.int x0), .val (.int b), .val (.int e1), .unset] [])) := by
    intro b e1 hB he
    refine own_go (fun t k => XS.iloadN X0.here hx rfl (hb hby at_24) rfl k) ?_
    show own_G p e below s (own_Q0 n0) 0 0 (s₁.setTop (mkF m 25 #[.val (.int x0), .val (.int b), .val (.int e1), .unset] [(.int b)]))
    refine own_go (fun t k => XS.iloadN X0.here hx rfl (hb hby at_25) rfl k) ?_
    show own_G p e below s (own_Q0 n0) 0 0 (s₁.setTop (mkF m 26 #[.val (.int x0), .val (.int b), .val (.int e1), .unset] [(.int e1), (.int b)]))
    obtain ⟨_, _, ⟨T109, L109, k109, n109⟩, -, X109, ⟨Lc109, hQ109, l109, y109, z109⟩, st109⟩ := Jvm.LawKit.callS X0 hx (y := (⟨"com/example/packwire/packwire/wire/Frame$Op", "of", "(ZZ)Lcom/example/packwire/packwire/wire/Frame$Op;"⟩ : MethodName)) hown (mvT hZ (hw _ (List.mem_of_getElem? (i := 0) rfl))) (mvT hZ (hw _ (List.mem_of_getElem? (i := 1) rfl))) (mvT hZ (hw _ (List.mem_of_getElem? (i := 2) rfl))) (mvT hZ (hw _ (List.mem_of_getElem? (i := 3) rfl))) (by decide) (backOf (W := 0) (rm1 l Z a0 hw [] b e1 aB aX aE aK h0 SB SX SE SK) hZ (hw _ (List.mem_of_getElem? (i := 3) rfl)) (hw _ (List.mem_of_getElem? (i := 2) rfl)) (by decide) (by decide)) (g := (mkF m 26 #[.val (.int x0), .val (.int b), .val (.int e1), .unset] [(.int e1), (.int b)])) rfl (by rw [hml]; rfl) (argsL := [(.int b), (.int e1)]) (rest := []) (lenOf pd1 rfl) rfl (by show 2 * 0 + _ ≤ _; exact Nat.le_of_eq rfl) (hb hby at_26) (fun _ _ => ⟨rfl, e0, (by decide : 0 + 0 ≤ _), (by decide : 0 + 0 ≤ _)⟩)
    dsimp only [Pt.U, Pt.locs, Pt.cells, Pt.slots] at X109 l109 y109 z109 st109 hQ109
    subst l109 y109 z109
    obtain ⟨rfl, rfl, e109⟩ := hQ109
    refine own_go (st109) ?_
    show own_G p e below s (own_Q0 n0) 0 0 (T109.setTop (mkF m 29 #[.val (.int x0), .val (.int b), .val (.int e1), .unset] [(.ref (own_of aB aX aE aK b e1))]))
    suffices own_n_o : ∀ o : Addr, o = (own_of aB aX aE aK b e1) → own_G p e below s (own_Q0 n0) 0 0 (T109.setTop (mkF m 29 #[.val (.int x0), .val (.int b), .val (.int e1), .unset] [(.ref o)])) from own_n_o _ rfl
    intro o h_o
    have Eo : Exa Z h0 o "com/example/packwire/packwire/wire/Frame$Op" := by rw [h_o]; exact own_of_exa (P := fun z => Exa Z h0 z "com/example/packwire/packwire/wire/Frame$Op") b e1 EB EX EE EK
    refine own_go (fun t k => XS.astoreN X109.here hx rfl (hb hby at_29) rfl rfl (l' := #[.val (.int x0), .val (.int b), .val (.int e1), .val (.ref o)]) rfl k) ?_
    show own_G p e below s (own_Q0 n0) 0 0 (T109.setTop (mkF m 30 #[.val (.int x0), .val (.int b), .val (.int e1), .val (.ref o)] []))
    refine own_go (fun t k => XS.aloadN X109.here hx rfl (hb hby at_30) rfl rfl k) ?_
    show own_G p e below s (own_Q0 n0) 0 0 (T109.setTop (mkF m 31 #[.val (.int x0), .val (.int b), .val (.int e1), .val (.ref o)] [(.ref o)]))
    refine own_go (fun t k => XT.ifnonnullYes X109.here hx rfl (pc0 := 31) (pc' := 36) rfl (hb hby at_31) rfl (by decide) (by decide) k) ?_
    show own_G p e below s (own_Q0 n0) 0 0 (T109.setTop (mkF m 36 #[.val (.int x0), .val (.int b), .val (.int e1), .val (.ref o)] []))
    refine own_go (fun t k => XS.aloadN X109.here hx rfl (hb hby at_36) rfl rfl k) ?_
    show own_G p e below s (own_Q0 n0) 0 0 (T109.setTop (mkF m 37 #[.val (.int x0), .val (.int b), .val (.int e1), .val (.ref o)] [(.ref o)]))
    obtain ⟨cq110, kq110, q110a, q110b, q110c⟩ := isOf hZ e109 Eo
    obtain ⟨_, _, ⟨T110, L110, k110, n110⟩, -, X110, ⟨Lc110, hQ110, l110, y110, z110⟩, st110⟩ := X109.virtualBack hx (y := (⟨"com/example/packwire/packwire/wire/Frame$Op", "begins", "()Z"⟩ : MethodName)) (z := (⟨"com/example/packwire/packwire/wire/Frame$Op", "begins", "()Z"⟩ : MethodName)) hown (mvT hZ (hw _ (List.mem_of_getElem? (i := 6) rfl))) (mvT hZ (hw _ (List.mem_of_getElem? (i := 7) rfl))) (notFace_of_selects (args := #[]) (mvT hZ (hw _ (List.mem_of_getElem? (i := 9) rfl)))) (mvT hZ (hw _ (List.mem_of_getElem? (i := 9) rfl))) (mvT hZ (hw _ (List.mem_of_getElem? (i := 8) rfl))) (by decide) (backOf (W := 0) (rm2 l Z a0 hw [] o aB aX h0 SB SX) hZ (hw _ (List.mem_of_getElem? (i := 10) rfl)) (hw _ (List.mem_of_getElem? (i := 2) rfl)) (by decide) (by decide)) q110a q110c (g := (mkF m 37 #[.val (.int x0), .val (.int b), .val (.int e1), .val (.ref o)] [(.ref o)])) rfl (by rw [hml]; rfl) (Steps.refl _) (argsL := []) (rest := []) (lenOf pd2 rfl) rfl (by show 2 * 0 + _ ≤ _; exact Nat.le_of_eq rfl) (hb hby at_37) (fun _ _ => ⟨rfl, e109, (by decide : 0 + 0 ≤ _), (by decide : 0 + 0 ≤ _)⟩)
    dsimp only [Pt.U, Pt.locs, Pt.cells, Pt.slots] at X110 l110 y110 z110 st110 hQ110
    subst l110 y110 z110
    obtain ⟨rfl, rfl, e110⟩ := hQ110
    refine own_go (fun t k => st110.trans k) ?_
    show own_G p e below s (own_Q0 n0) 0 0 (T110.setTop (mkF m 40 #[.val (.int x0), .val (.int b), .val (.int e1), .val (.ref o)] [(.int (own_is aB aX o))]))
    refine own_go (fun t k => XS.iloadN X110.here hx rfl (hb hby at_40) rfl k) ?_
    show own_G p e below s (own_Q0 n0) 0 0 (T110.setTop (mkF m 41 #[.val (.int x0), .val (.int b), .val (.int e1), .val (.ref o)] [(.int b), (.int (own_is aB aX o))]))
    refine own_go (fun t k => XS.icmpNo X110.here hx rfl (hb hby at_41) rfl (XT.ii_ne_f (by rw [h_o]; exact own_of_begins nKB nKX nEB nEX hB)) k) ?_
    show own_G p e below s (own_Q0 n0) 0 0 (T110.setTop (mkF m 44 #[.val (.int x0), .val (.int b), .val (.int e1), .val (.ref o)] []))
    refine own_go (fun t k => XS.aloadN X110.here hx rfl (hb hby at_44) rfl rfl k) ?_
    show own_G p e below s (own_Q0 n0) 0 0 (T110.setTop (mkF m 45 #[.val (.int x0), .val (.int b), .val (.int e1), .val (.ref o)] [(.ref o)]))
    obtain ⟨cq111, kq111, q111a, q111b, q111c⟩ := isOf hZ e110 Eo
    obtain ⟨_, _, ⟨T111, L111, k111, n111⟩, -, X111, ⟨Lc111, hQ111, l111, y111, z111⟩, st111⟩ := X110.virtualBack hx (y := (⟨"com/example/packwire/packwire/wire/Frame$Op", "ends", "()Z"⟩ : MethodName)) (z := (⟨"com/example/packwire/packwire/wire/Frame$Op", "ends", "()Z"⟩ : MethodName)) hown (mvT hZ (hw _ (List.mem_of_getElem? (i := 15) rfl))) (mvT hZ (hw _ (List.mem_of_getElem? (i := 16) rfl))) (notFace_of_selects (args := #[]) (mvT hZ (hw _ (List.mem_of_getElem? (i := 18) rfl)))) (mvT hZ (hw _ (List.mem_of_getElem? (i := 18) rfl))) (mvT hZ (hw _ (List.mem_of_getElem? (i := 17) rfl))) (by decide) (backOf (W := 0) (rm3 l Z a0 hw [] o aE aX h0 SE SX) hZ (hw _ (List.mem_of_getElem? (i := 19) rfl)) (hw _ (List.mem_of_getElem? (i := 2) rfl)) (by decide) (by decide)) q111a q111c (g := (mkF m 45 #[.val (.int x0), .val (.int b), .val (.int e1), .val (.ref o)] [(.ref o)])) rfl (by rw [hml]; rfl) (Steps.refl _) (argsL := []) (rest := []) (lenOf pd3 rfl) rfl (by show 2 * 0 + _ ≤ _; exact Nat.le_of_eq rfl) (hb hby at_45) (fun _ _ => ⟨rfl, e110, (by decide : 0 + 0 ≤ _), (by decide : 0 + 0 ≤ _)⟩)
    dsimp only [Pt.U, Pt.locs, Pt.cells, Pt.slots] at X111 l111 y111 z111 st111 hQ111
    subst l111 y111 z111
    obtain ⟨rfl, rfl, e111⟩ := hQ111
    refine own_go (fun t k => st111.trans k) ?_
    show own_G p e below s (own_Q0 n0) 0 0 (T111.setTop (mkF m 48 #[.val (.int x0), .val (.int b), .val (.int e1), .val (.ref o)] [(.int (own_is aE aX o))]))
    refine own_go (fun t k => XS.iloadN X111.here hx rfl (hb hby at_48) rfl k) ?_
    show own_G p e below s (own_Q0 n0) 0 0 (T111.setTop (mkF m 49 #[.val (.int x0), .val (.int b), .val (.int e1), .val (.ref o)] [(.int e1), (.int (own_is aE aX o))]))
    refine own_go (fun t k => XS.icmpNo X111.here hx rfl (hb hby at_49) rfl (XT.ii_ne_f (by rw [h_o]; exact own_of_ends nKE nKX nBE nBX he)) k) ?_
    show own_G p e below s (own_Q0 n0) 0 0 (T111.setTop (mkF m 52 #[.val (.int x0), .val (.int b), .val (.int e1), .val (.ref o)] []))
    refine own_go (fun t k => XS.iconst X111.here hx rfl (hb hby at_52) k) ?_
    show own_G p e below s (own_Q0 n0) 0 0 (T111.setTop (mkF m 53 #[.val (.int x0), .val (.int b), .val (.int e1), .val (.ref o)] [(.int (1 : Int32))]))
    refine own_go (fun t k => XS.goto X111.here hx rfl (pc0 := 53) (pc' := 57) rfl (hb hby at_53) (by decide) (by decide) k) ?_
    show own_G p e below s (own_Q0 n0) 0 0 (T111.setTop (mkF m 57 #[.val (.int x0), .val (.int b), .val (.int e1), .val (.ref o)] [(.int (1 : Int32))]))
    exact own_leave X111 (some (.int (1 : Int32))) (fun h => by rw [Bd.returns] at h; cases h) Bd.notSynchronized (fun fs hr => retN X111 hx (t := .boolean) Bd.returns (by simp) (hb hby at_57) hr) ⟨rfl, (Fr.app (Fr.app (Fr.app (Fr.nil n0) (Fr.nil n0)) (Fr.nil n0)) (Fr.nil n0))⟩ (by decide) (by decide)
  have J12 : ∀ (b : Int32) (hB : b = 0 ∨ b = 1), own_G p e below s (own_Q0 n0) 0 0 (s₁.setTop (mkF m 12 #[.val (.int x0), .val (.int b), .unset, .unset] [])) := by
    intro b hB
    refine own_go (fun t k => XS.iloadN X0.here hx rfl (hb hby at_12) rfl k) ?_
    show own_G p e below s (own_Q0 n0) 0 0 (s₁.setTop (mkF m 13 #[.val (.int x0), .val (.int b), .unset, .unset] [(.int x0)]))
    refine own_go (fun t k => XS.iconst X0.here hx rfl (hb hby at_13) k) ?_
    show own_G p e below s (own_Q0 n0) 0 0 (s₁.setTop (mkF m 14 #[.val (.int x0), .val (.int b), .unset, .unset] [(.int (2 : Int32)), (.int x0)]))
    refine own_go (fun t k => XS.iand X0.here hx rfl (hb hby at_14) rfl k) ?_
    show own_G p e below s (own_Q0 n0) 0 0 (s₁.setTop (mkF m 15 #[.val (.int x0), .val (.int b), .unset, .unset] [(.int (x0 &&& (2 : Int32)))]))
    by_cases h1 : (x0 &&& (2 : Int32)) = (0 : Int32)
    · skip
      refine own_go (fun t k => XS.ifYes X0.here hx rfl (pc0 := 15) (pc' := 22) rfl (hb hby at_15) rfl (XT.i0_eq_t h1) (by decide) (by decide) k) ?_
      show own_G p e below s (own_Q0 n0) 0 0 (s₁.setTop (mkF m 22 #[.val (.int x0), .val (.int b), .unset, .unset] []))
      refine own_go (fun t k => XS.iconst X0.here hx rfl (hb hby at_22) k) ?_
      show own_G p e below s (own_Q0 n0) 0 0 (s₁.setTop (mkF m 23 #[.val (.int x0), .val (.int b), .unset, .unset] [(.int (0 : Int32))]))
      refine own_go (fun t k => XS.istoreN X0.here hx rfl (hb hby at_23) rfl (l' := #[.val (.int x0), .val (.int b), .val (.int (0 : Int32)), .unset]) rfl k) ?_
      show own_G p e below s (own_Q0 n0) 0 0 (s₁.setTop (mkF m 24 #[.val (.int x0), .val (.int b), .val (.int (0 : Int32)), .unset] []))
      exact J24 _ _ hB (Or.inl rfl)
    · skip
      refine own_go (fun t k => XS.ifNo X0.here hx rfl (hb hby at_15) rfl (XT.i0_eq_f h1) k) ?_
      show own_G p e below s (own_Q0 n0) 0 0 (s₁.setTop (mkF m 18 #[.val (.int x0), .val (.int b), .unset, .unset] []))
      refine own_go (fun t k => XS.iconst X0.here hx rfl (hb hby at_18) k) ?_
      show own_G p e below s (own_Q0 n0) 0 0 (s₁.setTop (mkF m 19 #[.val (.int x0), .val (.int b), .unset, .unset] [(.int (1 : Int32))]))
      refine own_go (fun t k => XS.goto X0.here hx rfl (pc0 := 19) (pc' := 23) rfl (hb hby at_19) (by decide) (by decide) k) ?_
      show own_G p e below s (own_Q0 n0) 0 0 (s₁.setTop (mkF m 23 #[.val (.int x0), .val (.int b), .unset, .unset] [(.int (1 : Int32))]))
      refine own_go (fun t k => XS.istoreN X0.here hx rfl (hb hby at_23) rfl (l' := #[.val (.int x0), .val (.int b), .val (.int (1 : Int32)), .unset]) rfl k) ?_
      show own_G p e below s (own_Q0 n0) 0 0 (s₁.setTop (mkF m 24 #[.val (.int x0), .val (.int b), .val (.int (1 : Int32)), .unset] []))
      exact J24 _ _ hB (Or.inr rfl)
  refine own_go (fun t k => XS.iloadN X0.here hx rfl (hb hby at_0) rfl k) ?_
  show own_G p e below s (own_Q0 n0) 0 0 (s₁.setTop (mkF m 1 #[.val (.int x0), .unset, .unset, .unset] [(.int x0)]))
  refine own_go (fun t k => XS.iconst X0.here hx rfl (hb hby at_1) k) ?_
  show own_G p e below s (own_Q0 n0) 0 0 (s₁.setTop (mkF m 2 #[.val (.int x0), .unset, .unset, .unset] [(.int (1 : Int32)), (.int x0)]))
  refine own_go (fun t k => XS.iand X0.here hx rfl (hb hby at_2) rfl k) ?_
  show own_G p e below s (own_Q0 n0) 0 0 (s₁.setTop (mkF m 3 #[.val (.int x0), .unset, .unset, .unset] [(.int (x0 &&& (1 : Int32)))]))
  by_cases h1 : (x0 &&& (1 : Int32)) = (0 : Int32)
  · skip
    refine own_go (fun t k => XS.ifYes X0.here hx rfl (pc0 := 3) (pc' := 10) rfl (hb hby at_3) rfl (XT.i0_eq_t h1) (by decide) (by decide) k) ?_
    show own_G p e below s (own_Q0 n0) 0 0 (s₁.setTop (mkF m 10 #[.val (.int x0), .unset, .unset, .unset] []))
    refine own_go (fun t k => XS.iconst X0.here hx rfl (hb hby at_10) k) ?_
    show own_G p e below s (own_Q0 n0) 0 0 (s₁.setTop (mkF m 11 #[.val (.int x0), .unset, .unset, .unset] [(.int (0 : Int32))]))
    refine own_go (fun t k => XS.istoreN X0.here hx rfl (hb hby at_11) rfl (l' := #[.val (.int x0), .val (.int (0 : Int32)), .unset, .unset]) rfl k) ?_
    show own_G p e below s (own_Q0 n0) 0 0 (s₁.setTop (mkF m 12 #[.val (.int x0), .val (.int (0 : Int32)), .unset, .unset] []))
    exact J12 _ (Or.inl rfl)
  · skip
    refine own_go (fun t k => XS.ifNo X0.here hx rfl (hb hby at_3) rfl (XT.i0_eq_f h1) k) ?_
    show own_G p e below s (own_Q0 n0) 0 0 (s₁.setTop (mkF m 6 #[.val (.int x0), .unset, .unset, .unset] []))
    refine own_go (fun t k => XS.iconst X0.here hx rfl (hb hby at_6) k) ?_
    show own_G p e below s (own_Q0 n0) 0 0 (s₁.setTop (mkF m 7 #[.val (.int x0), .unset, .unset, .unset] [(.int (1 : Int32))]))
    refine own_go (fun t k => XS.goto X0.here hx rfl (pc0 := 7) (pc' := 11) rfl (hb hby at_7) (by decide) (by decide) k) ?_
    show own_G p e below s (own_Q0 n0) 0 0 (s₁.setTop (mkF m 11 #[.val (.int x0), .unset, .unset, .unset] [(.int (1 : Int32))]))
    refine own_go (fun t k => XS.istoreN X0.here hx rfl (hb hby at_11) rfl (l' := #[.val (.int x0), .val (.int (1 : Int32)), .unset, .unset]) rfl k) ?_
    show own_G p e below s (own_Q0 n0) 0 0 (s₁.setTop (mkF m 12 #[.val (.int x0), .val (.int (1 : Int32)), .unset, .unset] []))
    exact J12 _ (Or.inr rfl)
set_option maxRecDepth 65536 in
set_option maxHeartbeats 40000000 in
theorem comes_1 {Post : Tables → Env → Array Value → State → Outcome → State → Prop} (hpost : ∀ tb e args s v u, (limb_1_1.after args s (.returned v) u = true ∧ limb_1_2.after args s (.returned v) u = true ∧ True) → FrameEnd s (.returned v) u (Jvm.fieldLocs frame_1_writes args s ++ Jvm.arrayLocs frame_1_arrays args s ++ Jvm.staticLocs frame_1_statics s) 0 0 → Post tb e args s (.returned v) u) :
    ArmFor flags0 classFile x code maxLocals ret World_1 tables_1 room_1 Calls_1 rest_1 Pre_1 Post := by
  intro l hfl _ _ p e ha hc hk s m args below hf hA hF happ hP
  obtain ⟨hcalls, hrest, hpre⟩ := hP
  obtain ⟨-, -, -, hnamed, -, -, -, hat⟩ := (Spec.applies_iff hf).mp happ
  obtain ⟨hg, hn⟩ := and_e (Cond.before_iff.mp (show (Jvm.Cond.and given_1 narrow_1).before args s = true from hpre))
  obtain ⟨h1, r0⟩ := and_e hg
  obtain ⟨w0, rfl⟩ : ∃ w0 : Value, args = #[w0] := by
    have hs : args.size = 1 := by simpa [Cond.value, given_1] using h1
    obtain ⟨L⟩ := args
    match L, hs with
    | [w0], _ => exact ⟨w0, rfl⟩
  have hw := fun d (hd : d ∈ tables_1) => atoms_spec (ws := Jvm.Cond.code x code maxLocals ret :: tables_1) hat d (List.mem_cons_of_mem _ hd)
  obtain ⟨i0, e0⟩ := is_v r0
  obtain rfl : w0 = (.int i0) := Option.some.inj e0
  obtain ⟨xK, q0⟩ := and_e hn
  obtain ⟨xB, q1⟩ := and_e q0
  obtain ⟨oK, q2⟩ := and_e q1
  obtain ⟨oB, q3⟩ := and_e q2
  obtain ⟨xX, q4⟩ := and_e q3
  obtain ⟨oX, q5⟩ := and_e q4
  obtain ⟨xE, q6⟩ := and_e q5
  have oE := q6
  obtain ⟨aB, vB⟩ := exa_v xB
  have EB : Exa s s.heap aB "com/example/packwire/packwire/wire/Frame$Op" := Exa.start vB xB
  have SB : Sta s s.heap "com/example/packwire/packwire/wire/Frame$Op" "BEGIN" "Lcom/example/packwire/packwire/wire/Frame$Op;" (.ref aB) := Sta.start vB (Or.inr ⟨(hw _ (List.mem_of_getElem? (i := 2) rfl)), (hw _ (List.mem_of_getElem? (i := 12) rfl))⟩)
  have FB := own_ord vB oB
  obtain ⟨aX, vX⟩ := exa_v xX
  have EX : Exa s s.heap aX "com/example/packwire/packwire/wire/Frame$Op" := Exa.start vX xX
  have SX : Sta s s.heap "com/example/packwire/packwire/wire/Frame$Op" "BEGIN_END" "Lcom/example/packwire/packwire/wire/Frame$Op;" (.ref aX) := Sta.start vX (Or.inr ⟨(hw _ (List.mem_of_getElem? (i := 2) rfl)), (hw _ (List.mem_of_getElem? (i := 14) rfl))⟩)
  have FX := own_ord vX oX
  obtain ⟨aE, vE⟩ := exa_v xE
  have EE : Exa s s.heap aE "com/example/packwire/packwire/wire/Frame$Op" := Exa.start vE xE
  have SE : Sta s s.heap "com/example/packwire/packwire/wire/Frame$Op" "END" "Lcom/example/packwire/packwire/wire/Frame$Op;" (.ref aE) := Sta.start vE (Or.inr ⟨(hw _ (List.mem_of_getElem? (i := 2) rfl)), (hw _ (List.mem_of_getElem? (i := 21) rfl))⟩)
  have FE := own_ord vE oE
  obtain ⟨aK, vK⟩ := exa_v xK
  have EK : Exa s s.heap aK "com/example/packwire/packwire/wire/Frame$Op" := Exa.start vK xK
  have SK : Sta s s.heap "com/example/packwire/packwire/wire/Frame$Op" "KEEP" "Lcom/example/packwire/packwire/wire/Frame$Op;" (.ref aK) := Sta.start vK (Or.inr ⟨(hw _ (List.mem_of_getElem? (i := 2) rfl)), (hw _ (List.mem_of_getElem? (i := 5) rfl))⟩)
  have FK := own_ord vK oK
  have nKB : aK ≠ aB := FK.ne FB (by decide)
  have nKX : aK ≠ aX := FK.ne FX (by decide)
  have nEB : aE ≠ aB := FE.ne FB (by decide)
  have nEX : aE ≠ aX := FE.ne FX (by decide)
  have nKE : aK ≠ aE := FK.ne FE (by decide)
  have nBE : aB ≠ aE := FB.ne FE (by decide)
  have nBX : aB ≠ aX := FB.ne FX (by decide)
  have nXE : aX ≠ aE := FX.ne FE (by decide)
  have nXB : aX ≠ aB := FX.ne FB (by decide)
  obtain ⟨n, o, h1, h2, h3, _, L, rfl, ⟨rfl, N⟩, hq⟩ := rm0 l s _ hw tables_1 i0 s.heap s.heap.size (Nat.le_refl _) aB aX aE aK SB SX SE SK EB EX EE EK nKB nKX nEB nEX nKE nBE nBX nXE nXB p e ha hc hk s m _ below hf ((Spec.applies_iff_loose hf).mp happ).1 ⟨rfl, State.Warmed39.refl s, rfl⟩ trivial
  refine ⟨n, _, h1, h2, h3, hpost _ _ _ _ _ _ ⟨Cond.after_iff.mpr rfl, Cond.after_iff.mpr (eq_i res_at (Term.int_eval (1)) rfl), trivial⟩ ⟨hq.1, hq.2.1, (hq.2.2.sift fun y hy => Or.inr (N y hy)).mono (by decide) (by decide)⟩⟩
theorem main_1_1 : Claimed_1_1 := comes_1 fun _ _ _ _ _ _ h hF => ⟨h.1, hF⟩
theorem main_1_2 : Claimed_1_2 := comes_1 fun _ _ _ _ _ _ h hF => ⟨h.2.1, hF⟩
end Jvm.Pilot.@@N@@
namespace Jvm.Pilot.@@N@@
open Jvm Jvm.ClassFile Sem Op Lib Jvm.Free Jvm.Stand Jvm.Pilot.@@N@@.Jvm.D
/-! MADE BY PROGRAM (witnessworld.py) out of the Statement's table words and the real class files: 12 classes; the members and pool entries that the words name. The judged class is class 1, her method 1. -/
namespace start1
open Jvm.ClassFile
def u (s : String) : CpInfo := .utf8 (stringToUtf16 s)
/-- a pool by its gaps: so many unusable entries, then the entry; so many at the end -/
def gap : Nat → List CpInfo → List CpInfo
  | 0, r => r
  | n + 1, r => .unusable :: gap n r
def poolList (es : List (Nat × CpInfo)) (last : Nat) : List CpInfo := es.foldr (fun e r => gap e.1 (e.2 :: r)) (gap last [])
def pool (es : List (Nat × CpInfo)) (last : Nat) : Array CpInfo := ⟨poolList es last⟩
def fileOf (pool : Array CpInfo) (this : Nat) (attrs : Array Attribute := #[]) (ms : Array MethodInfo := #[]) (fl : Nat := 33) (sup : Nat := 0) (ifs : Array Nat := #[]) (fds : Array FieldInfo := #[]) : ClassFile where
  minorVersion := 0
  majorVersion := 65
  constantPool := pool
  accessFlags := fl
  thisClass := this
  superClass := sup
  interfaces := ifs
  fields := fds
  methods := ms
  attributes := attrs
def plain (name : String) (sup : Option ClassId) : Class where
  name := name
  kind := .ordinary
  loader := none
  accessFlags := 33
  super := sup
  interfaces := #[]
  cf := none
  fields := #[]
  methods := #[]
  instanceTypes := #[]
  staticTypes := #[]
  resolved := #[]
  callSites := []
  init := .initialized
  statics := none
  mirror := none

def pool0 : Array CpInfo := pool [(5, u "<init>"), (0, u "()V"), (1, .class_ 10), (1, u "java/lang/Object")] 113

def k0m0 : Method := { name := "<init>", desc := "()V", sig := { parameters := [], returnType := none }, accessFlags := 1, code := none }
/-- java/lang/Object -/
def k0 : Class := { plain "java/lang/Object" none with
  accessFlags := 33
  interfaces := #[]
  cf := some (fileOf pool0 8 #[] #[{ accessFlags := 1, nameIndex := 5, descriptorIndex := 6, attributes := #[] }] 33 0 #[] #[])
  fields := #[]
  methods := #[k0m0]
  instanceTypes := #[]
  staticTypes := #[]
  resolved := Array.replicate 124 none
  statics := none }

def pool1 : Array CpInfo := pool [(2, .class_ 4), (1, u "java/lang/Object"), (0, u "<init>"), (0, u "()V"), (0, .methodref 8 9), (0, .class_ 10), (0, .nameAndType 11 12), (0, u "com/example/packwire/packwire/wire/Frame$Op"), (0, u "of"), (0, u "(ZZ)Lcom/example/packwire/packwire/wire/Frame$Op;"), (0, .methodref 8 14), (0, .nameAndType 15 16), (0, u "begins"), (0, u "()Z"), (0, .methodref 8 18), (0, .nameAndType 19 16), (0, u "ends"), (0, .class_ 21), (0, u "com/example/packwire/packwire/wire/OpOfPinLaw"), (2, u "law"), (0, u "(I)Z")] 7

def k1m0 : Method := { name := "<init>", desc := "()V", sig := { parameters := [], returnType := none }, accessFlags := 1, code := none }
def k1c1 : Code := { maxStack := 2, maxLocals := 4, code := code, exceptionTable := #[], attributes := #[] }
def k1m1 : Method := { name := "law", desc := "(I)Z", sig := { parameters := [.int], returnType := some .boolean }, accessFlags := 9, code := some k1c1 }
/-- com/example/packwire/packwire/wire/OpOfPinLaw -/
def k1 : Class := { plain "com/example/packwire/packwire/wire/OpOfPinLaw" (some 0) with
  accessFlags := 49
  interfaces := #[]
  cf := some (fileOf pool1 20 #[] #[{ accessFlags := 1, nameIndex := 5, descriptorIndex := 6, attributes := #[] }, { accessFlags := 9, nameIndex := 24, descriptorIndex := 25, attributes := #[] }] 49 2 #[] #[])
  fields := #[]
  methods := #[k1m0, k1m1]
  instanceTypes := #[]
  staticTypes := #[]
  resolved := Array.replicate 33 none
  statics := none }

def pool2 : Array CpInfo := pool [(1, .class_ 2), (0, u "java/lang/constant/Constable"), (0, .class_ 4), (0, u "java/lang/Object")] 6

/-- java/lang/constant/Constable -/
def k2 : Class := { plain "java/lang/constant/Constable" (some 0) with
  accessFlags := 1537
  interfaces := #[]
  cf := some (fileOf pool2 1 #[] #[] 1537 3 #[] #[])
  fields := #[]
  methods := #[]
  instanceTypes := #[]
  staticTypes := #[]
  resolved := Array.replicate 11 none
  statics := none }

def pool3 : Array CpInfo := pool [(1, .class_ 2), (0, u "java/lang/Comparable"), (0, .class_ 4), (0, u "java/lang/Object")] 7

/-- java/lang/Comparable -/
def k3 : Class := { plain "java/lang/Comparable" (some 0) with
  accessFlags := 1537
  interfaces := #[]
  cf := some (fileOf pool3 1 #[] #[] 1537 3 #[] #[])
  fields := #[]
  methods := #[]
  instanceTypes := #[]
  staticTypes := #[]
  resolved := Array.replicate 12 none
  statics := none }

def pool4 : Array CpInfo := pool [(1, .class_ 2), (0, u "java/io/Serializable"), (0, .class_ 4), (0, u "java/lang/Object")] 2

/-- java/io/Serializable -/
def k4 : Class := { plain "java/io/Serializable" (some 0) with
  accessFlags := 1537
  interfaces := #[]
  cf := some (fileOf pool4 1 #[] #[] 1537 3 #[] #[])
  fields := #[]
  methods := #[]
  instanceTypes := #[]
  staticTypes := #[]
  resolved := Array.replicate 7 none
  statics := none }

def pool5 : Array CpInfo := pool [(2, .class_ 4), (1, u "java/lang/Enum"), (0, u "name"), (0, u "Ljava/lang/String;"), (2, u "ordinal"), (0, u "I"), (1, .class_ 14), (1, u "java/lang/Object"), (4, u "hash"), (86, .class_ 108), (1, u "java/lang/Enum$EnumDesc"), (2, .class_ 112), (0, u "java/lang/constant/Constable"), (0, .class_ 114), (0, u "java/lang/Comparable"), (0, .class_ 116), (0, u "java/io/Serializable")] 87

/-- java/lang/Enum -/
def k5 : Class := { plain "java/lang/Enum" (some 0) with
  accessFlags := 1057
  interfaces := #[2, 3, 4]
  cf := some (fileOf pool5 2 #[.nestMembers #[106]] #[] 1057 12 #[111, 113, 115] #[{ accessFlags := 18, nameIndex := 5, descriptorIndex := 6, attributes := #[] }, { accessFlags := 18, nameIndex := 9, descriptorIndex := 10, attributes := #[] }, { accessFlags := 2, nameIndex := 19, descriptorIndex := 10, attributes := #[] }])
  fields := #[{ name := "name", type := (.object "java/lang/String"), accessFlags := 18, slot := 0, constantValue := 0 }, { name := "ordinal", type := .int, accessFlags := 18, slot := 1, constantValue := 0 }, { name := "hash", type := .int, accessFlags := 2, slot := 2, constantValue := 0 }]
  methods := #[]
  instanceTypes := #[(.object "java/lang/String"), .int, .int]
  staticTypes := #[]
  resolved := Array.replicate 204 none
  statics := none }

def pool6 : Array CpInfo := pool [(1, .class_ 2), (0, u "com/example/packwire/packwire/wire/Frame$Op"), (0, .fieldref 1 4), (0, .nameAndType 5 6), (0, u "BEGIN"), (0, u "Lcom/example/packwire/packwire/wire/Frame$Op;"), (0, .fieldref 1 8), (0, .nameAndType 9 6), (0, u "KEEP"), (0, .fieldref 1 11), (0, .nameAndType 12 6), (0, u "END"), (0, .fieldref 1 14), (0, .nameAndType 15 6), (0, u "BEGIN_END"), (2, u "$VALUES"), (0, u "[Lcom/example/packwire/packwire/wire/Frame$Op;"), (6, .class_ 28), (1, u "java/lang/Enum"), (8, u "text"), (0, u "Ljava/lang/String;"), (26, u "of"), (0, u "(ZZ)Lcom/example/packwire/packwire/wire/Frame$Op;"), (1, u "begins"), (0, u "()Z"), (0, u "ends"), (7, .class_ 79), (0, u "com/example/packwire/packwire/wire/Frame")] 2

def k6c0 : Code := { maxStack := 1, maxLocals := 3, code := prog_116_method_4_code, exceptionTable := #[], attributes := #[] }
def k6m0 : Method := { name := "of", desc := "(ZZ)Lcom/example/packwire/packwire/wire/Frame$Op;", sig := { parameters := [.boolean, .boolean], returnType := some (.object "com/example/packwire/packwire/wire/Frame$Op") }, accessFlags := 8, code := some k6c0 }
def k6c1 : Code := { maxStack := 2, maxLocals := 1, code := prog_116_method_5_code, exceptionTable := #[], attributes := #[] }
def k6m1 : Method := { name := "begins", desc := "()Z", sig := { parameters := [], returnType := some .boolean }, accessFlags := 0, code := some k6c1 }
def k6c2 : Code := { maxStack := 2, maxLocals := 1, code := prog_116_method_6_code, exceptionTable := #[], attributes := #[] }
def k6m2 : Method := { name := "ends", desc := "()Z", sig := { parameters := [], returnType := some .boolean }, accessFlags := 0, code := some k6c2 }
/-- com/example/packwire/packwire/wire/Frame$Op -/
def k6 : Class := { plain "com/example/packwire/packwire/wire/Frame$Op" (some 5) with
  accessFlags := 16432
  interfaces := #[]
  cf := some (fileOf pool6 1 #[.nestHost 78] #[{ accessFlags := 8, nameIndex := 65, descriptorIndex := 66, attributes := #[] }, { accessFlags := 0, nameIndex := 68, descriptorIndex := 69, attributes := #[] }, { accessFlags := 0, nameIndex := 70, descriptorIndex := 69, attributes := #[] }] 16432 26 #[] #[{ accessFlags := 16409, nameIndex := 5, descriptorIndex := 6, attributes := #[] }, { accessFlags := 16409, nameIndex := 9, descriptorIndex := 6, attributes := #[] }, { accessFlags := 16409, nameIndex := 12, descriptorIndex := 6, attributes := #[] }, { accessFlags := 16409, nameIndex := 15, descriptorIndex := 6, attributes := #[] }, { accessFlags := 18, nameIndex := 37, descriptorIndex := 38, attributes := #[] }, { accessFlags := 4122, nameIndex := 18, descriptorIndex := 19, attributes := #[] }])
  fields := #[{ name := "BEGIN", type := (.object "com/example/packwire/packwire/wire/Frame$Op"), accessFlags := 16409, slot := 0, constantValue := 0 }, { name := "KEEP", type := (.object "com/example/packwire/packwire/wire/Frame$Op"), accessFlags := 16409, slot := 1, constantValue := 0 }, { name := "END", type := (.object "com/example/packwire/packwire/wire/Frame$Op"), accessFlags := 16409, slot := 2, constantValue := 0 }, { name := "BEGIN_END", type := (.object "com/example/packwire/packwire/wire/Frame$Op"), accessFlags := 16409, slot := 3, constantValue := 0 }, { name := "text", type := (.object "java/lang/String"), accessFlags := 18, slot := 3, constantValue := 0 }, { name := "$VALUES", type := (.array (.object "com/example/packwire/packwire/wire/Frame$Op")), accessFlags := 4122, slot := 4, constantValue := 0 }]
  methods := #[k6m0, k6m1, k6m2]
  instanceTypes := #[(.object "java/lang/String"), .int, .int, (.object "java/lang/String")]
  staticTypes := #[(.object "com/example/packwire/packwire/wire/Frame$Op"), (.object "com/example/packwire/packwire/wire/Frame$Op"), (.object "com/example/packwire/packwire/wire/Frame$Op"), (.object "com/example/packwire/packwire/wire/Frame$Op"), (.array (.object "com/example/packwire/packwire/wire/Frame$Op"))]
  resolved := Array.replicate 82 none
  statics := some 0 }

def pool7 : Array CpInfo := pool [(1, u "java/lang/Cloneable"), (0, .class_ 1), (0, u "java/lang/Object"), (0, .class_ 3)] 3

/-- java/lang/Cloneable -/
def k7 : Class := { plain "java/lang/Cloneable" (some 0) with
  accessFlags := 1537
  interfaces := #[]
  cf := some (fileOf pool7 2 #[] #[] 1537 4 #[] #[])
  fields := #[]
  methods := #[]
  instanceTypes := #[]
  staticTypes := #[]
  resolved := Array.replicate 8 none
  statics := none }

/-- the primitive byte -/
def k8 : Class := { plain "byte" none with kind := .primitive 'B', accessFlags := 0x411 }
/-- [B -/
def k9 : Class := { plain "[B" (some 0) with kind := .array 8 .byte, interfaces := #[7, 4], accessFlags := 1041 }

/-- the primitive int -/
def k10 : Class := { plain "int" none with kind := .primitive 'I', accessFlags := 0x411 }
/-- [I -/
def k11 : Class := { plain "[I" (some 0) with kind := .array 10 .int, interfaces := #[7, 4], accessFlags := 1041 }

def heap : Heap := #[{ cls := 6, slots := #[.ref 1, .ref 2, .ref 3, .ref 4, .null], vm := .statics 6 },
  { cls := 6, slots := #[.null, .int 0, .int 0, .null], vm := .none },
  { cls := 6, slots := #[.null, .int 1, .int 0, .null], vm := .none },
  { cls := 6, slots := #[.null, .int 2, .int 0, .null], vm := .none },
  { cls := 6, slots := #[.null, .int 3, .int 0, .null], vm := .none }]
def classes : Array Class := #[k0, k1, k2, k3, k4, k5, k6, k7, k8, k9, k10, k11]
def interned : List (Array UInt16 × Addr) := []
def slotsUsed : Nat := 21
def theMethod : MethodId := ⟨1, 1⟩
def args0 : Array Value := #[.int 5]
def aboutOver (below : List Frame) : State where
  vm := { classes := classes, interned := interned.toArray }
  heap := heap
  slotsUsed := slotsUsed
  threads := #[{ frames := .invoking theMethod args0 :: below }]
def below0 : List Frame := [.native { method := ⟨0, 0⟩, args := #[] }]
def about1 : State := aboutOver below0
def p0 : Program := .bare "" "" ""
def e0 : Env := launch0.env 0 0 0
theorem w_frames : about1.frames = Frame.invoking theMethod args0 :: below0 := rfl
set_option maxRecDepth 65536 in
theorem w_args : argsFit about1.vm theMethod args0 = true := by decide +kernel
set_option maxRecDepth 65536 in
theorem w_heap : heapFits about1 = true := by decide +kernel
set_option maxRecDepth 65536 in
theorem w_runnable : about1.curStatus? = some .runnable := by decide +kernel
set_option maxRecDepth 65536 in
theorem w_alone : about1.alone = true := by decide +kernel
set_option maxRecDepth 65536 in
theorem w_named : about1.methodNamed? x = some theMethod := by decide +kernel
set_option maxRecDepth 65536 in
theorem w_hears : about1.hears theMethod below0 = true := by decide +kernel
set_option maxRecDepth 65536 in
theorem w_ripe : about1.ripe theMethod args0 below0 = true := by decide +kernel
theorem w_running : about1.status = .running := rfl
set_option maxRecDepth 65536 in
theorem w_room : about1.hasRoom e0.platform room_1 = true :=
  launch0.hasRoom_least _ room_1 (by decide +kernel) (by decide +kernel) (by decide +kernel) (by decide +kernel) (by decide +kernel) (by decide +kernel)
theorem allAtoms_all (ts : List Jvm.Cond) (a : Array Jvm.Value) (st : Jvm.State) : (allAtoms ts).before a st = ts.all (fun c => c.before a st) := by
  induction ts with
  | nil => rfl
  | cons c t ih =>
    show (Jvm.Cond.and c (allAtoms t)).before a st = _
    rw [Jvm.Cond.before_and, ih, List.all_cons]
def words1 : List Jvm.Cond := Jvm.Cond.code x code maxLocals ret :: tables_1
/-- a 'code' word, met by the world's own term for the bytes: nothing is compared byte by byte -/
theorem code_word {y : MethodName} {bytes : ByteArray} {mx : Nat} {rt : Option FieldType} {a : Array Value} {s : State} {m : MethodId} {meth : Method} {c : Code} (h1 : s.methodNamed? y = some m) (h2 : s.vm.method? m = some meth) (h3 : meth.code = some c) (h4 : c.code = bytes)
    (h5 : (c.maxLocals == mx && c.exceptionTable.isEmpty && decide (c.maxStack ≤ mostOperands) && decide (meth.sig.returnType = rt) && !meth.locks && decide (parseMethodDescriptor y.desc = some meth.sig)) = true) : (Jvm.Cond.code y bytes mx rt).before a s = true := by
  simp only [Bool.and_eq_true, beq_iff_eq, Bool.not_eq_true', decide_eq_true_eq] at h5
  obtain ⟨⟨⟨⟨⟨g1, g2⟩, g3⟩, g4⟩, g5⟩, g6⟩ := h5
  simp [Cond.before, Cond.holds, Cond.value, h1, h2, h3, h4, g1, g2, g3, g4, g5, g6]
def isCode : Jvm.Cond → Bool
  | .code _ _ _ _ => true
  | _ => false
theorem all_split {L : List Jvm.Cond} {P : Jvm.Cond → Bool} (h1 : L.all (fun c => isCode c || P c) = true) (h2 : ∀ c ∈ L.filter isCode, P c = true) : L.all P = true := by
  refine List.all_eq_true.mpr fun c hc => ?_
  have h := List.all_eq_true.mp h1 c hc
  rcases Bool.eq_false_or_eq_true (isCode c) with hi | hi
  · exact h2 c (List.mem_filter.mpr ⟨hc, hi⟩)
  · simpa [hi] using h
set_option maxRecDepth 65536 in
theorem w_c0 : (Jvm.Cond.code x code maxLocals ret).before args0 about1 = true := code_word (m := ⟨1, 1⟩) (meth := k1m1) (c := k1c1) (by decide +kernel) rfl rfl rfl (by decide +kernel)
set_option maxRecDepth 65536 in
theorem w_c1 : (Jvm.Cond.code ({ cls := "com/example/packwire/packwire/wire/Frame$Op", name := "of", desc := "(ZZ)Lcom/example/packwire/packwire/wire/Frame$Op;" } : Jvm.MethodName) prog_116_method_4_code (3 : Nat) (Option.some (Jvm.ClassFile.FieldType.object "com/example/packwire/packwire/wire/Frame$Op"))).before args0 about1 = true := code_word (m := ⟨6, 0⟩) (meth := k6m0) (c := k6c0) (by decide +kernel) rfl rfl rfl (by decide +kernel)
set_option maxRecDepth 65536 in
theorem w_c2 : (Jvm.Cond.code ({ cls := "com/example/packwire/packwire/wire/Frame$Op", name := "begins", desc := "()Z" } : Jvm.MethodName) prog_116_method_5_code (1 : Nat) (Option.some Jvm.ClassFile.FieldType.boolean)).before args0 about1 = true := code_word (m := ⟨6, 1⟩) (meth := k6m1) (c := k6c1) (by decide +kernel) rfl rfl rfl (by decide +kernel)
set_option maxRecDepth 65536 in
theorem w_c3 : (Jvm.Cond.code ({ cls := "com/example/packwire/packwire/wire/Frame$Op", name := "ends", desc := "()Z" } : Jvm.MethodName) prog_116_method_6_code (1 : Nat) (Option.some Jvm.ClassFile.FieldType.boolean)).before args0 about1 = true := code_word (m := ⟨6, 2⟩) (meth := k6m2) (c := k6c2) (by decide +kernel) rfl rfl rfl (by decide +kernel)
def codes1 : List Jvm.Cond := [Jvm.Cond.code x code maxLocals ret, Jvm.Cond.code ({ cls := "com/example/packwire/packwire/wire/Frame$Op", name := "of", desc := "(ZZ)Lcom/example/packwire/packwire/wire/Frame$Op;" } : Jvm.MethodName) prog_116_method_4_code (3 : Nat) (Option.some (Jvm.ClassFile.FieldType.object "com/example/packwire/packwire/wire/Frame$Op")), Jvm.Cond.code ({ cls := "com/example/packwire/packwire/wire/Frame$Op", name := "begins", desc := "()Z" } : Jvm.MethodName) prog_116_method_5_code (1 : Nat) (Option.some Jvm.ClassFile.FieldType.boolean), Jvm.Cond.code ({ cls := "com/example/packwire/packwire/wire/Frame$Op", name := "ends", desc := "()Z" } : Jvm.MethodName) prog_116_method_6_code (1 : Nat) (Option.some Jvm.ClassFile.FieldType.boolean)]
set_option maxRecDepth 65536 in
theorem codes_eq : words1.filter isCode = codes1 := rfl
theorem w_codes : ∀ c ∈ words1.filter isCode, c.before args0 about1 = true := by
  rw [codes_eq]
  intro c hc
  simp only [codes1, List.mem_cons, List.not_mem_nil, or_false] at hc
  rcases hc with rfl | rfl | rfl | rfl
  · exact w_c0
  · exact w_c1
  · exact w_c2
  · exact w_c3
set_option maxRecDepth 65536 in
theorem w_t1 : words1.all (fun c => isCode c || c.before args0 about1) = true := by decide +kernel
theorem w_tables : (allAtoms (Jvm.Cond.code x code maxLocals ret :: tables_1)).before args0 about1 = true := by
  rw [allAtoms_all]
  show words1.all (fun c => c.before args0 about1) = true
  refine all_split ?_ w_codes
  rw [w_t1]
set_option maxRecDepth 65536 in
theorem w_case : (Jvm.Cond.and given_1 narrow_1).before args0 about1 = true := by decide +kernel
theorem w_applies : (headSpec (Jvm.Cond.code x code maxLocals ret :: tables_1) room_1).applies x e0.platform about1 = true :=
  (Spec.applies_iff w_frames).mpr ⟨w_running, w_runnable, w_alone, w_named, w_hears, w_ripe, w_room, w_tables⟩
theorem atStart : AtStart classFile x code maxLocals ret World_1 tables_1 room_1 Calls_1 rest_1 Pre_1 launch0 p0 e0 about1 theMethod args0 below0 :=
  ⟨lists_1, trivial, launch0.admits_env _ _ _, launch0.least_env, fairChoices_fair.cas, fairChoices_fair.clock, w_frames, w_args, w_heap, w_applies, trivial, trivial, w_case⟩
end start1
theorem witness_1 : WitnessClaimed_1 := ⟨start1.p0, start1.e0, start1.about1, start1.theMethod, start1.args0, start1.below0, start1.atStart⟩
end Jvm.Pilot.@@N@@
