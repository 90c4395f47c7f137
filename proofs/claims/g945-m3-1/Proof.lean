import JvmDerived
import JvmDerived.Pilot.@@N@@Statement
import JvmDerived.Pilot.@@N@@Code
set_option linter.unusedVariables false
set_option linter.unusedSimpArgs false
namespace Jvm.RoadKit
open Sem ClassFile Op Lib Jvm.Stand Jvm.Free Jvm.LawKit
section New
variable {p : Program} {l : Launch} {e : Env} {R : Room} {s : State} {m : MethodId} {args : Array Value} {below : List Frame} {meth : Method} {c : Code} {T : State} {locs : List Loc} {cells slots : Nat}
theorem retI (X : Stand p l e R s m args below meth c T locs cells slots) (hx : p.tables.exec = Jvm.exec) {pc : Nat} {Ls : Array Slot} {z : Int32} {rest : List Value} (hret : meth.sig.returnType = some .int) (hd : decode c.code pc = .ok (.ireturn, 1)) {fs : List Frame}
    (hl : ∀ (f : JFrame) (acts : List Action), f.method = m → f.locked = none → f.entered = [] → (doReturn e (T.setTop f) acts (some (.int z))).1 = T.setFrames fs) : Steps p.tables e below (T.setTop (mkF m pc Ls (.int z :: rest))) (T.setFrames fs) := by
  have hm' : T.vm.method? m = some meth := X.method'
  have hn : narrow .int (.int z) = .int z := rfl
  show Steps p.tables e below (T.setTop { method := m, pc := pc, locals := Ls, stack := _ :: rest, locked := none }) _
  jvm_step X.here [X.here.top, hx, hd, hm', hret, hn]
  first | (intro acts; rw [hl _ acts rfl rfl rfl]) | rw [hl _ _ rfl rfl rfl]
  exact Steps.refl _
end New
end Jvm.RoadKit
namespace Jvm.Pilot.@@N@@
open Jvm Jvm.ClassFile Sem Op Lib Jvm.Free Jvm.Stand Jvm.LawKit Jvm.RoadKit Bundle Jvm.Pilot.@@N@@.Jvm.D
/-- what a walk that stands at A still owes -/
def own_G (p : Program) (e : Env) (below : List Frame) (s : State) (Q : Option Value → Heap → List Loc → Prop) (rc rs : Nat) (A : State) : Prop :=
  ∃ s₂ o, Steps p.tables e below A s₂ ∧ s₂.status = .running ∧ Ended s₂ below o ∧ ∃ v L, o = .returned v ∧ Q v s₂.heap L ∧ FrameEnd s o s₂ L rc rs
theorem own_go {p : Program} {e : Env} {below : List Frame} {s : State} {Q : Option Value → Heap → List Loc → Prop} {rc rs : Nat} {A B : State} (st : ∀ t, Steps p.tables e below B t → Steps p.tables e below A t) (k : own_G p e below s Q rc rs B) : own_G p e below s Q rc rs A := by
  obtain ⟨s₂, o, h, r⟩ := k
  exact ⟨s₂, o, st _ h, r⟩
theorem own_leave {p : Program} {l : Launch} {e : Env} {R : Room} {s : State} {m : MethodId} {args : Array Value} {below : List Frame} {meth : Method} {c : Code} {T : State} {locs : List Loc} {cells slots : Nat} {Q : Option Value → Heap → List Loc → Prop} {rc rs : Nat} {g : JFrame} (X : Stand p l e R s m args below meth c T locs cells slots) (v : Option Value) (hv : meth.sig.returnType = none → v = none) (hlk : meth.locks = false)
    (st : ∀ fs, (∀ (f : JFrame) (acts : List Action), f.method = m → f.locked = none → f.entered = [] → (doReturn e (T.setTop f) acts v).1 = T.setFrames fs) → Steps p.tables e below (T.setTop g) (T.setFrames fs)) (hQ : Q v T.heap locs) (hc : cells ≤ rc) (hs : slots ≤ rs) : own_G p e below s Q rc rs (T.setTop g) := by
  obtain ⟨fs, hr, hrun, hended, hW, hsame⟩ := X.leave (v := v) hv hlk
  exact ⟨_, _, st fs hr, hrun, hended, _, _, rfl, hQ, ⟨_, rfl⟩, hW, hsame.mono hc hs⟩
section OwnArrays
variable {p : Program} {l : Launch} {e : Env} {R : Room} {s : State} {m : MethodId} {args : Array Value} {below : List Frame} {meth : Method} {c : Code} {T : State} {locs : List Loc} {cells slots : Nat} {Z : State} {h : Heap} {a : Addr} {kc : ClassId} {z j x : Int32} {vs vs' : List Value} {dv v : Value} {g : JFrame} {rest : List Value} {ty : FieldType}
theorem own_len (X : Stand p l e R s m args below meth c T locs cells slots) (hx : p.tables.exec = Jvm.exec) (hZ : Z.Warmed39 s.vm) (eT : T.heap = h) (F : Arv Z h a kc ty z vs dv) (hg : g.method = m) (hs : g.stack = .ref a :: rest) (hd : decode c.code g.pc = .ok (.arraylength, 1)) :
    ∀ target, Steps p.tables e below (T.setTop { g with pc := g.pc + 1, stack := .int z :: rest }) target → Steps p.tables e below (T.setTop g) target := by
  obtain ⟨cl, A, r1, S, q3, H, G⟩ := F
  intro t k
  refine X.arraylength hx (by rw [eT]; exact A.1) (State.isArrayOf_alike hZ.alike A.2.1) hg hs hd t ?_
  rw [len_of S q3]
  exact k
theorem own_ldB (X : Stand p l e R s m args below meth c T locs cells slots) (hx : p.tables.exec = Jvm.exec) (hZ : Z.Warmed39 s.vm) (eT : T.heap = h) (F : Arv Z h a kc .byte z vs dv) (q : ¬ j < 0 ∧ j < z) (u : vs.getD j.toNatClampNeg dv = v) (hg : g.method = m) (hs : g.stack = .int j :: .ref a :: rest) (hd : decode c.code g.pc = .ok (.baload, 1)) :
    ∀ target, Steps p.tables e below (T.setTop { g with pc := g.pc + 1, stack := v :: rest }) target → Steps p.tables e below (T.setTop g) target := by
  obtain ⟨cl, A, r1, S, q3, H, G⟩ := F
  exact fun t k => X.baloadBytes hx (j := j) (v := v) (by rw [eT]; exact A.1) (State.isArrayOf_alike hZ.alike A.2.1) A.2.2 (inb_of S q) (H.at (inb_of S q) u) hg hs hd t k
theorem own_ldC (X : Stand p l e R s m args below meth c T locs cells slots) (hx : p.tables.exec = Jvm.exec) (hZ : Z.Warmed39 s.vm) (eT : T.heap = h) (F : Arv Z h a kc .char z vs dv) (q : ¬ j < 0 ∧ j < z) (u : vs.getD j.toNatClampNeg dv = v) (hg : g.method = m) (hs : g.stack = .int j :: .ref a :: rest) (hd : decode c.code g.pc = .ok (.caload, 1)) :
    ∀ target, Steps p.tables e below (T.setTop { g with pc := g.pc + 1, stack := v :: rest }) target → Steps p.tables e below (T.setTop g) target := by
  obtain ⟨cl, A, r1, S, q3, H, G⟩ := F
  exact fun t k => X.caload hx (j := j) (v := v) (by rw [eT]; exact A.1) (State.isArrayOf_alike hZ.alike A.2.1) A.2.2 (inb_of S q) (H.at (inb_of S q) u) hg hs hd t k
theorem own_stB (X : Stand p l e R s m args below meth c T locs cells slots) (hx : p.tables.exec = Jvm.exec) (hZ : Z.Warmed39 s.vm) (eT : T.heap = h) (F : Arv Z h a kc .byte z vs dv) (q : ¬ j < 0 ∧ j < z) (i : Nat) (hj : j.toNatClampNeg = i) (hi : i < vs.length) (u : vs.set i (.int (nar .byte x)) = vs') (hg : g.method = m) (hs : g.stack = .int x :: .int j :: .ref a :: rest) (hd : decode c.code g.pc = .ok (.bastore, 1)) :
    ∃ T' h', Stand p l e R s m args below meth c T' (locs ++ [⟨a, j.toNatClampNeg⟩]) cells slots ∧ T'.heap = h' ∧ Wr h h' a j.toNatClampNeg (.int (nar .byte x)) ∧ Arv Z h' a kc .byte z vs' dv ∧ ∀ target, Steps p.tables e below (T'.setTop { g with pc := g.pc + 1, stack := rest }) target → Steps p.tables e below (T.setTop g) target := by
  obtain ⟨cl, A, r1, S, q3, H, G⟩ := F
  obtain ⟨T', h', X', e', W, st⟩ := stB X hx hZ eT A (inb_of S q) hg hs hd
  exact ⟨T', h', X', e', W, u ▸ Arv.set A r1 S q3 H G (fits_nar_byte x) W i hj hi, st⟩
theorem own_stC (X : Stand p l e R s m args below meth c T locs cells slots) (hx : p.tables.exec = Jvm.exec) (hZ : Z.Warmed39 s.vm) (eT : T.heap = h) (F : Arv Z h a kc .char z vs dv) (q : ¬ j < 0 ∧ j < z) (i : Nat) (hj : j.toNatClampNeg = i) (hi : i < vs.length) (u : vs.set i (.int (nar .char x)) = vs') (hg : g.method = m) (hs : g.stack = .int x :: .int j :: .ref a :: rest) (hd : decode c.code g.pc = .ok (.castore, 1)) :
    ∃ T' h', Stand p l e R s m args below meth c T' (locs ++ [⟨a, j.toNatClampNeg⟩]) cells slots ∧ T'.heap = h' ∧ Wr h h' a j.toNatClampNeg (.int (nar .char x)) ∧ Arv Z h' a kc .char z vs' dv ∧ ∀ target, Steps p.tables e below (T'.setTop { g with pc := g.pc + 1, stack := rest }) target → Steps p.tables e below (T.setTop g) target := by
  obtain ⟨cl, A, r1, S, q3, H, G⟩ := F
  obtain ⟨T', h', X', e', W, st⟩ := stC X hx hZ eT A (inb_of S q) hg hs hd
  exact ⟨T', h', X', e', W, u ▸ Arv.set A r1 S q3 H G (fits_nar_char x) W i hj hi, st⟩
end OwnArrays
theorem own_nar (x : Int32) : nar .byte (x.toInt8.toInt32) = x.toInt8.toInt32 := by
  show (x.toInt8.toInt32).toInt8.toInt32 = _
  rw [Int8.toInt8_toInt32]
theorem own_len5 (x : Int32) : ((x &&& (2147483647 : Int32)) % (5 : Int32)) = 0 ∨ ((x &&& (2147483647 : Int32)) % (5 : Int32)) = 1 ∨ ((x &&& (2147483647 : Int32)) % (5 : Int32)) = 2 ∨ ((x &&& (2147483647 : Int32)) % (5 : Int32)) = 3 ∨ ((x &&& (2147483647 : Int32)) % (5 : Int32)) = 4 := by
  have e1 : (2147483647 : Int32).toBitVec.toNat = 2147483647 := by decide
  have h1 : (x &&& (2147483647 : Int32)).toBitVec.toNat ≤ 2147483647 := by
    rw [Int32.toBitVec_and, BitVec.toNat_and, e1]; exact Nat.and_le_right
  have h2 : 0 ≤ (x &&& (2147483647 : Int32)).toInt := by
    show 0 ≤ (x &&& (2147483647 : Int32)).toBitVec.toInt
    rw [BitVec.toInt_eq_toNat_cond]; split <;> omega
  have e5 : (5 : Int32).toInt = 5 := by decide
  have h3 : ((x &&& (2147483647 : Int32)) % (5 : Int32)).toInt = (x &&& (2147483647 : Int32)).toInt % 5 := by
    rw [Int32.toInt_mod, e5, Int.tmod_eq_emod_of_nonneg h2]
  have m1 := Int.emod_nonneg (x &&& (2147483647 : Int32)).toInt (b := 5) (by decide)
  have m2 := Int.emod_lt_of_pos (x &&& (2147483647 : Int32)).toInt (b := 5) (by decide)
  simp only [← Int32.toInt_inj]
  rw [h3, show (0 : Int32).toInt = 0 from by decide, show (1 : Int32).toInt = 1 from by decide, show (2 : Int32).toInt = 2 from by decide, show (3 : Int32).toInt = 3 from by decide, show (4 : Int32).toInt = 4 from by decide]
  omega
theorem own_nar_c (c : Int32) : nar .char (c &&& (255 : Int32)) = (c &&& (255 : Int32)) := i2c_mask c
theorem own_nar_cc (c : Int32) : nar .char ((c &&& (255 : Int32)).toUInt32.toUInt16.toUInt32.toInt32) = (c &&& (255 : Int32)) := by rw [i2c_mask]; exact i2c_mask c
/-- what unsignedOf answers -/
def own_uns (b : Int32) : Int32 := if b < 0 then b + 256 else b
theorem own_uns8 : ∀ v : Fin 256, ((Int8.ofNat v.val).toInt32 &&& (255 : Int32)) = own_uns (Int8.ofNat v.val).toInt32 := by decide +kernel
theorem own_uns_eq {b : Int32} (hb : nar .byte b = b) : (b &&& (255 : Int32)) = own_uns b := by
  have e : b = b.toInt8.toInt32 := hb.symm
  have q : b.toInt8 = Int8.ofNat (b.toInt8.toBitVec.toNat) := by
    apply Int8.toBitVec_inj.mp
    rw [Int8.toBitVec_ofNat']
    apply BitVec.eq_of_toNat_eq
    rw [BitVec.toNat_ofNat, Nat.mod_eq_of_lt b.toInt8.toBitVec.isLt]
  rw [e, q]
  exact own_uns8 ⟨b.toInt8.toBitVec.toNat, b.toInt8.toBitVec.isLt⟩
theorem d1_0 : decode prog_15_method_2_code 0 = .ok (.aload_n 0, 1) := by decide +kernel
theorem d1_1 : decode prog_15_method_2_code 1 = .ok (.arraylength, 1) := by decide +kernel
theorem d1_2 : decode prog_15_method_2_code 2 = .ok (.newarray .char, 2) := by decide +kernel
theorem d1_4 : decode prog_15_method_2_code 4 = .ok (.astore_n 1, 1) := by decide +kernel
theorem d1_5 : decode prog_15_method_2_code 5 = .ok (.iconst 0, 1) := by decide +kernel
theorem d1_6 : decode prog_15_method_2_code 6 = .ok (.istore_n 2, 1) := by decide +kernel
theorem d1_7 : decode prog_15_method_2_code 7 = .ok (.iload_n 2, 1) := by decide +kernel
theorem d1_8 : decode prog_15_method_2_code 8 = .ok (.aload_n 1, 1) := by decide +kernel
theorem d1_9 : decode prog_15_method_2_code 9 = .ok (.arraylength, 1) := by decide +kernel
theorem d1_10 : decode prog_15_method_2_code 10 = .ok (.if_icmp .ge 18, 3) := by decide +kernel
theorem d1_13 : decode prog_15_method_2_code 13 = .ok (.aload_n 1, 1) := by decide +kernel
theorem d1_14 : decode prog_15_method_2_code 14 = .ok (.iload_n 2, 1) := by decide +kernel
theorem d1_15 : decode prog_15_method_2_code 15 = .ok (.aload_n 0, 1) := by decide +kernel
theorem d1_16 : decode prog_15_method_2_code 16 = .ok (.iload_n 2, 1) := by decide +kernel
theorem d1_17 : decode prog_15_method_2_code 17 = .ok (.baload, 1) := by decide +kernel
theorem d1_18 : decode prog_15_method_2_code 18 = .ok (.invokestatic 17, 3) := by decide +kernel
theorem d1_21 : decode prog_15_method_2_code 21 = .ok (.castore, 1) := by decide +kernel
theorem d1_22 : decode prog_15_method_2_code 22 = .ok (.iinc 2 1, 3) := by decide +kernel
theorem d1_25 : decode prog_15_method_2_code 25 = .ok (.goto (-18), 3) := by decide +kernel
theorem d1_28 : decode prog_15_method_2_code 28 = .ok (.aload_n 1, 1) := by decide +kernel
theorem d1_29 : decode prog_15_method_2_code 29 = .ok (.areturn, 1) := by decide +kernel
theorem d2_0 : decode prog_15_method_3_code 0 = .ok (.iload_n 0, 1) := by decide +kernel
theorem d2_1 : decode prog_15_method_3_code 1 = .ok (.sipush 255, 3) := by decide +kernel
theorem d2_4 : decode prog_15_method_3_code 4 = .ok (.iand, 1) := by decide +kernel
theorem d2_5 : decode prog_15_method_3_code 5 = .ok (.i2c, 1) := by decide +kernel
theorem d2_6 : decode prog_15_method_3_code 6 = .ok (.ireturn, 1) := by decide +kernel
theorem d3_0 : decode method_2_code 0 = .ok (.iload_n 0, 1) := by decide +kernel
theorem d3_1 : decode method_2_code 1 = .ok (.istore_n 1, 1) := by decide +kernel
theorem d3_2 : decode method_2_code 2 = .ok (.iload_n 1, 1) := by decide +kernel
theorem d3_3 : decode method_2_code 3 = .ok (.ifCond .ge 9, 3) := by decide +kernel
theorem d3_6 : decode method_2_code 6 = .ok (.iload_n 1, 1) := by decide +kernel
theorem d3_7 : decode method_2_code 7 = .ok (.sipush 256, 3) := by decide +kernel
theorem d3_10 : decode method_2_code 10 = .ok (.iadd, 1) := by decide +kernel
theorem d3_11 : decode method_2_code 11 = .ok (.ireturn, 1) := by decide +kernel
theorem d3_12 : decode method_2_code 12 = .ok (.iload_n 1, 1) := by decide +kernel
theorem d3_13 : decode method_2_code 13 = .ok (.ireturn, 1) := by decide +kernel
def own_Qi (z : Int32) (h0 : Heap) (v : Option Value) (h : Heap) (L : List Loc) : Prop := v = some (.int z) ∧ L = [] ∧ h = h0
theorem pn2 : plainName "com/example/pure_match/purematch/search/CodeCursor" = true := by first | (simp [plainName, overriddenIn]; done) | decide +kernel
theorem pd2 : parseMethodDescriptor "(B)C" = some ⟨[.byte], some .char⟩ := by decide +kernel
theorem ef2 (m : MethodId) (x0 : Int32) : entryFrame m #[(.int x0)] 1 = mkF m 0 #[.val (.int x0)] [] := by first | (simp [entryFrame, mkF, argsToLocals, Value.category]; done) | rfl
set_option maxRecDepth 65536 in
set_option maxHeartbeats 40000000 in
theorem rm2 (l : Launch) (Z : State) (a0 : Array Value) (hw : ∀ d ∈ tables_1, d.before a0 Z = true) (ws : List Jvm.Cond) (b1 : Int32) (h0 : Heap) :
    MetFree l (⟨"com/example/pure_match/purematch/search/CodeCursor", "codeOf", "(B)C"⟩ : MethodName) (head1 (Jvm.Cond.code (⟨"com/example/pure_match/purematch/search/CodeCursor", "codeOf", "(B)C"⟩ : MethodName) prog_15_method_3_code 1 (some .char) :: ws) ({ frames := 0, cells := 0, slots := 0, locals := 0 } : Room)) (fun a U => a = #[(.int b1)] ∧ Z.Warmed39 U.vm ∧ U.heap = h0) (fun _ _ _ _ _ => True) (fun _ U o U' => ∃ v L, o = .returned v ∧ own_Qi (b1 &&& (255 : Int32)) h0 v U'.heap L ∧ FrameEnd U o U' L ({ frames := 0, cells := 0, slots := 0, locals := 0 } : Room).cells ({ frames := 0, cells := 0, slots := 0, locals := 0 } : Room).slots) := by
  refine MetFree.of_bodySF (plainFor_of_name pn2) hisR ?_
  intro p e s m args below meth c s₁ Bd hml0 hP hK
  obtain ⟨rfl, hZ, hh⟩ := hP
  have hx := Bd.exec
  have hby := Bd.bytes
  have hml : c.maxLocals = 1 := hml0
  have hown : s.vm.findClass "com/example/pure_match/purematch/search/CodeCursor" = some m.cls := findClass_of_methodNamed Bd.named
  have hnm := (name_of_methodNamed Bd.named Bd.method).1
  have X0 : Stand p l e ({ frames := 0, cells := 0, slots := 0, locals := 0 } : Room) s m #[(.int b1)] below meth c s₁ [] 0 0 := Stand.of_body Bd
  have e0 : s₁.heap = h0 := by rw [← hh, Bd.state]; rfl
  refine (show own_G p e below s (own_Qi (b1 &&& (255 : Int32)) h0) 0 0 (s₁.setTop (entryFrame m #[(.int b1)] 1)) → _ from fun k => k) ?_
  refine own_go (fun t k => castTop (ef2 m b1) k) ?_
  show own_G p e below s (own_Qi (b1 &&& (255 : Int32)) h0) 0 0 (s₁.setTop (mkF m 0 #[.val (.int b1)] []))
  refine own_go (fun t k => XS.iloadN X0.here hx rfl (hb hby d2_0) rfl k) ?_
  show own_G p e below s (own_Qi (b1 &&& (255 : Int32)) h0) 0 0 (s₁.setTop (mkF m 1 #[.val (.int b1)] [(.int b1)]))
  refine own_go (fun t k => XS.sipush X0.here hx rfl (hb hby d2_1) k) ?_
  show own_G p e below s (own_Qi (b1 &&& (255 : Int32)) h0) 0 0 (s₁.setTop (mkF m 4 #[.val (.int b1)] [(.int (255 : Int32)), (.int b1)]))
  refine own_go (fun t k => XS.iand X0.here hx rfl (hb hby d2_4) rfl k) ?_
  show own_G p e below s (own_Qi (b1 &&& (255 : Int32)) h0) 0 0 (s₁.setTop (mkF m 5 #[.val (.int b1)] [(.int (b1 &&& (255 : Int32)))]))
  refine own_go (fun t k => XT.i2c X0.here hx rfl (hb hby d2_5) rfl k) ?_
  show own_G p e below s (own_Qi (b1 &&& (255 : Int32)) h0) 0 0 (s₁.setTop (mkF m 6 #[.val (.int b1)] [(.int ((b1 &&& (255 : Int32)).toUInt32.toUInt16.toUInt32.toInt32))]))
  exact own_leave X0 (some (.int (nar .char ((b1 &&& (255 : Int32)).toUInt32.toUInt16.toUInt32.toInt32)))) (fun h => by rw [Bd.returns] at h; cases h) Bd.notSynchronized (fun fs hr => retN X0 hx (t := .char) Bd.returns (by simp) (hb hby d2_6) hr) ⟨congrArg (fun z => some (Value.int z)) (own_nar_cc b1), rfl, e0⟩ (by decide) (by decide)
theorem pn3 : plainName "com/example/pure_match/purematch/search/CodeCursorCodesOfPinLaw" = true := by first | (simp [plainName, overriddenIn]; done) | decide +kernel
theorem pd3 : parseMethodDescriptor "(B)I" = some ⟨[.byte], some .int⟩ := by decide +kernel
theorem ef3 (m : MethodId) (x0 : Int32) : entryFrame m #[(.int x0)] 2 = mkF m 0 #[.val (.int x0), .unset] [] := by first | (simp [entryFrame, mkF, argsToLocals, Value.category]; done) | rfl
set_option maxRecDepth 65536 in
set_option maxHeartbeats 40000000 in
theorem rm3 (l : Launch) (Z : State) (a0 : Array Value) (hw : ∀ d ∈ tables_1, d.before a0 Z = true) (ws : List Jvm.Cond) (b1 : Int32) (h0 : Heap) :
    MetFree l (⟨"com/example/pure_match/purematch/search/CodeCursorCodesOfPinLaw", "unsignedOf", "(B)I"⟩ : MethodName) (head1 (Jvm.Cond.code (⟨"com/example/pure_match/purematch/search/CodeCursorCodesOfPinLaw", "unsignedOf", "(B)I"⟩ : MethodName) method_2_code 2 (some .int) :: ws) ({ frames := 0, cells := 0, slots := 0, locals := 0 } : Room)) (fun a U => a = #[(.int b1)] ∧ Z.Warmed39 U.vm ∧ U.heap = h0) (fun _ _ _ _ _ => True) (fun _ U o U' => ∃ v L, o = .returned v ∧ own_Qi (own_uns b1) h0 v U'.heap L ∧ FrameEnd U o U' L ({ frames := 0, cells := 0, slots := 0, locals := 0 } : Room).cells ({ frames := 0, cells := 0, slots := 0, locals := 0 } : Room).slots) := by
  refine MetFree.of_bodySF (plainFor_of_name pn3) hisR ?_
  intro p e s m args below meth c s₁ Bd hml0 hP hK
  obtain ⟨rfl, hZ, hh⟩ := hP
  have hx := Bd.exec
  have hby := Bd.bytes
  have hml : c.maxLocals = 2 := hml0
  have hown : s.vm.findClass "com/example/pure_match/purematch/search/CodeCursorCodesOfPinLaw" = some m.cls := findClass_of_methodNamed Bd.named
  have hnm := (name_of_methodNamed Bd.named Bd.method).1
  have X0 : Stand p l e ({ frames := 0, cells := 0, slots := 0, locals := 0 } : Room) s m #[(.int b1)] below meth c s₁ [] 0 0 := Stand.of_body Bd
  have e0 : s₁.heap = h0 := by rw [← hh, Bd.state]; rfl
  refine (show own_G p e below s (own_Qi (own_uns b1) h0) 0 0 (s₁.setTop (entryFrame m #[(.int b1)] 2)) → _ from fun k => k) ?_
  refine own_go (fun t k => castTop (ef3 m b1) k) ?_
  show own_G p e below s (own_Qi (own_uns b1) h0) 0 0 (s₁.setTop (mkF m 0 #[.val (.int b1), .unset] []))
  refine own_go (fun t k => XS.iloadN X0.here hx rfl (hb hby d3_0) rfl k) ?_
  show own_G p e below s (own_Qi (own_uns b1) h0) 0 0 (s₁.setTop (mkF m 1 #[.val (.int b1), .unset] [(.int b1)]))
  refine own_go (fun t k => XS.istoreN X0.here hx rfl (hb hby d3_1) rfl (l' := #[.val (.int b1), .val (.int b1)]) rfl k) ?_
  show own_G p e below s (own_Qi (own_uns b1) h0) 0 0 (s₁.setTop (mkF m 2 #[.val (.int b1), .val (.int b1)] []))
  refine own_go (fun t k => XS.iloadN X0.here hx rfl (hb hby d3_2) rfl k) ?_
  show own_G p e below s (own_Qi (own_uns b1) h0) 0 0 (s₁.setTop (mkF m 3 #[.val (.int b1), .val (.int b1)] [(.int b1)]))
  by_cases h1 : b1 < (0 : Int32)
  · skip
    refine own_go (fun t k => XS.ifNo X0.here hx rfl (hb hby d3_3) rfl (XT.i0_ge_f h1) k) ?_
    show own_G p e below s (own_Qi (own_uns b1) h0) 0 0 (s₁.setTop (mkF m 6 #[.val (.int b1), .val (.int b1)] []))
    refine own_go (fun t k => XS.iloadN X0.here hx rfl (hb hby d3_6) rfl k) ?_
    show own_G p e below s (own_Qi (own_uns b1) h0) 0 0 (s₁.setTop (mkF m 7 #[.val (.int b1), .val (.int b1)] [(.int b1)]))
    refine own_go (fun t k => XS.sipush X0.here hx rfl (hb hby d3_7) k) ?_
    show own_G p e below s (own_Qi (own_uns b1) h0) 0 0 (s₁.setTop (mkF m 10 #[.val (.int b1), .val (.int b1)] [(.int (256 : Int32)), (.int b1)]))
    refine own_go (fun t k => XS.iadd X0.here hx rfl (hb hby d3_10) rfl k) ?_
    show own_G p e below s (own_Qi (own_uns b1) h0) 0 0 (s₁.setTop (mkF m 11 #[.val (.int b1), .val (.int b1)] [(.int (b1 + (256 : Int32)))]))
    exact own_leave X0 (some (.int (b1 + (256 : Int32)))) (fun h => by rw [Bd.returns] at h; cases h) Bd.notSynchronized (fun fs hr => retI X0 hx Bd.returns (hb hby d3_11) hr) ⟨congrArg (fun z => some (Value.int z)) (if_pos h1).symm, rfl, e0⟩ (by decide) (by decide)
  · skip
    refine own_go (fun t k => XS.ifYes X0.here hx rfl (pc0 := 3) (pc' := 12) rfl (hb hby d3_3) rfl (XT.i0_ge_t h1) (by decide) (by decide) k) ?_
    show own_G p e below s (own_Qi (own_uns b1) h0) 0 0 (s₁.setTop (mkF m 12 #[.val (.int b1), .val (.int b1)] []))
    refine own_go (fun t k => XS.iloadN X0.here hx rfl (hb hby d3_12) rfl k) ?_
    show own_G p e below s (own_Qi (own_uns b1) h0) 0 0 (s₁.setTop (mkF m 13 #[.val (.int b1), .val (.int b1)] [(.int b1)]))
    exact own_leave X0 (some (.int b1)) (fun h => by rw [Bd.returns] at h; cases h) Bd.notSynchronized (fun fs hr => retI X0 hx Bd.returns (hb hby d3_13) hr) ⟨congrArg (fun z => some (Value.int z)) (if_neg h1).symm, rfl, e0⟩ (by decide) (by decide)
def own_Q1 (Z : State) (z : Int32) (vs : List Value) (n0 : Nat) (v : Option Value) (h : Heap) (L : List Loc) : Prop := ∃ a2 kc2, v = some (.ref a2) ∧ Fr n0 L ∧ Arv Z h a2 kc2 .char z vs (.int 0)
theorem pd1 : parseMethodDescriptor "([B)[C" = some ⟨[.array .byte], some (.array .char)⟩ := by decide +kernel
theorem ef1 (m : MethodId) (x0 : Addr) : entryFrame m #[(.ref x0)] 3 = mkF m 0 #[.val (.ref x0), .unset, .unset] [] := by first | (simp [entryFrame, mkF, argsToLocals, Value.category]; done) | rfl
set_option maxRecDepth 65536 in
set_option maxHeartbeats 40000000 in
theorem rm1_0 (l : Launch) (Z : State) (a0 : Array Value) (hw : ∀ d ∈ tables_1, d.before a0 Z = true) (ws : List Jvm.Cond) (a1 : Addr) (kc : ClassId)  (h0 : Heap) (n0 : Nat) (Z0 : n0 ≤ h0.size) (F : Arv Z h0 a1 kc .byte (0 : Int32) [] (.int 0)) :
    MetFree l (⟨"com/example/pure_match/purematch/search/CodeCursor", "codesOf", "([B)[C"⟩ : MethodName) (head1 (Jvm.Cond.code (⟨"com/example/pure_match/purematch/search/CodeCursor", "codesOf", "([B)[C"⟩ : MethodName) prog_15_method_2_code 3 (some (.array .char)) :: ws) ({ frames := 1, cells := 1, slots := 0, locals := 14 } : Room)) (fun a U => a = #[(.ref a1)] ∧ Z.Warmed39 U.vm ∧ U.heap = h0) (fun _ _ _ _ _ => True) (fun _ U o U' => ∃ v L, o = .returned v ∧ own_Q1 Z (0 : Int32) [] n0 v U'.heap L ∧ FrameEnd U o U' L ({ frames := 1, cells := 1, slots := 0, locals := 14 } : Room).cells ({ frames := 1, cells := 1, slots := 0, locals := 14 } : Room).slots) := by
  refine MetFree.of_bodySF (plainFor_of_name pn2) hisR ?_
  intro p e s m args below meth c s₁ Bd hml0 hP hK
  obtain ⟨rfl, hZ, hh⟩ := hP
  have hx := Bd.exec
  have hby := Bd.bytes
  have hml : c.maxLocals = 3 := hml0
  have hown : s.vm.findClass "com/example/pure_match/purematch/search/CodeCursor" = some m.cls := findClass_of_methodNamed Bd.named
  have hnm := (name_of_methodNamed Bd.named Bd.method).1
  have X0 : Stand p l e ({ frames := 1, cells := 1, slots := 0, locals := 14 } : Room) s m #[(.ref a1)] below meth c s₁ [] 0 0 := Stand.of_body Bd
  have e0 : s₁.heap = h0 := by rw [← hh, Bd.state]; rfl
  refine (show own_G p e below s (own_Q1 Z (0 : Int32) [] n0) 1 0 (s₁.setTop (entryFrame m #[(.ref a1)] 3)) → _ from fun k => k) ?_
  refine own_go (fun t k => castTop (ef1 m a1) k) ?_
  show own_G p e below s (own_Q1 Z (0 : Int32) [] n0) 1 0 (s₁.setTop (mkF m 0 #[.val (.ref a1), .unset, .unset] []))
  refine own_go (fun t k => XS.aloadN X0.here hx rfl (hb hby d1_0) rfl rfl k) ?_
  show own_G p e below s (own_Q1 Z (0 : Int32) [] n0) 1 0 (s₁.setTop (mkF m 1 #[.val (.ref a1), .unset, .unset] [(.ref a1)]))
  refine own_go (own_len X0 hx hZ e0 F (g := (mkF m 1 #[.val (.ref a1), .unset, .unset] [(.ref a1)])) rfl rfl (hb hby d1_1)) ?_
  show own_G p e below s (own_Q1 Z (0 : Int32) [] n0) 1 0 (s₁.setTop (mkF m 2 #[.val (.ref a1), .unset, .unset] [(.int (0 : Int32))]))
  obtain ⟨T101, h101, cA101, X101, e101, E101, A101, st101⟩ := newP X0 hx hZ (hw _ (List.mem_of_getElem? (i := 6) rfl)) e0 (g := (mkF m 2 #[.val (.ref a1), .unset, .unset] [(.int (0 : Int32))])) rfl (hb hby d1_2) rfl (by decide) (cap := 0) (by decide) (by decide) (by decide) (by decide)
  obtain ⟨a2, g101⟩ : ∃ z, z = h0.size := ⟨_, rfl⟩
  rw [← g101] at A101 st101
  have V101 : Arv Z h101 a2 cA101 .char (0 : Int32) [] (.int 0) := (Arv.new A101 (by decide)).pad (pad_rep [] (.int 0) 0)
  refine own_go st101 ?_
  show own_G p e below s (own_Q1 Z (0 : Int32) [] n0) 1 0 (T101.setTop (mkF m 4 #[.val (.ref a1), .unset, .unset] [(.ref a2)]))
  have g2 : n0 ≤ a2 := Nat.le_trans Z0 (Nat.le_of_eq g101.symm)
  have F1 := F.ext E101
  have ne12 : a1 ≠ a2 := Nat.ne_of_lt (Nat.lt_of_lt_of_le F.lt (Nat.le_of_eq g101.symm))
  refine own_go (fun t k => XS.astoreN X101.here hx rfl (hb hby d1_4) rfl rfl (l' := #[.val (.ref a1), .val (.ref a2), .unset]) rfl k) ?_
  show own_G p e below s (own_Q1 Z (0 : Int32) [] n0) 1 0 (T101.setTop (mkF m 5 #[.val (.ref a1), .val (.ref a2), .unset] []))
  refine own_go (fun t k => XS.iconst X101.here hx rfl (hb hby d1_5) k) ?_
  show own_G p e below s (own_Q1 Z (0 : Int32) [] n0) 1 0 (T101.setTop (mkF m 6 #[.val (.ref a1), .val (.ref a2), .unset] [(.int (0 : Int32))]))
  refine own_go (fun t k => XS.istoreN X101.here hx rfl (hb hby d1_6) rfl (l' := #[.val (.ref a1), .val (.ref a2), .val (.int (0 : Int32))]) rfl k) ?_
  show own_G p e below s (own_Q1 Z (0 : Int32) [] n0) 1 0 (T101.setTop (mkF m 7 #[.val (.ref a1), .val (.ref a2), .val (.int (0 : Int32))] []))
  refine own_go (fun t k => XS.iloadN X101.here hx rfl (hb hby d1_7) rfl k) ?_
  show own_G p e below s (own_Q1 Z (0 : Int32) [] n0) 1 0 (T101.setTop (mkF m 8 #[.val (.ref a1), .val (.ref a2), .val (.int (0 : Int32))] [(.int (0 : Int32))]))
  refine own_go (fun t k => XS.aloadN X101.here hx rfl (hb hby d1_8) rfl rfl k) ?_
  show own_G p e below s (own_Q1 Z (0 : Int32) [] n0) 1 0 (T101.setTop (mkF m 9 #[.val (.ref a1), .val (.ref a2), .val (.int (0 : Int32))] [(.ref a2), (.int (0 : Int32))]))
  refine own_go (own_len X101 hx hZ e101 V101 (g := (mkF m 9 #[.val (.ref a1), .val (.ref a2), .val (.int (0 : Int32))] [(.ref a2), (.int (0 : Int32))])) rfl rfl (hb hby d1_9)) ?_
  show own_G p e below s (own_Q1 Z (0 : Int32) [] n0) 1 0 (T101.setTop (mkF m 10 #[.val (.ref a1), .val (.ref a2), .val (.int (0 : Int32))] [(.int (0 : Int32)), (.int (0 : Int32))]))
  refine own_go (fun t k => XS.icmpYes X101.here hx rfl (pc0 := 10) (pc' := 28) rfl (hb hby d1_10) rfl (XT.ii_ge_t (by decide)) (by decide) (by decide) k) ?_
  show own_G p e below s (own_Q1 Z (0 : Int32) [] n0) 1 0 (T101.setTop (mkF m 28 #[.val (.ref a1), .val (.ref a2), .val (.int (0 : Int32))] []))
  refine own_go (fun t k => XS.aloadN X101.here hx rfl (hb hby d1_28) rfl rfl k) ?_
  show own_G p e below s (own_Q1 Z (0 : Int32) [] n0) 1 0 (T101.setTop (mkF m 29 #[.val (.ref a1), .val (.ref a2), .val (.int (0 : Int32))] [(.ref a2)]))
  exact own_leave X101 (some (.ref a2)) (fun h => by rw [Bd.returns] at h; cases h) Bd.notSynchronized (fun fs hr => X101.areturnOut hx rfl Bd.returns rfl (hb hby d1_29) hr) (by rw [e101]; exact ⟨a2, cA101, rfl, (Fr.nil n0), V101⟩) (by decide) (by decide)
set_option maxRecDepth 65536 in
set_option maxHeartbeats 40000000 in
theorem rm1_1 (l : Launch) (Z : State) (a0 : Array Value) (hw : ∀ d ∈ tables_1, d.before a0 Z = true) (ws : List Jvm.Cond) (a1 : Addr) (kc : ClassId) (c0 : Int32) (h0 : Heap) (n0 : Nat) (Z0 : n0 ≤ h0.size) (F : Arv Z h0 a1 kc .byte (1 : Int32) [(.int c0)] (.int 0)) :
    MetFree l (⟨"com/example/pure_match/purematch/search/CodeCursor", "codesOf", "([B)[C"⟩ : MethodName) (head1 (Jvm.Cond.code (⟨"com/example/pure_match/purematch/search/CodeCursor", "codesOf", "([B)[C"⟩ : MethodName) prog_15_method_2_code 3 (some (.array .char)) :: ws) ({ frames := 1, cells := 1, slots := 1, locals := 14 } : Room)) (fun a U => a = #[(.ref a1)] ∧ Z.Warmed39 U.vm ∧ U.heap = h0) (fun _ _ _ _ _ => True) (fun _ U o U' => ∃ v L, o = .returned v ∧ own_Q1 Z (1 : Int32) [(.int (c0 &&& (255 : Int32)))] n0 v U'.heap L ∧ FrameEnd U o U' L ({ frames := 1, cells := 1, slots := 1, locals := 14 } : Room).cells ({ frames := 1, cells := 1, slots := 1, locals := 14 } : Room).slots) := by
  refine MetFree.of_bodySF (plainFor_of_name pn2) hisR ?_
  intro p e s m args below meth c s₁ Bd hml0 hP hK
  obtain ⟨rfl, hZ, hh⟩ := hP
  have hx := Bd.exec
  have hby := Bd.bytes
  have hml : c.maxLocals = 3 := hml0
  have hown : s.vm.findClass "com/example/pure_match/purematch/search/CodeCursor" = some m.cls := findClass_of_methodNamed Bd.named
  have hnm := (name_of_methodNamed Bd.named Bd.method).1
  have X0 : Stand p l e ({ frames := 1, cells := 1, slots := 1, locals := 14 } : Room) s m #[(.ref a1)] below meth c s₁ [] 0 0 := Stand.of_body Bd
  have e0 : s₁.heap = h0 := by rw [← hh, Bd.state]; rfl
  refine (show own_G p e below s (own_Q1 Z (1 : Int32) [(.int (c0 &&& (255 : Int32)))] n0) 1 1 (s₁.setTop (entryFrame m #[(.ref a1)] 3)) → _ from fun k => k) ?_
  refine own_go (fun t k => castTop (ef1 m a1) k) ?_
  show own_G p e below s (own_Q1 Z (1 : Int32) [(.int (c0 &&& (255 : Int32)))] n0) 1 1 (s₁.setTop (mkF m 0 #[.val (.ref a1), .unset, .unset] []))
  refine own_go (fun t k => XS.aloadN X0.here hx rfl (hb hby d1_0) rfl rfl k) ?_
  show own_G p e below s (own_Q1 Z (1 : Int32) [(.int (c0 &&& (255 : Int32)))] n0) 1 1 (s₁.setTop (mkF m 1 #[.val (.ref a1), .unset, .unset] [(.ref a1)]))
  refine own_go (own_len X0 hx hZ e0 F (g := (mkF m 1 #[.val (.ref a1), .unset, .unset] [(.ref a1)])) rfl rfl (hb hby d1_1)) ?_
  show own_G p e below s (own_Q1 Z (1 : Int32) [(.int (c0 &&& (255 : Int32)))] n0) 1 1 (s₁.setTop (mkF m 2 #[.val (.ref a1), .unset, .unset] [(.int (1 : Int32))]))
  obtain ⟨T102, h102, cA102, X102, e102, E102, A102, st102⟩ := newP X0 hx hZ (hw _ (List.mem_of_getElem? (i := 6) rfl)) e0 (g := (mkF m 2 #[.val (.ref a1), .unset, .unset] [(.int (1 : Int32))])) rfl (hb hby d1_2) rfl (by decide) (cap := 1) (by decide) (by decide) (by decide) (by decide)
  obtain ⟨a2, g102⟩ : ∃ z, z = h0.size := ⟨_, rfl⟩
  rw [← g102] at A102 st102
  have V102 : Arv Z h102 a2 cA102 .char (1 : Int32) [(.int 0)] (.int 0) := (Arv.new A102 (by decide)).pad (pad_rep [] (.int 0) 1)
  refine own_go st102 ?_
  show own_G p e below s (own_Q1 Z (1 : Int32) [(.int (c0 &&& (255 : Int32)))] n0) 1 1 (T102.setTop (mkF m 4 #[.val (.ref a1), .unset, .unset] [(.ref a2)]))
  have g2 : n0 ≤ a2 := Nat.le_trans Z0 (Nat.le_of_eq g102.symm)
  have F1 := F.ext E102
  have ne12 : a1 ≠ a2 := Nat.ne_of_lt (Nat.lt_of_lt_of_le F.lt (Nat.le_of_eq g102.symm))
  refine own_go (fun t k => XS.astoreN X102.here hx rfl (hb hby d1_4) rfl rfl (l' := #[.val (.ref a1), .val (.ref a2), .unset]) rfl k) ?_
  show own_G p e below s (own_Q1 Z (1 : Int32) [(.int (c0 &&& (255 : Int32)))] n0) 1 1 (T102.setTop (mkF m 5 #[.val (.ref a1), .val (.ref a2), .unset] []))
  refine own_go (fun t k => XS.iconst X102.here hx rfl (hb hby d1_5) k) ?_
  show own_G p e below s (own_Q1 Z (1 : Int32) [(.int (c0 &&& (255 : Int32)))] n0) 1 1 (T102.setTop (mkF m 6 #[.val (.ref a1), .val (.ref a2), .unset] [(.int (0 : Int32))]))
  refine own_go (fun t k => XS.istoreN X102.here hx rfl (hb hby d1_6) rfl (l' := #[.val (.ref a1), .val (.ref a2), .val (.int (0 : Int32))]) rfl k) ?_
  show own_G p e below s (own_Q1 Z (1 : Int32) [(.int (c0 &&& (255 : Int32)))] n0) 1 1 (T102.setTop (mkF m 7 #[.val (.ref a1), .val (.ref a2), .val (.int (0 : Int32))] []))
  refine own_go (fun t k => XS.iloadN X102.here hx rfl (hb hby d1_7) rfl k) ?_
  show own_G p e below s (own_Q1 Z (1 : Int32) [(.int (c0 &&& (255 : Int32)))] n0) 1 1 (T102.setTop (mkF m 8 #[.val (.ref a1), .val (.ref a2), .val (.int (0 : Int32))] [(.int (0 : Int32))]))
  refine own_go (fun t k => XS.aloadN X102.here hx rfl (hb hby d1_8) rfl rfl k) ?_
  show own_G p e below s (own_Q1 Z (1 : Int32) [(.int (c0 &&& (255 : Int32)))] n0) 1 1 (T102.setTop (mkF m 9 #[.val (.ref a1), .val (.ref a2), .val (.int (0 : Int32))] [(.ref a2), (.int (0 : Int32))]))
  refine own_go (own_len X102 hx hZ e102 V102 (g := (mkF m 9 #[.val (.ref a1), .val (.ref a2), .val (.int (0 : Int32))] [(.ref a2), (.int (0 : Int32))])) rfl rfl (hb hby d1_9)) ?_
  show own_G p e below s (own_Q1 Z (1 : Int32) [(.int (c0 &&& (255 : Int32)))] n0) 1 1 (T102.setTop (mkF m 10 #[.val (.ref a1), .val (.ref a2), .val (.int (0 : Int32))] [(.int (1 : Int32)), (.int (0 : Int32))]))
  refine own_go (fun t k => XS.icmpNo X102.here hx rfl (hb hby d1_10) rfl (XT.ii_ge_f (by decide)) k) ?_
  show own_G p e below s (own_Q1 Z (1 : Int32) [(.int (c0 &&& (255 : Int32)))] n0) 1 1 (T102.setTop (mkF m 13 #[.val (.ref a1), .val (.ref a2), .val (.int (0 : Int32))] []))
  refine own_go (fun t k => XS.aloadN X102.here hx rfl (hb hby d1_13) rfl rfl k) ?_
  show own_G p e below s (own_Q1 Z (1 : Int32) [(.int (c0 &&& (255 : Int32)))] n0) 1 1 (T102.setTop (mkF m 14 #[.val (.ref a1), .val (.ref a2), .val (.int (0 : Int32))] [(.ref a2)]))
  refine own_go (fun t k => XS.iloadN X102.here hx rfl (hb hby d1_14) rfl k) ?_
  show own_G p e below s (own_Q1 Z (1 : Int32) [(.int (c0 &&& (255 : Int32)))] n0) 1 1 (T102.setTop (mkF m 15 #[.val (.ref a1), .val (.ref a2), .val (.int (0 : Int32))] [(.int (0 : Int32)), (.ref a2)]))
  refine own_go (fun t k => XS.aloadN X102.here hx rfl (hb hby d1_15) rfl rfl k) ?_
  show own_G p e below s (own_Q1 Z (1 : Int32) [(.int (c0 &&& (255 : Int32)))] n0) 1 1 (T102.setTop (mkF m 16 #[.val (.ref a1), .val (.ref a2), .val (.int (0 : Int32))] [(.ref a1), (.int (0 : Int32)), (.ref a2)]))
  refine own_go (fun t k => XS.iloadN X102.here hx rfl (hb hby d1_16) rfl k) ?_
  show own_G p e below s (own_Q1 Z (1 : Int32) [(.int (c0 &&& (255 : Int32)))] n0) 1 1 (T102.setTop (mkF m 17 #[.val (.ref a1), .val (.ref a2), .val (.int (0 : Int32))] [(.int (0 : Int32)), (.ref a1), (.int (0 : Int32)), (.ref a2)]))
  refine own_go (own_ldB X102 hx hZ e102 F1 (j := (0 : Int32)) (v := (.int c0)) ⟨by decide, by decide⟩ rfl (g := (mkF m 17 #[.val (.ref a1), .val (.ref a2), .val (.int (0 : Int32))] [(.int (0 : Int32)), (.ref a1), (.int (0 : Int32)), (.ref a2)])) rfl rfl (hb hby d1_17)) ?_
  show own_G p e below s (own_Q1 Z (1 : Int32) [(.int (c0 &&& (255 : Int32)))] n0) 1 1 (T102.setTop (mkF m 18 #[.val (.ref a1), .val (.ref a2), .val (.int (0 : Int32))] [(.int c0), (.int (0 : Int32)), (.ref a2)]))
  obtain ⟨_, _, ⟨T103, L103, k103, n103⟩, -, X103, ⟨Lc103, hQ103, l103, y103, z103⟩, st103⟩ := Jvm.LawKit.callS X102 hx (y := (⟨"com/example/pure_match/purematch/search/CodeCursor", "codeOf", "(B)C"⟩ : MethodName)) hown (mvT hZ (hw _ (List.mem_of_getElem? (i := 7) rfl))) (mvT hZ (hw _ (List.mem_of_getElem? (i := 8) rfl))) (mvT hZ (hw _ (List.mem_of_getElem? (i := 4) rfl))) (mvT hZ (hw _ (List.mem_of_getElem? (i := 9) rfl))) (by decide) (backOf (W := 2) (rm2 l Z a0 hw [] c0 h102) hZ (hw _ (List.mem_of_getElem? (i := 9) rfl)) (hw _ (List.mem_of_getElem? (i := 4) rfl)) (by decide) (by decide)) (g := (mkF m 18 #[.val (.ref a1), .val (.ref a2), .val (.int (0 : Int32))] [(.int c0), (.int (0 : Int32)), (.ref a2)])) rfl (by rw [hml]; rfl) (argsL := [(.int c0)]) (rest := [(.int (0 : Int32)), (.ref a2)]) (lenOf pd2 rfl) rfl (by show 2 * 0 + _ ≤ _; exact Nat.le_of_eq rfl) (hb hby d1_18) (fun _ _ => ⟨rfl, e102, (by decide : 1 + 0 ≤ _), (by decide : 1 + 0 ≤ _)⟩)
  dsimp only [Pt.U, Pt.locs, Pt.cells, Pt.slots] at X103 l103 y103 z103 st103 hQ103
  subst l103 y103 z103
  obtain ⟨rfl, rfl, e103⟩ := hQ103
  refine own_go (st103) ?_
  show own_G p e below s (own_Q1 Z (1 : Int32) [(.int (c0 &&& (255 : Int32)))] n0) 1 1 (T103.setTop (mkF m 21 #[.val (.ref a1), .val (.ref a2), .val (.int (0 : Int32))] [(.int (c0 &&& (255 : Int32))), (.int (0 : Int32)), (.ref a2)]))
  obtain ⟨T104, h104, X104, e104, W104, V104, st104⟩ := own_stC X103 hx hZ e103 V102 (j := (0 : Int32)) ⟨by decide, by decide⟩ 0 (by decide) (by simp) (vs' := [(.int (c0 &&& (255 : Int32)))]) (by rw [own_nar_c]; rfl) (g := (mkF m 21 #[.val (.ref a1), .val (.ref a2), .val (.int (0 : Int32))] [(.int (c0 &&& (255 : Int32))), (.int (0 : Int32)), (.ref a2)])) rfl rfl (hb hby d1_21)
  have N104 := Fr.snoc X104 (Fr.app (Fr.nil n0) (Fr.nil n0)) g2
  have U104_a1 := F1.other W104 ne12
  refine own_go st104 ?_
  show own_G p e below s (own_Q1 Z (1 : Int32) [(.int (c0 &&& (255 : Int32)))] n0) 1 1 (T104.setTop (mkF m 22 #[.val (.ref a1), .val (.ref a2), .val (.int (0 : Int32))] []))
  refine own_go (fun t k => XS.iinc X104.here hx rfl (hb hby d1_22) rfl (l' := #[.val (.ref a1), .val (.ref a2), .val (.int (1 : Int32))]) rfl k) ?_
  show own_G p e below s (own_Q1 Z (1 : Int32) [(.int (c0 &&& (255 : Int32)))] n0) 1 1 (T104.setTop (mkF m 25 #[.val (.ref a1), .val (.ref a2), .val (.int (1 : Int32))] []))
  refine own_go (fun t k => XS.goto X104.here hx rfl (pc0 := 25) (pc' := 7) rfl (hb hby d1_25) (by decide) (by decide) k) ?_
  show own_G p e below s (own_Q1 Z (1 : Int32) [(.int (c0 &&& (255 : Int32)))] n0) 1 1 (T104.setTop (mkF m 7 #[.val (.ref a1), .val (.ref a2), .val (.int (1 : Int32))] []))
  refine own_go (fun t k => XS.iloadN X104.here hx rfl (hb hby d1_7) rfl k) ?_
  show own_G p e below s (own_Q1 Z (1 : Int32) [(.int (c0 &&& (255 : Int32)))] n0) 1 1 (T104.setTop (mkF m 8 #[.val (.ref a1), .val (.ref a2), .val (.int (1 : Int32))] [(.int (1 : Int32))]))
  refine own_go (fun t k => XS.aloadN X104.here hx rfl (hb hby d1_8) rfl rfl k) ?_
  show own_G p e below s (own_Q1 Z (1 : Int32) [(.int (c0 &&& (255 : Int32)))] n0) 1 1 (T104.setTop (mkF m 9 #[.val (.ref a1), .val (.ref a2), .val (.int (1 : Int32))] [(.ref a2), (.int (1 : Int32))]))
  refine own_go (own_len X104 hx hZ e104 V104 (g := (mkF m 9 #[.val (.ref a1), .val (.ref a2), .val (.int (1 : Int32))] [(.ref a2), (.int (1 : Int32))])) rfl rfl (hb hby d1_9)) ?_
  show own_G p e below s (own_Q1 Z (1 : Int32) [(.int (c0 &&& (255 : Int32)))] n0) 1 1 (T104.setTop (mkF m 10 #[.val (.ref a1), .val (.ref a2), .val (.int (1 : Int32))] [(.int (1 : Int32)), (.int (1 : Int32))]))
  refine own_go (fun t k => XS.icmpYes X104.here hx rfl (pc0 := 10) (pc' := 28) rfl (hb hby d1_10) rfl (XT.ii_ge_t (by decide)) (by decide) (by decide) k) ?_
  show own_G p e below s (own_Q1 Z (1 : Int32) [(.int (c0 &&& (255 : Int32)))] n0) 1 1 (T104.setTop (mkF m 28 #[.val (.ref a1), .val (.ref a2), .val (.int (1 : Int32))] []))
  refine own_go (fun t k => XS.aloadN X104.here hx rfl (hb hby d1_28) rfl rfl k) ?_
  show own_G p e below s (own_Q1 Z (1 : Int32) [(.int (c0 &&& (255 : Int32)))] n0) 1 1 (T104.setTop (mkF m 29 #[.val (.ref a1), .val (.ref a2), .val (.int (1 : Int32))] [(.ref a2)]))
  exact own_leave X104 (some (.ref a2)) (fun h => by rw [Bd.returns] at h; cases h) Bd.notSynchronized (fun fs hr => X104.areturnOut hx rfl Bd.returns rfl (hb hby d1_29) hr) (by rw [e104]; exact ⟨a2, cA102, rfl, N104, V104⟩) (by decide) (by decide)
set_option maxRecDepth 65536 in
set_option maxHeartbeats 40000000 in
theorem rm1_2 (l : Launch) (Z : State) (a0 : Array Value) (hw : ∀ d ∈ tables_1, d.before a0 Z = true) (ws : List Jvm.Cond) (a1 : Addr) (kc : ClassId) (c0 c1 : Int32) (h0 : Heap) (n0 : Nat) (Z0 : n0 ≤ h0.size) (F : Arv Z h0 a1 kc .byte (2 : Int32) [(.int c0), (.int c1)] (.int 0)) :
    MetFree l (⟨"com/example/pure_match/purematch/search/CodeCursor", "codesOf", "([B)[C"⟩ : MethodName) (head1 (Jvm.Cond.code (⟨"com/example/pure_match/purematch/search/CodeCursor", "codesOf", "([B)[C"⟩ : MethodName) prog_15_method_2_code 3 (some (.array .char)) :: ws) ({ frames := 1, cells := 1, slots := 2, locals := 14 } : Room)) (fun a U => a = #[(.ref a1)] ∧ Z.Warmed39 U.vm ∧ U.heap = h0) (fun _ _ _ _ _ => True) (fun _ U o U' => ∃ v L, o = .returned v ∧ own_Q1 Z (2 : Int32) [(.int (c0 &&& (255 : Int32))), (.int (c1 &&& (255 : Int32)))] n0 v U'.heap L ∧ FrameEnd U o U' L ({ frames := 1, cells := 1, slots := 2, locals := 14 } : Room).cells ({ frames := 1, cells := 1, slots := 2, locals := 14 } : Room).slots) := by
  refine MetFree.of_bodySF (plainFor_of_name pn2) hisR ?_
  intro p e s m args below meth c s₁ Bd hml0 hP hK
  obtain ⟨rfl, hZ, hh⟩ := hP
  have hx := Bd.exec
  have hby := Bd.bytes
  have hml : c.maxLocals = 3 := hml0
  have hown : s.vm.findClass "com/example/pure_match/purematch/search/CodeCursor" = some m.cls := findClass_of_methodNamed Bd.named
  have hnm := (name_of_methodNamed Bd.named Bd.method).1
  have X0 : Stand p l e ({ frames := 1, cells := 1, slots := 2, locals := 14 } : Room) s m #[(.ref a1)] below meth c s₁ [] 0 0 := Stand.of_body Bd
  have e0 : s₁.heap = h0 := by rw [← hh, Bd.state]; rfl
  refine (show own_G p e below s (own_Q1 Z (2 : Int32) [(.int (c0 &&& (255 : Int32))), (.int (c1 &&& (255 : Int32)))] n0) 1 2 (s₁.setTop (entryFrame m #[(.ref a1)] 3)) → _ from fun k => k) ?_
  refine own_go (fun t k => castTop (ef1 m a1) k) ?_
  show own_G p e below s (own_Q1 Z (2 : Int32) [(.int (c0 &&& (255 : Int32))), (.int (c1 &&& (255 : Int32)))] n0) 1 2 (s₁.setTop (mkF m 0 #[.val (.ref a1), .unset, .unset] []))
  refine own_go (fun t k => XS.aloadN X0.here hx rfl (hb hby d1_0) rfl rfl k) ?_
  show own_G p e below s (own_Q1 Z (2 : Int32) [(.int (c0 &&& (255 : Int32))), (.int (c1 &&& (255 : Int32)))] n0) 1 2 (s₁.setTop (mkF m 1 #[.val (.ref a1), .unset, .unset] [(.ref a1)]))
  refine own_go (own_len X0 hx hZ e0 F (g := (mkF m 1 #[.val (.ref a1), .unset, .unset] [(.ref a1)])) rfl rfl (hb hby d1_1)) ?_
  show own_G p e below s (own_Q1 Z (2 : Int32) [(.int (c0 &&& (255 : Int32))), (.int (c1 &&& (255 : Int32)))] n0) 1 2 (s₁.setTop (mkF m 2 #[.val (.ref a1), .unset, .unset] [(.int (2 : Int32))]))
  obtain ⟨T105, h105, cA105, X105, e105, E105, A105, st105⟩ := newP X0 hx hZ (hw _ (List.mem_of_getElem? (i := 6) rfl)) e0 (g := (mkF m 2 #[.val (.ref a1), .unset, .unset] [(.int (2 : Int32))])) rfl (hb hby d1_2) rfl (by decide) (cap := 2) (by decide) (by decide) (by decide) (by decide)
  obtain ⟨a2, g105⟩ : ∃ z, z = h0.size := ⟨_, rfl⟩
  rw [← g105] at A105 st105
  have V105 : Arv Z h105 a2 cA105 .char (2 : Int32) [(.int 0), (.int 0)] (.int 0) := (Arv.new A105 (by decide)).pad (pad_rep [] (.int 0) 2)
  refine own_go st105 ?_
  show own_G p e below s (own_Q1 Z (2 : Int32) [(.int (c0 &&& (255 : Int32))), (.int (c1 &&& (255 : Int32)))] n0) 1 2 (T105.setTop (mkF m 4 #[.val (.ref a1), .unset, .unset] [(.ref a2)]))
  have g2 : n0 ≤ a2 := Nat.le_trans Z0 (Nat.le_of_eq g105.symm)
  have F1 := F.ext E105
  have ne12 : a1 ≠ a2 := Nat.ne_of_lt (Nat.lt_of_lt_of_le F.lt (Nat.le_of_eq g105.symm))
  refine own_go (fun t k => XS.astoreN X105.here hx rfl (hb hby d1_4) rfl rfl (l' := #[.val (.ref a1), .val (.ref a2), .unset]) rfl k) ?_
  show own_G p e below s (own_Q1 Z (2 : Int32) [(.int (c0 &&& (255 : Int32))), (.int (c1 &&& (255 : Int32)))] n0) 1 2 (T105.setTop (mkF m 5 #[.val (.ref a1), .val (.ref a2), .unset] []))
  refine own_go (fun t k => XS.iconst X105.here hx rfl (hb hby d1_5) k) ?_
  show own_G p e below s (own_Q1 Z (2 : Int32) [(.int (c0 &&& (255 : Int32))), (.int (c1 &&& (255 : Int32)))] n0) 1 2 (T105.setTop (mkF m 6 #[.val (.ref a1), .val (.ref a2), .unset] [(.int (0 : Int32))]))
  refine own_go (fun t k => XS.istoreN X105.here hx rfl (hb hby d1_6) rfl (l' := #[.val (.ref a1), .val (.ref a2), .val (.int (0 : Int32))]) rfl k) ?_
  show own_G p e below s (own_Q1 Z (2 : Int32) [(.int (c0 &&& (255 : Int32))), (.int (c1 &&& (255 : Int32)))] n0) 1 2 (T105.setTop (mkF m 7 #[.val (.ref a1), .val (.ref a2), .val (.int (0 : Int32))] []))
  refine own_go (fun t k => XS.iloadN X105.here hx rfl (hb hby d1_7) rfl k) ?_
  show own_G p e below s (own_Q1 Z (2 : Int32) [(.int (c0 &&& (255 : Int32))), (.int (c1 &&& (255 : Int32)))] n0) 1 2 (T105.setTop (mkF m 8 #[.val (.ref a1), .val (.ref a2), .val (.int (0 : Int32))] [(.int (0 : Int32))]))
  refine own_go (fun t k => XS.aloadN X105.here hx rfl (hb hby d1_8) rfl rfl k) ?_
  show own_G p e below s (own_Q1 Z (2 : Int32) [(.int (c0 &&& (255 : Int32))), (.int (c1 &&& (255 : Int32)))] n0) 1 2 (T105.setTop (mkF m 9 #[.val (.ref a1), .val (.ref a2), .val (.int (0 : Int32))] [(.ref a2), (.int (0 : Int32))]))
  refine own_go (own_len X105 hx hZ e105 V105 (g := (mkF m 9 #[.val (.ref a1), .val (.ref a2), .val (.int (0 : Int32))] [(.ref a2), (.int (0 : Int32))])) rfl rfl (hb hby d1_9)) ?_
  show own_G p e below s (own_Q1 Z (2 : Int32) [(.int (c0 &&& (255 : Int32))), (.int (c1 &&& (255 : Int32)))] n0) 1 2 (T105.setTop (mkF m 10 #[.val (.ref a1), .val (.ref a2), .val (.int (0 : Int32))] [(.int (2 : Int32)), (.int (0 : Int32))]))
  refine own_go (fun t k => XS.icmpNo X105.here hx rfl (hb hby d1_10) rfl (XT.ii_ge_f (by decide)) k) ?_
  show own_G p e below s (own_Q1 Z (2 : Int32) [(.int (c0 &&& (255 : Int32))), (.int (c1 &&& (255 : Int32)))] n0) 1 2 (T105.setTop (mkF m 13 #[.val (.ref a1), .val (.ref a2), .val (.int (0 : Int32))] []))
  refine own_go (fun t k => XS.aloadN X105.here hx rfl (hb hby d1_13) rfl rfl k) ?_
  show own_G p e below s (own_Q1 Z (2 : Int32) [(.int (c0 &&& (255 : Int32))), (.int (c1 &&& (255 : Int32)))] n0) 1 2 (T105.setTop (mkF m 14 #[.val (.ref a1), .val (.ref a2), .val (.int (0 : Int32))] [(.ref a2)]))
  refine own_go (fun t k => XS.iloadN X105.here hx rfl (hb hby d1_14) rfl k) ?_
  show own_G p e below s (own_Q1 Z (2 : Int32) [(.int (c0 &&& (255 : Int32))), (.int (c1 &&& (255 : Int32)))] n0) 1 2 (T105.setTop (mkF m 15 #[.val (.ref a1), .val (.ref a2), .val (.int (0 : Int32))] [(.int (0 : Int32)), (.ref a2)]))
  refine own_go (fun t k => XS.aloadN X105.here hx rfl (hb hby d1_15) rfl rfl k) ?_
  show own_G p e below s (own_Q1 Z (2 : Int32) [(.int (c0 &&& (255 : Int32))), (.int (c1 &&& (255 : Int32)))] n0) 1 2 (T105.setTop (mkF m 16 #[.val (.ref a1), .val (.ref a2), .val (.int (0 : Int32))] [(.ref a1), (.int (0 : Int32)), (.ref a2)]))
  refine own_go (fun t k => XS.iloadN X105.here hx rfl (hb hby d1_16) rfl k) ?_
  show own_G p e below s (own_Q1 Z (2 : Int32) [(.int (c0 &&& (255 : Int32))), (.int (c1 &&& (255 : Int32)))] n0) 1 2 (T105.setTop (mkF m 17 #[.val (.ref a1), .val (.ref a2), .val (.int (0 : Int32))] [(.int (0 : Int32)), (.ref a1), (.int (0 : Int32)), (.ref a2)]))
  refine own_go (own_ldB X105 hx hZ e105 F1 (j := (0 : Int32)) (v := (.int c0)) ⟨by decide, by decide⟩ rfl (g := (mkF m 17 #[.val (.ref a1), .val (.ref a2), .val (.int (0 : Int32))] [(.int (0 : Int32)), (.ref a1), (.int (0 : Int32)), (.ref a2)])) rfl rfl (hb hby d1_17)) ?_
  show own_G p e below s (own_Q1 Z (2 : Int32) [(.int (c0 &&& (255 : Int32))), (.int (c1 &&& (255 : Int32)))] n0) 1 2 (T105.setTop (mkF m 18 #[.val (.ref a1), .val (.ref a2), .val (.int (0 : Int32))] [(.int c0), (.int (0 : Int32)), (.ref a2)]))
  obtain ⟨_, _, ⟨T106, L106, k106, n106⟩, -, X106, ⟨Lc106, hQ106, l106, y106, z106⟩, st106⟩ := Jvm.LawKit.callS X105 hx (y := (⟨"com/example/pure_match/purematch/search/CodeCursor", "codeOf", "(B)C"⟩ : MethodName)) hown (mvT hZ (hw _ (List.mem_of_getElem? (i := 7) rfl))) (mvT hZ (hw _ (List.mem_of_getElem? (i := 8) rfl))) (mvT hZ (hw _ (List.mem_of_getElem? (i := 4) rfl))) (mvT hZ (hw _ (List.mem_of_getElem? (i := 9) rfl))) (by decide) (backOf (W := 2) (rm2 l Z a0 hw [] c0 h105) hZ (hw _ (List.mem_of_getElem? (i := 9) rfl)) (hw _ (List.mem_of_getElem? (i := 4) rfl)) (by decide) (by decide)) (g := (mkF m 18 #[.val (.ref a1), .val (.ref a2), .val (.int (0 : Int32))] [(.int c0), (.int (0 : Int32)), (.ref a2)])) rfl (by rw [hml]; rfl) (argsL := [(.int c0)]) (rest := [(.int (0 : Int32)), (.ref a2)]) (lenOf pd2 rfl) rfl (by show 2 * 0 + _ ≤ _; exact Nat.le_of_eq rfl) (hb hby d1_18) (fun _ _ => ⟨rfl, e105, (by decide : 1 + 0 ≤ _), (by decide : 2 + 0 ≤ _)⟩)
  dsimp only [Pt.U, Pt.locs, Pt.cells, Pt.slots] at X106 l106 y106 z106 st106 hQ106
  subst l106 y106 z106
  obtain ⟨rfl, rfl, e106⟩ := hQ106
  refine own_go (st106) ?_
  show own_G p e below s (own_Q1 Z (2 : Int32) [(.int (c0 &&& (255 : Int32))), (.int (c1 &&& (255 : Int32)))] n0) 1 2 (T106.setTop (mkF m 21 #[.val (.ref a1), .val (.ref a2), .val (.int (0 : Int32))] [(.int (c0 &&& (255 : Int32))), (.int (0 : Int32)), (.ref a2)]))
  obtain ⟨T107, h107, X107, e107, W107, V107, st107⟩ := own_stC X106 hx hZ e106 V105 (j := (0 : Int32)) ⟨by decide, by decide⟩ 0 (by decide) (by simp) (vs' := [(.int (c0 &&& (255 : Int32))), (.int 0)]) (by rw [own_nar_c]; rfl) (g := (mkF m 21 #[.val (.ref a1), .val (.ref a2), .val (.int (0 : Int32))] [(.int (c0 &&& (255 : Int32))), (.int (0 : Int32)), (.ref a2)])) rfl rfl (hb hby d1_21)
  have N107 := Fr.snoc X107 (Fr.app (Fr.nil n0) (Fr.nil n0)) g2
  have U107_a1 := F1.other W107 ne12
  refine own_go st107 ?_
  show own_G p e below s (own_Q1 Z (2 : Int32) [(.int (c0 &&& (255 : Int32))), (.int (c1 &&& (255 : Int32)))] n0) 1 2 (T107.setTop (mkF m 22 #[.val (.ref a1), .val (.ref a2), .val (.int (0 : Int32))] []))
  refine own_go (fun t k => XS.iinc X107.here hx rfl (hb hby d1_22) rfl (l' := #[.val (.ref a1), .val (.ref a2), .val (.int (1 : Int32))]) rfl k) ?_
  show own_G p e below s (own_Q1 Z (2 : Int32) [(.int (c0 &&& (255 : Int32))), (.int (c1 &&& (255 : Int32)))] n0) 1 2 (T107.setTop (mkF m 25 #[.val (.ref a1), .val (.ref a2), .val (.int (1 : Int32))] []))
  refine own_go (fun t k => XS.goto X107.here hx rfl (pc0 := 25) (pc' := 7) rfl (hb hby d1_25) (by decide) (by decide) k) ?_
  show own_G p e below s (own_Q1 Z (2 : Int32) [(.int (c0 &&& (255 : Int32))), (.int (c1 &&& (255 : Int32)))] n0) 1 2 (T107.setTop (mkF m 7 #[.val (.ref a1), .val (.ref a2), .val (.int (1 : Int32))] []))
  refine own_go (fun t k => XS.iloadN X107.here hx rfl (hb hby d1_7) rfl k) ?_
  show own_G p e below s (own_Q1 Z (2 : Int32) [(.int (c0 &&& (255 : Int32))), (.int (c1 &&& (255 : Int32)))] n0) 1 2 (T107.setTop (mkF m 8 #[.val (.ref a1), .val (.ref a2), .val (.int (1 : Int32))] [(.int (1 : Int32))]))
  refine own_go (fun t k => XS.aloadN X107.here hx rfl (hb hby d1_8) rfl rfl k) ?_
  show own_G p e below s (own_Q1 Z (2 : Int32) [(.int (c0 &&& (255 : Int32))), (.int (c1 &&& (255 : Int32)))] n0) 1 2 (T107.setTop (mkF m 9 #[.val (.ref a1), .val (.ref a2), .val (.int (1 : Int32))] [(.ref a2), (.int (1 : Int32))]))
  refine own_go (own_len X107 hx hZ e107 V107 (g := (mkF m 9 #[.val (.ref a1), .val (.ref a2), .val (.int (1 : Int32))] [(.ref a2), (.int (1 : Int32))])) rfl rfl (hb hby d1_9)) ?_
  show own_G p e below s (own_Q1 Z (2 : Int32) [(.int (c0 &&& (255 : Int32))), (.int (c1 &&& (255 : Int32)))] n0) 1 2 (T107.setTop (mkF m 10 #[.val (.ref a1), .val (.ref a2), .val (.int (1 : Int32))] [(.int (2 : Int32)), (.int (1 : Int32))]))
  refine own_go (fun t k => XS.icmpNo X107.here hx rfl (hb hby d1_10) rfl (XT.ii_ge_f (by decide)) k) ?_
  show own_G p e below s (own_Q1 Z (2 : Int32) [(.int (c0 &&& (255 : Int32))), (.int (c1 &&& (255 : Int32)))] n0) 1 2 (T107.setTop (mkF m 13 #[.val (.ref a1), .val (.ref a2), .val (.int (1 : Int32))] []))
  refine own_go (fun t k => XS.aloadN X107.here hx rfl (hb hby d1_13) rfl rfl k) ?_
  show own_G p e below s (own_Q1 Z (2 : Int32) [(.int (c0 &&& (255 : Int32))), (.int (c1 &&& (255 : Int32)))] n0) 1 2 (T107.setTop (mkF m 14 #[.val (.ref a1), .val (.ref a2), .val (.int (1 : Int32))] [(.ref a2)]))
  refine own_go (fun t k => XS.iloadN X107.here hx rfl (hb hby d1_14) rfl k) ?_
  show own_G p e below s (own_Q1 Z (2 : Int32) [(.int (c0 &&& (255 : Int32))), (.int (c1 &&& (255 : Int32)))] n0) 1 2 (T107.setTop (mkF m 15 #[.val (.ref a1), .val (.ref a2), .val (.int (1 : Int32))] [(.int (1 : Int32)), (.ref a2)]))
  refine own_go (fun t k => XS.aloadN X107.here hx rfl (hb hby d1_15) rfl rfl k) ?_
  show own_G p e below s (own_Q1 Z (2 : Int32) [(.int (c0 &&& (255 : Int32))), (.int (c1 &&& (255 : Int32)))] n0) 1 2 (T107.setTop (mkF m 16 #[.val (.ref a1), .val (.ref a2), .val (.int (1 : Int32))] [(.ref a1), (.int (1 : Int32)), (.ref a2)]))
  refine own_go (fun t k => XS.iloadN X107.here hx rfl (hb hby d1_16) rfl k) ?_
  show own_G p e below s (own_Q1 Z (2 : Int32) [(.int (c0 &&& (255 : Int32))), (.int (c1 &&& (255 : Int32)))] n0) 1 2 (T107.setTop (mkF m 17 #[.val (.ref a1), .val (.ref a2), .val (.int (1 : Int32))] [(.int (1 : Int32)), (.ref a1), (.int (1 : Int32)), (.ref a2)]))
  refine own_go (own_ldB X107 hx hZ e107 U107_a1 (j := (1 : Int32)) (v := (.int c1)) ⟨by decide, by decide⟩ rfl (g := (mkF m 17 #[.val (.ref a1), .val (.ref a2), .val (.int (1 : Int32))] [(.int (1 : Int32)), (.ref a1), (.int (1 : Int32)), (.ref a2)])) rfl rfl (hb hby d1_17)) ?_
  show own_G p e below s (own_Q1 Z (2 : Int32) [(.int (c0 &&& (255 : Int32))), (.int (c1 &&& (255 : Int32)))] n0) 1 2 (T107.setTop (mkF m 18 #[.val (.ref a1), .val (.ref a2), .val (.int (1 : Int32))] [(.int c1), (.int (1 : Int32)), (.ref a2)]))
  obtain ⟨_, _, ⟨T108, L108, k108, n108⟩, -, X108, ⟨Lc108, hQ108, l108, y108, z108⟩, st108⟩ := Jvm.LawKit.callS X107 hx (y := (⟨"com/example/pure_match/purematch/search/CodeCursor", "codeOf", "(B)C"⟩ : MethodName)) hown (mvT hZ (hw _ (List.mem_of_getElem? (i := 7) rfl))) (mvT hZ (hw _ (List.mem_of_getElem? (i := 8) rfl))) (mvT hZ (hw _ (List.mem_of_getElem? (i := 4) rfl))) (mvT hZ (hw _ (List.mem_of_getElem? (i := 9) rfl))) (by decide) (backOf (W := 2) (rm2 l Z a0 hw [] c1 h107) hZ (hw _ (List.mem_of_getElem? (i := 9) rfl)) (hw _ (List.mem_of_getElem? (i := 4) rfl)) (by decide) (by decide)) (g := (mkF m 18 #[.val (.ref a1), .val (.ref a2), .val (.int (1 : Int32))] [(.int c1), (.int (1 : Int32)), (.ref a2)])) rfl (by rw [hml]; rfl) (argsL := [(.int c1)]) (rest := [(.int (1 : Int32)), (.ref a2)]) (lenOf pd2 rfl) rfl (by show 2 * 0 + _ ≤ _; exact Nat.le_of_eq rfl) (hb hby d1_18) (fun _ _ => ⟨rfl, e107, (by decide : 1 + 0 ≤ _), (by decide : 2 + 0 ≤ _)⟩)
  dsimp only [Pt.U, Pt.locs, Pt.cells, Pt.slots] at X108 l108 y108 z108 st108 hQ108
  subst l108 y108 z108
  obtain ⟨rfl, rfl, e108⟩ := hQ108
  refine own_go (st108) ?_
  show own_G p e below s (own_Q1 Z (2 : Int32) [(.int (c0 &&& (255 : Int32))), (.int (c1 &&& (255 : Int32)))] n0) 1 2 (T108.setTop (mkF m 21 #[.val (.ref a1), .val (.ref a2), .val (.int (1 : Int32))] [(.int (c1 &&& (255 : Int32))), (.int (1 : Int32)), (.ref a2)]))
  obtain ⟨T109, h109, X109, e109, W109, V109, st109⟩ := own_stC X108 hx hZ e108 V107 (j := (1 : Int32)) ⟨by decide, by decide⟩ 1 (by decide) (by simp) (vs' := [(.int (c0 &&& (255 : Int32))), (.int (c1 &&& (255 : Int32)))]) (by rw [own_nar_c]; rfl) (g := (mkF m 21 #[.val (.ref a1), .val (.ref a2), .val (.int (1 : Int32))] [(.int (c1 &&& (255 : Int32))), (.int (1 : Int32)), (.ref a2)])) rfl rfl (hb hby d1_21)
  have N109 := Fr.snoc X109 (Fr.app N107 (Fr.nil n0)) g2
  have U109_a1 := U107_a1.other W109 ne12
  refine own_go st109 ?_
  show own_G p e below s (own_Q1 Z (2 : Int32) [(.int (c0 &&& (255 : Int32))), (.int (c1 &&& (255 : Int32)))] n0) 1 2 (T109.setTop (mkF m 22 #[.val (.ref a1), .val (.ref a2), .val (.int (1 : Int32))] []))
  refine own_go (fun t k => XS.iinc X109.here hx rfl (hb hby d1_22) rfl (l' := #[.val (.ref a1), .val (.ref a2), .val (.int (2 : Int32))]) rfl k) ?_
  show own_G p e below s (own_Q1 Z (2 : Int32) [(.int (c0 &&& (255 : Int32))), (.int (c1 &&& (255 : Int32)))] n0) 1 2 (T109.setTop (mkF m 25 #[.val (.ref a1), .val (.ref a2), .val (.int (2 : Int32))] []))
  refine own_go (fun t k => XS.goto X109.here hx rfl (pc0 := 25) (pc' := 7) rfl (hb hby d1_25) (by decide) (by decide) k) ?_
  show own_G p e below s (own_Q1 Z (2 : Int32) [(.int (c0 &&& (255 : Int32))), (.int (c1 &&& (255 : Int32)))] n0) 1 2 (T109.setTop (mkF m 7 #[.val (.ref a1), .val (.ref a2), .val (.int (2 : Int32))] []))
  refine own_go (fun t k => XS.iloadN X109.here hx rfl (hb hby d1_7) rfl k) ?_
  show own_G p e below s (own_Q1 Z (2 : Int32) [(.int (c0 &&& (255 : Int32))), (.int (c1 &&& (255 : Int32)))] n0) 1 2 (T109.setTop (mkF m 8 #[.val (.ref a1), .val (.ref a2), .val (.int (2 : Int32))] [(.int (2 : Int32))]))
  refine own_go (fun t k => XS.aloadN X109.here hx rfl (hb hby d1_8) rfl rfl k) ?_
  show own_G p e below s (own_Q1 Z (2 : Int32) [(.int (c0 &&& (255 : Int32))), (.int (c1 &&& (255 : Int32)))] n0) 1 2 (T109.setTop (mkF m 9 #[.val (.ref a1), .val (.ref a2), .val (.int (2 : Int32))] [(.ref a2), (.int (2 : Int32))]))
  refine own_go (own_len X109 hx hZ e109 V109 (g := (mkF m 9 #[.val (.ref a1), .val (.ref a2), .val (.int (2 : Int32))] [(.ref a2), (.int (2 : Int32))])) rfl rfl (hb hby d1_9)) ?_
  show own_G p e below s (own_Q1 Z (2 : Int32) [(.int (c0 &&& (255 : Int32))), (.int (c1 &&& (255 : Int32)))] n0) 1 2 (T109.setTop (mkF m 10 #[.val (.ref a1), .val (.ref a2), .val (.int (2 : Int32))] [(.int (2 : Int32)), (.int (2 : Int32))]))
  refine own_go (fun t k => XS.icmpYes X109.here hx rfl (pc0 := 10) (pc' := 28) rfl (hb hby d1_10) rfl (XT.ii_ge_t (by decide)) (by decide) (by decide) k) ?_
  show own_G p e below s (own_Q1 Z (2 : Int32) [(.int (c0 &&& (255 : Int32))), (.int (c1 &&& (255 : Int32)))] n0) 1 2 (T109.setTop (mkF m 28 #[.val (.ref a1), .val (.ref a2), .val (.int (2 : Int32))] []))
  refine own_go (fun t k => XS.aloadN X109.here hx rfl (hb hby d1_28) rfl rfl k) ?_
  show own_G p e below s (own_Q1 Z (2 : Int32) [(.int (c0 &&& (255 : Int32))), (.int (c1 &&& (255 : Int32)))] n0) 1 2 (T109.setTop (mkF m 29 #[.val (.ref a1), .val (.ref a2), .val (.int (2 : Int32))] [(.ref a2)]))
  exact own_leave X109 (some (.ref a2)) (fun h => by rw [Bd.returns] at h; cases h) Bd.notSynchronized (fun fs hr => X109.areturnOut hx rfl Bd.returns rfl (hb hby d1_29) hr) (by rw [e109]; exact ⟨a2, cA105, rfl, N109, V109⟩) (by decide) (by decide)
set_option maxRecDepth 65536 in
set_option maxHeartbeats 40000000 in
theorem rm1_3 (l : Launch) (Z : State) (a0 : Array Value) (hw : ∀ d ∈ tables_1, d.before a0 Z = true) (ws : List Jvm.Cond) (a1 : Addr) (kc : ClassId) (c0 c1 c2 : Int32) (h0 : Heap) (n0 : Nat) (Z0 : n0 ≤ h0.size) (F : Arv Z h0 a1 kc .byte (3 : Int32) [(.int c0), (.int c1), (.int c2)] (.int 0)) :
    MetFree l (⟨"com/example/pure_match/purematch/search/CodeCursor", "codesOf", "([B)[C"⟩ : MethodName) (head1 (Jvm.Cond.code (⟨"com/example/pure_match/purematch/search/CodeCursor", "codesOf", "([B)[C"⟩ : MethodName) prog_15_method_2_code 3 (some (.array .char)) :: ws) ({ frames := 1, cells := 1, slots := 3, locals := 14 } : Room)) (fun a U => a = #[(.ref a1)] ∧ Z.Warmed39 U.vm ∧ U.heap = h0) (fun _ _ _ _ _ => True) (fun _ U o U' => ∃ v L, o = .returned v ∧ own_Q1 Z (3 : Int32) [(.int (c0 &&& (255 : Int32))), (.int (c1 &&& (255 : Int32))), (.int (c2 &&& (255 : Int32)))] n0 v U'.heap L ∧ FrameEnd U o U' L ({ frames := 1, cells := 1, slots := 3, locals := 14 } : Room).cells ({ frames := 1, cells := 1, slots := 3, locals := 14 } : Room).slots) := by
  refine MetFree.of_bodySF (plainFor_of_name pn2) hisR ?_
  intro p e s m args below meth c s₁ Bd hml0 hP hK
  obtain ⟨rfl, hZ, hh⟩ := hP
  have hx := Bd.exec
  have hby := Bd.bytes
  have hml : c.maxLocals = 3 := hml0
  have hown : s.vm.findClass "com/example/pure_match/purematch/search/CodeCursor" = some m.cls := findClass_of_methodNamed Bd.named
  have hnm := (name_of_methodNamed Bd.named Bd.method).1
  have X0 : Stand p l e ({ frames := 1, cells := 1, slots := 3, locals := 14 } : Room) s m #[(.ref a1)] below meth c s₁ [] 0 0 := Stand.of_body Bd
  have e0 : s₁.heap = h0 := by rw [← hh, Bd.state]; rfl
  refine (show own_G p e below s (own_Q1 Z (3 : Int32) [(.int (c0 &&& (255 : Int32))), (.int (c1 &&& (255 : Int32))), (.int (c2 &&& (255 : Int32)))] n0) 1 3 (s₁.setTop (entryFrame m #[(.ref a1)] 3)) → _ from fun k => k) ?_
  refine own_go (fun t k => castTop (ef1 m a1) k) ?_
  show own_G p e below s (own_Q1 Z (3 : Int32) [(.int (c0 &&& (255 : Int32))), (.int (c1 &&& (255 : Int32))), (.int (c2 &&& (255 : Int32)))] n0) 1 3 (s₁.setTop (mkF m 0 #[.val (.ref a1), .unset, .unset] []))
  refine own_go (fun t k => XS.aloadN X0.here hx rfl (hb hby d1_0) rfl rfl k) ?_
  show own_G p e below s (own_Q1 Z (3 : Int32) [(.int (c0 &&& (255 : Int32))), (.int (c1 &&& (255 : Int32))), (.int (c2 &&& (255 : Int32)))] n0) 1 3 (s₁.setTop (mkF m 1 #[.val (.ref a1), .unset, .unset] [(.ref a1)]))
  refine own_go (own_len X0 hx hZ e0 F (g := (mkF m 1 #[.val (.ref a1), .unset, .unset] [(.ref a1)])) rfl rfl (hb hby d1_1)) ?_
  show own_G p e below s (own_Q1 Z (3 : Int32) [(.int (c0 &&& (255 : Int32))), (.int (c1 &&& (255 : Int32))), (.int (c2 &&& (255 : Int32)))] n0) 1 3 (s₁.setTop (mkF m 2 #[.val (.ref a1), .unset, .unset] [(.int (3 : Int32))]))
  obtain ⟨T110, h110, cA110, X110, e110, E110, A110, st110⟩ := newP X0 hx hZ (hw _ (List.mem_of_getElem? (i := 6) rfl)) e0 (g := (mkF m 2 #[.val (.ref a1), .unset, .unset] [(.int (3 : Int32))])) rfl (hb hby d1_2) rfl (by decide) (cap := 3) (by decide) (by decide) (by decide) (by decide)
  obtain ⟨a2, g110⟩ : ∃ z, z = h0.size := ⟨_, rfl⟩
  rw [← g110] at A110 st110
  have V110 : Arv Z h110 a2 cA110 .char (3 : Int32) [(.int 0), (.int 0), (.int 0)] (.int 0) := (Arv.new A110 (by decide)).pad (pad_rep [] (.int 0) 3)
  refine own_go st110 ?_
  show own_G p e below s (own_Q1 Z (3 : Int32) [(.int (c0 &&& (255 : Int32))), (.int (c1 &&& (255 : Int32))), (.int (c2 &&& (255 : Int32)))] n0) 1 3 (T110.setTop (mkF m 4 #[.val (.ref a1), .unset, .unset] [(.ref a2)]))
  have g2 : n0 ≤ a2 := Nat.le_trans Z0 (Nat.le_of_eq g110.symm)
  have F1 := F.ext E110
  have ne12 : a1 ≠ a2 := Nat.ne_of_lt (Nat.lt_of_lt_of_le F.lt (Nat.le_of_eq g110.symm))
  refine own_go (fun t k => XS.astoreN X110.here hx rfl (hb hby d1_4) rfl rfl (l' := #[.val (.ref a1), .val (.ref a2), .unset]) rfl k) ?_
  show own_G p e below s (own_Q1 Z (3 : Int32) [(.int (c0 &&& (255 : Int32))), (.int (c1 &&& (255 : Int32))), (.int (c2 &&& (255 : Int32)))] n0) 1 3 (T110.setTop (mkF m 5 #[.val (.ref a1), .val (.ref a2), .unset] []))
  refine own_go (fun t k => XS.iconst X110.here hx rfl (hb hby d1_5) k) ?_
  show own_G p e below s (own_Q1 Z (3 : Int32) [(.int (c0 &&& (255 : Int32))), (.int (c1 &&& (255 : Int32))), (.int (c2 &&& (255 : Int32)))] n0) 1 3 (T110.setTop (mkF m 6 #[.val (.ref a1), .val (.ref a2), .unset] [(.int (0 : Int32))]))
  refine own_go (fun t k => XS.istoreN X110.here hx rfl (hb hby d1_6) rfl (l' := #[.val (.ref a1), .val (.ref a2), .val (.int (0 : Int32))]) rfl k) ?_
  show own_G p e below s (own_Q1 Z (3 : Int32) [(.int (c0 &&& (255 : Int32))), (.int (c1 &&& (255 : Int32))), (.int (c2 &&& (255 : Int32)))] n0) 1 3 (T110.setTop (mkF m 7 #[.val (.ref a1), .val (.ref a2), .val (.int (0 : Int32))] []))
  refine own_go (fun t k => XS.iloadN X110.here hx rfl (hb hby d1_7) rfl k) ?_
  show own_G p e below s (own_Q1 Z (3 : Int32) [(.int (c0 &&& (255 : Int32))), (.int (c1 &&& (255 : Int32))), (.int (c2 &&& (255 : Int32)))] n0) 1 3 (T110.setTop (mkF m 8 #[.val (.ref a1), .val (.ref a2), .val (.int (0 : Int32))] [(.int (0 : Int32))]))
  refine own_go (fun t k => XS.aloadN X110.here hx rfl (hb hby d1_8) rfl rfl k) ?_
  show own_G p e below s (own_Q1 Z (3 : Int32) [(.int (c0 &&& (255 : Int32))), (.int (c1 &&& (255 : Int32))), (.int (c2 &&& (255 : Int32)))] n0) 1 3 (T110.setTop (mkF m 9 #[.val (.ref a1), .val (.ref a2), .val (.int (0 : Int32))] [(.ref a2), (.int (0 : Int32))]))
  refine own_go (own_len X110 hx hZ e110 V110 (g := (mkF m 9 #[.val (.ref a1), .val (.ref a2), .val (.int (0 : Int32))] [(.ref a2), (.int (0 : Int32))])) rfl rfl (hb hby d1_9)) ?_
  show own_G p e below s (own_Q1 Z (3 : Int32) [(.int (c0 &&& (255 : Int32))), (.int (c1 &&& (255 : Int32))), (.int (c2 &&& (255 : Int32)))] n0) 1 3 (T110.setTop (mkF m 10 #[.val (.ref a1), .val (.ref a2), .val (.int (0 : Int32))] [(.int (3 : Int32)), (.int (0 : Int32))]))
  refine own_go (fun t k => XS.icmpNo X110.here hx rfl (hb hby d1_10) rfl (XT.ii_ge_f (by decide)) k) ?_
  show own_G p e below s (own_Q1 Z (3 : Int32) [(.int (c0 &&& (255 : Int32))), (.int (c1 &&& (255 : Int32))), (.int (c2 &&& (255 : Int32)))] n0) 1 3 (T110.setTop (mkF m 13 #[.val (.ref a1), .val (.ref a2), .val (.int (0 : Int32))] []))
  refine own_go (fun t k => XS.aloadN X110.here hx rfl (hb hby d1_13) rfl rfl k) ?_
  show own_G p e below s (own_Q1 Z (3 : Int32) [(.int (c0 &&& (255 : Int32))), (.int (c1 &&& (255 : Int32))), (.int (c2 &&& (255 : Int32)))] n0) 1 3 (T110.setTop (mkF m 14 #[.val (.ref a1), .val (.ref a2), .val (.int (0 : Int32))] [(.ref a2)]))
  refine own_go (fun t k => XS.iloadN X110.here hx rfl (hb hby d1_14) rfl k) ?_
  show own_G p e below s (own_Q1 Z (3 : Int32) [(.int (c0 &&& (255 : Int32))), (.int (c1 &&& (255 : Int32))), (.int (c2 &&& (255 : Int32)))] n0) 1 3 (T110.setTop (mkF m 15 #[.val (.ref a1), .val (.ref a2), .val (.int (0 : Int32))] [(.int (0 : Int32)), (.ref a2)]))
  refine own_go (fun t k => XS.aloadN X110.here hx rfl (hb hby d1_15) rfl rfl k) ?_
  show own_G p e below s (own_Q1 Z (3 : Int32) [(.int (c0 &&& (255 : Int32))), (.int (c1 &&& (255 : Int32))), (.int (c2 &&& (255 : Int32)))] n0) 1 3 (T110.setTop (mkF m 16 #[.val (.ref a1), .val (.ref a2), .val (.int (0 : Int32))] [(.ref a1), (.int (0 : Int32)), (.ref a2)]))
  refine own_go (fun t k => XS.iloadN X110.here hx rfl (hb hby d1_16) rfl k) ?_
  show own_G p e below s (own_Q1 Z (3 : Int32) [(.int (c0 &&& (255 : Int32))), (.int (c1 &&& (255 : Int32))), (.int (c2 &&& (255 : Int32)))] n0) 1 3 (T110.setTop (mkF m 17 #[.val (.ref a1), .val (.ref a2), .val (.int (0 : Int32))] [(.int (0 : Int32)), (.ref a1), (.int (0 : Int32)), (.ref a2)]))
  refine own_go (own_ldB X110 hx hZ e110 F1 (j := (0 : Int32)) (v := (.int c0)) ⟨by decide, by decide⟩ rfl (g := (mkF m 17 #[.val (.ref a1), .val (.ref a2), .val (.int (0 : Int32))] [(.int (0 : Int32)), (.ref a1), (.int (0 : Int32)), (.ref a2)])) rfl rfl (hb hby d1_17)) ?_
  show own_G p e below s (own_Q1 Z (3 : Int32) [(.int (c0 &&& (255 : Int32))), (.int (c1 &&& (255 : Int32))), (.int (c2 &&& (255 : Int32)))] n0) 1 3 (T110.setTop (mkF m 18 #[.val (.ref a1), .val (.ref a2), .val (.int (0 : Int32))] [(.int c0), (.int (0 : Int32)), (.ref a2)]))
  obtain ⟨_, _, ⟨T111, L111, k111, n111⟩, -, X111, ⟨Lc111, hQ111, l111, y111, z111⟩, st111⟩ := Jvm.LawKit.callS X110 hx (y := (⟨"com/example/pure_match/purematch/search/CodeCursor", "codeOf", "(B)C"⟩ : MethodName)) hown (mvT hZ (hw _ (List.mem_of_getElem? (i := 7) rfl))) (mvT hZ (hw _ (List.mem_of_getElem? (i := 8) rfl))) (mvT hZ (hw _ (List.mem_of_getElem? (i := 4) rfl))) (mvT hZ (hw _ (List.mem_of_getElem? (i := 9) rfl))) (by decide) (backOf (W := 2) (rm2 l Z a0 hw [] c0 h110) hZ (hw _ (List.mem_of_getElem? (i := 9) rfl)) (hw _ (List.mem_of_getElem? (i := 4) rfl)) (by decide) (by decide)) (g := (mkF m 18 #[.val (.ref a1), .val (.ref a2), .val (.int (0 : Int32))] [(.int c0), (.int (0 : Int32)), (.ref a2)])) rfl (by rw [hml]; rfl) (argsL := [(.int c0)]) (rest := [(.int (0 : Int32)), (.ref a2)]) (lenOf pd2 rfl) rfl (by show 2 * 0 + _ ≤ _; exact Nat.le_of_eq rfl) (hb hby d1_18) (fun _ _ => ⟨rfl, e110, (by decide : 1 + 0 ≤ _), (by decide : 3 + 0 ≤ _)⟩)
  dsimp only [Pt.U, Pt.locs, Pt.cells, Pt.slots] at X111 l111 y111 z111 st111 hQ111
  subst l111 y111 z111
  obtain ⟨rfl, rfl, e111⟩ := hQ111
  refine own_go (st111) ?_
  show own_G p e below s (own_Q1 Z (3 : Int32) [(.int (c0 &&& (255 : Int32))), (.int (c1 &&& (255 : Int32))), (.int (c2 &&& (255 : Int32)))] n0) 1 3 (T111.setTop (mkF m 21 #[.val (.ref a1), .val (.ref a2), .val (.int (0 : Int32))] [(.int (c0 &&& (255 : Int32))), (.int (0 : Int32)), (.ref a2)]))
  obtain ⟨T112, h112, X112, e112, W112, V112, st112⟩ := own_stC X111 hx hZ e111 V110 (j := (0 : Int32)) ⟨by decide, by decide⟩ 0 (by decide) (by simp) (vs' := [(.int (c0 &&& (255 : Int32))), (.int 0), (.int 0)]) (by rw [own_nar_c]; rfl) (g := (mkF m 21 #[.val (.ref a1), .val (.ref a2), .val (.int (0 : Int32))] [(.int (c0 &&& (255 : Int32))), (.int (0 : Int32)), (.ref a2)])) rfl rfl (hb hby d1_21)
  have N112 := Fr.snoc X112 (Fr.app (Fr.nil n0) (Fr.nil n0)) g2
  have U112_a1 := F1.other W112 ne12
  refine own_go st112 ?_
  show own_G p e below s (own_Q1 Z (3 : Int32) [(.int (c0 &&& (255 : Int32))), (.int (c1 &&& (255 : Int32))), (.int (c2 &&& (255 : Int32)))] n0) 1 3 (T112.setTop (mkF m 22 #[.val (.ref a1), .val (.ref a2), .val (.int (0 : Int32))] []))
  refine own_go (fun t k => XS.iinc X112.here hx rfl (hb hby d1_22) rfl (l' := #[.val (.ref a1), .val (.ref a2), .val (.int (1 : Int32))]) rfl k) ?_
  show own_G p e below s (own_Q1 Z (3 : Int32) [(.int (c0 &&& (255 : Int32))), (.int (c1 &&& (255 : Int32))), (.int (c2 &&& (255 : Int32)))] n0) 1 3 (T112.setTop (mkF m 25 #[.val (.ref a1), .val (.ref a2), .val (.int (1 : Int32))] []))
  refine own_go (fun t k => XS.goto X112.here hx rfl (pc0 := 25) (pc' := 7) rfl (hb hby d1_25) (by decide) (by decide) k) ?_
  show own_G p e below s (own_Q1 Z (3 : Int32) [(.int (c0 &&& (255 : Int32))), (.int (c1 &&& (255 : Int32))), (.int (c2 &&& (255 : Int32)))] n0) 1 3 (T112.setTop (mkF m 7 #[.val (.ref a1), .val (.ref a2), .val (.int (1 : Int32))] []))
  refine own_go (fun t k => XS.iloadN X112.here hx rfl (hb hby d1_7) rfl k) ?_
  show own_G p e below s (own_Q1 Z (3 : Int32) [(.int (c0 &&& (255 : Int32))), (.int (c1 &&& (255 : Int32))), (.int (c2 &&& (255 : Int32)))] n0) 1 3 (T112.setTop (mkF m 8 #[.val (.ref a1), .val (.ref a2), .val (.int (1 : Int32))] [(.int (1 : Int32))]))
  refine own_go (fun t k => XS.aloadN X112.here hx rfl (hb hby d1_8) rfl rfl k) ?_
  show own_G p e below s (own_Q1 Z (3 : Int32) [(.int (c0 &&& (255 : Int32))), (.int (c1 &&& (255 : Int32))), (.int (c2 &&& (255 : Int32)))] n0) 1 3 (T112.setTop (mkF m 9 #[.val (.ref a1), .val (.ref a2), .val (.int (1 : Int32))] [(.ref a2), (.int (1 : Int32))]))
  refine own_go (own_len X112 hx hZ e112 V112 (g := (mkF m 9 #[.val (.ref a1), .val (.ref a2), .val (.int (1 : Int32))] [(.ref a2), (.int (1 : Int32))])) rfl rfl (hb hby d1_9)) ?_
  show own_G p e below s (own_Q1 Z (3 : Int32) [(.int (c0 &&& (255 : Int32))), (.int (c1 &&& (255 : Int32))), (.int (c2 &&& (255 : Int32)))] n0) 1 3 (T112.setTop (mkF m 10 #[.val (.ref a1), .val (.ref a2), .val (.int (1 : Int32))] [(.int (3 : Int32)), (.int (1 : Int32))]))
  refine own_go (fun t k => XS.icmpNo X112.here hx rfl (hb hby d1_10) rfl (XT.ii_ge_f (by decide)) k) ?_
  show own_G p e below s (own_Q1 Z (3 : Int32) [(.int (c0 &&& (255 : Int32))), (.int (c1 &&& (255 : Int32))), (.int (c2 &&& (255 : Int32)))] n0) 1 3 (T112.setTop (mkF m 13 #[.val (.ref a1), .val (.ref a2), .val (.int (1 : Int32))] []))
  refine own_go (fun t k => XS.aloadN X112.here hx rfl (hb hby d1_13) rfl rfl k) ?_
  show own_G p e below s (own_Q1 Z (3 : Int32) [(.int (c0 &&& (255 : Int32))), (.int (c1 &&& (255 : Int32))), (.int (c2 &&& (255 : Int32)))] n0) 1 3 (T112.setTop (mkF m 14 #[.val (.ref a1), .val (.ref a2), .val (.int (1 : Int32))] [(.ref a2)]))
  refine own_go (fun t k => XS.iloadN X112.here hx rfl (hb hby d1_14) rfl k) ?_
  show own_G p e below s (own_Q1 Z (3 : Int32) [(.int (c0 &&& (255 : Int32))), (.int (c1 &&& (255 : Int32))), (.int (c2 &&& (255 : Int32)))] n0) 1 3 (T112.setTop (mkF m 15 #[.val (.ref a1), .val (.ref a2), .val (.int (1 : Int32))] [(.int (1 : Int32)), (.ref a2)]))
  refine own_go (fun t k => XS.aloadN X112.here hx rfl (hb hby d1_15) rfl rfl k) ?_
  show own_G p e below s (own_Q1 Z (3 : Int32) [(.int (c0 &&& (255 : Int32))), (.int (c1 &&& (255 : Int32))), (.int (c2 &&& (255 : Int32)))] n0) 1 3 (T112.setTop (mkF m 16 #[.val (.ref a1), .val (.ref a2), .val (.int (1 : Int32))] [(.ref a1), (.int (1 : Int32)), (.ref a2)]))
  refine own_go (fun t k => XS.iloadN X112.here hx rfl (hb hby d1_16) rfl k) ?_
  show own_G p e below s (own_Q1 Z (3 : Int32) [(.int (c0 &&& (255 : Int32))), (.int (c1 &&& (255 : Int32))), (.int (c2 &&& (255 : Int32)))] n0) 1 3 (T112.setTop (mkF m 17 #[.val (.ref a1), .val (.ref a2), .val (.int (1 : Int32))] [(.int (1 : Int32)), (.ref a1), (.int (1 : Int32)), (.ref a2)]))
  refine own_go (own_ldB X112 hx hZ e112 U112_a1 (j := (1 : Int32)) (v := (.int c1)) ⟨by decide, by decide⟩ rfl (g := (mkF m 17 #[.val (.ref a1), .val (.ref a2), .val (.int (1 : Int32))] [(.int (1 : Int32)), (.ref a1), (.int (1 : Int32)), (.ref a2)])) rfl rfl (hb hby d1_17)) ?_
  show own_G p e below s (own_Q1 Z (3 : Int32) [(.int (c0 &&& (255 : Int32))), (.int (c1 &&& (255 : Int32))), (.int (c2 &&& (255 : Int32)))] n0) 1 3 (T112.setTop (mkF m 18 #[.val (.ref a1), .val (.ref a2), .val (.int (1 : Int32))] [(.int c1), (.int (1 : Int32)), (.ref a2)]))
  obtain ⟨_, _, ⟨T113, L113, k113, n113⟩, -, X113, ⟨Lc113, hQ113, l113, y113, z113⟩, st113⟩ := Jvm.LawKit.callS X112 hx (y := (⟨"com/example/pure_match/purematch/search/CodeCursor", "codeOf", "(B)C"⟩ : MethodName)) hown (mvT hZ (hw _ (List.mem_of_getElem? (i := 7) rfl))) (mvT hZ (hw _ (List.mem_of_getElem? (i := 8) rfl))) (mvT hZ (hw _ (List.mem_of_getElem? (i := 4) rfl))) (mvT hZ (hw _ (List.mem_of_getElem? (i := 9) rfl))) (by decide) (backOf (W := 2) (rm2 l Z a0 hw [] c1 h112) hZ (hw _ (List.mem_of_getElem? (i := 9) rfl)) (hw _ (List.mem_of_getElem? (i := 4) rfl)) (by decide) (by decide)) (g := (mkF m 18 #[.val (.ref a1), .val (.ref a2), .val (.int (1 : Int32))] [(.int c1), (.int (1 : Int32)), (.ref a2)])) rfl (by rw [hml]; rfl) (argsL := [(.int c1)]) (rest := [(.int (1 : Int32)), (.ref a2)]) (lenOf pd2 rfl) rfl (by show 2 * 0 + _ ≤ _; exact Nat.le_of_eq rfl) (hb hby d1_18) (fun _ _ => ⟨rfl, e112, (by decide : 1 + 0 ≤ _), (by decide : 3 + 0 ≤ _)⟩)
  dsimp only [Pt.U, Pt.locs, Pt.cells, Pt.slots] at X113 l113 y113 z113 st113 hQ113
  subst l113 y113 z113
  obtain ⟨rfl, rfl, e113⟩ := hQ113
  refine own_go (st113) ?_
  show own_G p e below s (own_Q1 Z (3 : Int32) [(.int (c0 &&& (255 : Int32))), (.int (c1 &&& (255 : Int32))), (.int (c2 &&& (255 : Int32)))] n0) 1 3 (T113.setTop (mkF m 21 #[.val (.ref a1), .val (.ref a2), .val (.int (1 : Int32))] [(.int (c1 &&& (255 : Int32))), (.int (1 : Int32)), (.ref a2)]))
  obtain ⟨T114, h114, X114, e114, W114, V114, st114⟩ := own_stC X113 hx hZ e113 V112 (j := (1 : Int32)) ⟨by decide, by decide⟩ 1 (by decide) (by simp) (vs' := [(.int (c0 &&& (255 : Int32))), (.int (c1 &&& (255 : Int32))), (.int 0)]) (by rw [own_nar_c]; rfl) (g := (mkF m 21 #[.val (.ref a1), .val (.ref a2), .val (.int (1 : Int32))] [(.int (c1 &&& (255 : Int32))), (.int (1 : Int32)), (.ref a2)])) rfl rfl (hb hby d1_21)
  have N114 := Fr.snoc X114 (Fr.app N112 (Fr.nil n0)) g2
  have U114_a1 := U112_a1.other W114 ne12
  refine own_go st114 ?_
  show own_G p e below s (own_Q1 Z (3 : Int32) [(.int (c0 &&& (255 : Int32))), (.int (c1 &&& (255 : Int32))), (.int (c2 &&& (255 : Int32)))] n0) 1 3 (T114.setTop (mkF m 22 #[.val (.ref a1), .val (.ref a2), .val (.int (1 : Int32))] []))
  refine own_go (fun t k => XS.iinc X114.here hx rfl (hb hby d1_22) rfl (l' := #[.val (.ref a1), .val (.ref a2), .val (.int (2 : Int32))]) rfl k) ?_
  show own_G p e below s (own_Q1 Z (3 : Int32) [(.int (c0 &&& (255 : Int32))), (.int (c1 &&& (255 : Int32))), (.int (c2 &&& (255 : Int32)))] n0) 1 3 (T114.setTop (mkF m 25 #[.val (.ref a1), .val (.ref a2), .val (.int (2 : Int32))] []))
  refine own_go (fun t k => XS.goto X114.here hx rfl (pc0 := 25) (pc' := 7) rfl (hb hby d1_25) (by decide) (by decide) k) ?_
  show own_G p e below s (own_Q1 Z (3 : Int32) [(.int (c0 &&& (255 : Int32))), (.int (c1 &&& (255 : Int32))), (.int (c2 &&& (255 : Int32)))] n0) 1 3 (T114.setTop (mkF m 7 #[.val (.ref a1), .val (.ref a2), .val (.int (2 : Int32))] []))
  refine own_go (fun t k => XS.iloadN X114.here hx rfl (hb hby d1_7) rfl k) ?_
  show own_G p e below s (own_Q1 Z (3 : Int32) [(.int (c0 &&& (255 : Int32))), (.int (c1 &&& (255 : Int32))), (.int (c2 &&& (255 : Int32)))] n0) 1 3 (T114.setTop (mkF m 8 #[.val (.ref a1), .val (.ref a2), .val (.int (2 : Int32))] [(.int (2 : Int32))]))
  refine own_go (fun t k => XS.aloadN X114.here hx rfl (hb hby d1_8) rfl rfl k) ?_
  show own_G p e below s (own_Q1 Z (3 : Int32) [(.int (c0 &&& (255 : Int32))), (.int (c1 &&& (255 : Int32))), (.int (c2 &&& (255 : Int32)))] n0) 1 3 (T114.setTop (mkF m 9 #[.val (.ref a1), .val (.ref a2), .val (.int (2 : Int32))] [(.ref a2), (.int (2 : Int32))]))
  refine own_go (own_len X114 hx hZ e114 V114 (g := (mkF m 9 #[.val (.ref a1), .val (.ref a2), .val (.int (2 : Int32))] [(.ref a2), (.int (2 : Int32))])) rfl rfl (hb hby d1_9)) ?_
  show own_G p e below s (own_Q1 Z (3 : Int32) [(.int (c0 &&& (255 : Int32))), (.int (c1 &&& (255 : Int32))), (.int (c2 &&& (255 : Int32)))] n0) 1 3 (T114.setTop (mkF m 10 #[.val (.ref a1), .val (.ref a2), .val (.int (2 : Int32))] [(.int (3 : Int32)), (.int (2 : Int32))]))
  refine own_go (fun t k => XS.icmpNo X114.here hx rfl (hb hby d1_10) rfl (XT.ii_ge_f (by decide)) k) ?_
  show own_G p e below s (own_Q1 Z (3 : Int32) [(.int (c0 &&& (255 : Int32))), (.int (c1 &&& (255 : Int32))), (.int (c2 &&& (255 : Int32)))] n0) 1 3 (T114.setTop (mkF m 13 #[.val (.ref a1), .val (.ref a2), .val (.int (2 : Int32))] []))
  refine own_go (fun t k => XS.aloadN X114.here hx rfl (hb hby d1_13) rfl rfl k) ?_
  show own_G p e below s (own_Q1 Z (3 : Int32) [(.int (c0 &&& (255 : Int32))), (.int (c1 &&& (255 : Int32))), (.int (c2 &&& (255 : Int32)))] n0) 1 3 (T114.setTop (mkF m 14 #[.val (.ref a1), .val (.ref a2), .val (.int (2 : Int32))] [(.ref a2)]))
  refine own_go (fun t k => XS.iloadN X114.here hx rfl (hb hby d1_14) rfl k) ?_
  show own_G p e below s (own_Q1 Z (3 : Int32) [(.int (c0 &&& (255 : Int32))), (.int (c1 &&& (255 : Int32))), (.int (c2 &&& (255 : Int32)))] n0) 1 3 (T114.setTop (mkF m 15 #[.val (.ref a1), .val (.ref a2), .val (.int (2 : Int32))] [(.int (2 : Int32)), (.ref a2)]))
  refine own_go (fun t k => XS.aloadN X114.here hx rfl (hb hby d1_15) rfl rfl k) ?_
  show own_G p e below s (own_Q1 Z (3 : Int32) [(.int (c0 &&& (255 : Int32))), (.int (c1 &&& (255 : Int32))), (.int (c2 &&& (255 : Int32)))] n0) 1 3 (T114.setTop (mkF m 16 #[.val (.ref a1), .val (.ref a2), .val (.int (2 : Int32))] [(.ref a1), (.int (2 : Int32)), (.ref a2)]))
  refine own_go (fun t k => XS.iloadN X114.here hx rfl (hb hby d1_16) rfl k) ?_
  show own_G p e below s (own_Q1 Z (3 : Int32) [(.int (c0 &&& (255 : Int32))), (.int (c1 &&& (255 : Int32))), (.int (c2 &&& (255 : Int32)))] n0) 1 3 (T114.setTop (mkF m 17 #[.val (.ref a1), .val (.ref a2), .val (.int (2 : Int32))] [(.int (2 : Int32)), (.ref a1), (.int (2 : Int32)), (.ref a2)]))
  refine own_go (own_ldB X114 hx hZ e114 U114_a1 (j := (2 : Int32)) (v := (.int c2)) ⟨by decide, by decide⟩ rfl (g := (mkF m 17 #[.val (.ref a1), .val (.ref a2), .val (.int (2 : Int32))] [(.int (2 : Int32)), (.ref a1), (.int (2 : Int32)), (.ref a2)])) rfl rfl (hb hby d1_17)) ?_
  show own_G p e below s (own_Q1 Z (3 : Int32) [(.int (c0 &&& (255 : Int32))), (.int (c1 &&& (255 : Int32))), (.int (c2 &&& (255 : Int32)))] n0) 1 3 (T114.setTop (mkF m 18 #[.val (.ref a1), .val (.ref a2), .val (.int (2 : Int32))] [(.int c2), (.int (2 : Int32)), (.ref a2)]))
  obtain ⟨_, _, ⟨T115, L115, k115, n115⟩, -, X115, ⟨Lc115, hQ115, l115, y115, z115⟩, st115⟩ := Jvm.LawKit.callS X114 hx (y := (⟨"com/example/pure_match/purematch/search/CodeCursor", "codeOf", "(B)C"⟩ : MethodName)) hown (mvT hZ (hw _ (List.mem_of_getElem? (i := 7) rfl))) (mvT hZ (hw _ (List.mem_of_getElem? (i := 8) rfl))) (mvT hZ (hw _ (List.mem_of_getElem? (i := 4) rfl))) (mvT hZ (hw _ (List.mem_of_getElem? (i := 9) rfl))) (by decide) (backOf (W := 2) (rm2 l Z a0 hw [] c2 h114) hZ (hw _ (List.mem_of_getElem? (i := 9) rfl)) (hw _ (List.mem_of_getElem? (i := 4) rfl)) (by decide) (by decide)) (g := (mkF m 18 #[.val (.ref a1), .val (.ref a2), .val (.int (2 : Int32))] [(.int c2), (.int (2 : Int32)), (.ref a2)])) rfl (by rw [hml]; rfl) (argsL := [(.int c2)]) (rest := [(.int (2 : Int32)), (.ref a2)]) (lenOf pd2 rfl) rfl (by show 2 * 0 + _ ≤ _; exact Nat.le_of_eq rfl) (hb hby d1_18) (fun _ _ => ⟨rfl, e114, (by decide : 1 + 0 ≤ _), (by decide : 3 + 0 ≤ _)⟩)
  dsimp only [Pt.U, Pt.locs, Pt.cells, Pt.slots] at X115 l115 y115 z115 st115 hQ115
  subst l115 y115 z115
  obtain ⟨rfl, rfl, e115⟩ := hQ115
  refine own_go (st115) ?_
  show own_G p e below s (own_Q1 Z (3 : Int32) [(.int (c0 &&& (255 : Int32))), (.int (c1 &&& (255 : Int32))), (.int (c2 &&& (255 : Int32)))] n0) 1 3 (T115.setTop (mkF m 21 #[.val (.ref a1), .val (.ref a2), .val (.int (2 : Int32))] [(.int (c2 &&& (255 : Int32))), (.int (2 : Int32)), (.ref a2)]))
  obtain ⟨T116, h116, X116, e116, W116, V116, st116⟩ := own_stC X115 hx hZ e115 V114 (j := (2 : Int32)) ⟨by decide, by decide⟩ 2 (by decide) (by simp) (vs' := [(.int (c0 &&& (255 : Int32))), (.int (c1 &&& (255 : Int32))), (.int (c2 &&& (255 : Int32)))]) (by rw [own_nar_c]; rfl) (g := (mkF m 21 #[.val (.ref a1), .val (.ref a2), .val (.int (2 : Int32))] [(.int (c2 &&& (255 : Int32))), (.int (2 : Int32)), (.ref a2)])) rfl rfl (hb hby d1_21)
  have N116 := Fr.snoc X116 (Fr.app N114 (Fr.nil n0)) g2
  have U116_a1 := U114_a1.other W116 ne12
  refine own_go st116 ?_
  show own_G p e below s (own_Q1 Z (3 : Int32) [(.int (c0 &&& (255 : Int32))), (.int (c1 &&& (255 : Int32))), (.int (c2 &&& (255 : Int32)))] n0) 1 3 (T116.setTop (mkF m 22 #[.val (.ref a1), .val (.ref a2), .val (.int (2 : Int32))] []))
  refine own_go (fun t k => XS.iinc X116.here hx rfl (hb hby d1_22) rfl (l' := #[.val (.ref a1), .val (.ref a2), .val (.int (3 : Int32))]) rfl k) ?_
  show own_G p e below s (own_Q1 Z (3 : Int32) [(.int (c0 &&& (255 : Int32))), (.int (c1 &&& (255 : Int32))), (.int (c2 &&& (255 : Int32)))] n0) 1 3 (T116.setTop (mkF m 25 #[.val (.ref a1), .val (.ref a2), .val (.int (3 : Int32))] []))
  refine own_go (fun t k => XS.goto X116.here hx rfl (pc0 := 25) (pc' := 7) rfl (hb hby d1_25) (by decide) (by decide) k) ?_
  show own_G p e below s (own_Q1 Z (3 : Int32) [(.int (c0 &&& (255 : Int32))), (.int (c1 &&& (255 : Int32))), (.int (c2 &&& (255 : Int32)))] n0) 1 3 (T116.setTop (mkF m 7 #[.val (.ref a1), .val (.ref a2), .val (.int (3 : Int32))] []))
  refine own_go (fun t k => XS.iloadN X116.here hx rfl (hb hby d1_7) rfl k) ?_
  show own_G p e below s (own_Q1 Z (3 : Int32) [(.int (c0 &&& (255 : Int32))), (.int (c1 &&& (255 : Int32))), (.int (c2 &&& (255 : Int32)))] n0) 1 3 (T116.setTop (mkF m 8 #[.val (.ref a1), .val (.ref a2), .val (.int (3 : Int32))] [(.int (3 : Int32))]))
  refine own_go (fun t k => XS.aloadN X116.here hx rfl (hb hby d1_8) rfl rfl k) ?_
  show own_G p e below s (own_Q1 Z (3 : Int32) [(.int (c0 &&& (255 : Int32))), (.int (c1 &&& (255 : Int32))), (.int (c2 &&& (255 : Int32)))] n0) 1 3 (T116.setTop (mkF m 9 #[.val (.ref a1), .val (.ref a2), .val (.int (3 : Int32))] [(.ref a2), (.int (3 : Int32))]))
  refine own_go (own_len X116 hx hZ e116 V116 (g := (mkF m 9 #[.val (.ref a1), .val (.ref a2), .val (.int (3 : Int32))] [(.ref a2), (.int (3 : Int32))])) rfl rfl (hb hby d1_9)) ?_
  show own_G p e below s (own_Q1 Z (3 : Int32) [(.int (c0 &&& (255 : Int32))), (.int (c1 &&& (255 : Int32))), (.int (c2 &&& (255 : Int32)))] n0) 1 3 (T116.setTop (mkF m 10 #[.val (.ref a1), .val (.ref a2), .val (.int (3 : Int32))] [(.int (3 : Int32)), (.int (3 : Int32))]))
  refine own_go (fun t k => XS.icmpYes X116.here hx rfl (pc0 := 10) (pc' := 28) rfl (hb hby d1_10) rfl (XT.ii_ge_t (by decide)) (by decide) (by decide) k) ?_
  show own_G p e below s (own_Q1 Z (3 : Int32) [(.int (c0 &&& (255 : Int32))), (.int (c1 &&& (255 : Int32))), (.int (c2 &&& (255 : Int32)))] n0) 1 3 (T116.setTop (mkF m 28 #[.val (.ref a1), .val (.ref a2), .val (.int (3 : Int32))] []))
  refine own_go (fun t k => XS.aloadN X116.here hx rfl (hb hby d1_28) rfl rfl k) ?_
  show own_G p e below s (own_Q1 Z (3 : Int32) [(.int (c0 &&& (255 : Int32))), (.int (c1 &&& (255 : Int32))), (.int (c2 &&& (255 : Int32)))] n0) 1 3 (T116.setTop (mkF m 29 #[.val (.ref a1), .val (.ref a2), .val (.int (3 : Int32))] [(.ref a2)]))
  exact own_leave X116 (some (.ref a2)) (fun h => by rw [Bd.returns] at h; cases h) Bd.notSynchronized (fun fs hr => X116.areturnOut hx rfl Bd.returns rfl (hb hby d1_29) hr) (by rw [e116]; exact ⟨a2, cA110, rfl, N116, V116⟩) (by decide) (by decide)
set_option maxRecDepth 65536 in
set_option maxHeartbeats 40000000 in
theorem rm1_4 (l : Launch) (Z : State) (a0 : Array Value) (hw : ∀ d ∈ tables_1, d.before a0 Z = true) (ws : List Jvm.Cond) (a1 : Addr) (kc : ClassId) (c0 c1 c2 c3 : Int32) (h0 : Heap) (n0 : Nat) (Z0 : n0 ≤ h0.size) (F : Arv Z h0 a1 kc .byte (4 : Int32) [(.int c0), (.int c1), (.int c2), (.int c3)] (.int 0)) :
    MetFree l (⟨"com/example/pure_match/purematch/search/CodeCursor", "codesOf", "([B)[C"⟩ : MethodName) (head1 (Jvm.Cond.code (⟨"com/example/pure_match/purematch/search/CodeCursor", "codesOf", "([B)[C"⟩ : MethodName) prog_15_method_2_code 3 (some (.array .char)) :: ws) ({ frames := 1, cells := 1, slots := 4, locals := 14 } : Room)) (fun a U => a = #[(.ref a1)] ∧ Z.Warmed39 U.vm ∧ U.heap = h0) (fun _ _ _ _ _ => True) (fun _ U o U' => ∃ v L, o = .returned v ∧ own_Q1 Z (4 : Int32) [(.int (c0 &&& (255 : Int32))), (.int (c1 &&& (255 : Int32))), (.int (c2 &&& (255 : Int32))), (.int (c3 &&& (255 : Int32)))] n0 v U'.heap L ∧ FrameEnd U o U' L ({ frames := 1, cells := 1, slots := 4, locals := 14 } : Room).cells ({ frames := 1, cells := 1, slots := 4, locals := 14 } : Room).slots) := by
  refine MetFree.of_bodySF (plainFor_of_name pn2) hisR ?_
  intro p e s m args below meth c s₁ Bd hml0 hP hK
  obtain ⟨rfl, hZ, hh⟩ := hP
  have hx := Bd.exec
  have hby := Bd.bytes
  have hml : c.maxLocals = 3 := hml0
  have hown : s.vm.findClass "com/example/pure_match/purematch/search/CodeCursor" = some m.cls := findClass_of_methodNamed Bd.named
  have hnm := (name_of_methodNamed Bd.named Bd.method).1
  have X0 : Stand p l e ({ frames := 1, cells := 1, slots := 4, locals := 14 } : Room) s m #[(.ref a1)] below meth c s₁ [] 0 0 := Stand.of_body Bd
  have e0 : s₁.heap = h0 := by rw [← hh, Bd.state]; rfl
  refine (show own_G p e below s (own_Q1 Z (4 : Int32) [(.int (c0 &&& (255 : Int32))), (.int (c1 &&& (255 : Int32))), (.int (c2 &&& (255 : Int32))), (.int (c3 &&& (255 : Int32)))] n0) 1 4 (s₁.setTop (entryFrame m #[(.ref a1)] 3)) → _ from fun k => k) ?_
  refine own_go (fun t k => castTop (ef1 m a1) k) ?_
  show own_G p e below s (own_Q1 Z (4 : Int32) [(.int (c0 &&& (255 : Int32))), (.int (c1 &&& (255 : Int32))), (.int (c2 &&& (255 : Int32))), (.int (c3 &&& (255 : Int32)))] n0) 1 4 (s₁.setTop (mkF m 0 #[.val (.ref a1), .unset, .unset] []))
  refine own_go (fun t k => XS.aloadN X0.here hx rfl (hb hby d1_0) rfl rfl k) ?_
  show own_G p e below s (own_Q1 Z (4 : Int32) [(.int (c0 &&& (255 : Int32))), (.int (c1 &&& (255 : Int32))), (.int (c2 &&& (255 : Int32))), (.int (c3 &&& (255 : Int32)))] n0) 1 4 (s₁.setTop (mkF m 1 #[.val (.ref a1), .unset, .unset] [(.ref a1)]))
  refine own_go (own_len X0 hx hZ e0 F (g := (mkF m 1 #[.val (.ref a1), .unset, .unset] [(.ref a1)])) rfl rfl (hb hby d1_1)) ?_
  show own_G p e below s (own_Q1 Z (4 : Int32) [(.int (c0 &&& (255 : Int32))), (.int (c1 &&& (255 : Int32))), (.int (c2 &&& (255 : Int32))), (.int (c3 &&& (255 : Int32)))] n0) 1 4 (s₁.setTop (mkF m 2 #[.val (.ref a1), .unset, .unset] [(.int (4 : Int32))]))
  obtain ⟨T117, h117, cA117, X117, e117, E117, A117, st117⟩ := newP X0 hx hZ (hw _ (List.mem_of_getElem? (i := 6) rfl)) e0 (g := (mkF m 2 #[.val (.ref a1), .unset, .unset] [(.int (4 : Int32))])) rfl (hb hby d1_2) rfl (by decide) (cap := 4) (by decide) (by decide) (by decide) (by decide)
  obtain ⟨a2, g117⟩ : ∃ z, z = h0.size := ⟨_, rfl⟩
  rw [← g117] at A117 st117
  have V117 : Arv Z h117 a2 cA117 .char (4 : Int32) [(.int 0), (.int 0), (.int 0), (.int 0)] (.int 0) := (Arv.new A117 (by decide)).pad (pad_rep [] (.int 0) 4)
  refine own_go st117 ?_
  show own_G p e below s (own_Q1 Z (4 : Int32) [(.int (c0 &&& (255 : Int32))), (.int (c1 &&& (255 : Int32))), (.int (c2 &&& (255 : Int32))), (.int (c3 &&& (255 : Int32)))] n0) 1 4 (T117.setTop (mkF m 4 #[.val (.ref a1), .unset, .unset] [(.ref a2)]))
  have g2 : n0 ≤ a2 := Nat.le_trans Z0 (Nat.le_of_eq g117.symm)
  have F1 := F.ext E117
  have ne12 : a1 ≠ a2 := Nat.ne_of_lt (Nat.lt_of_lt_of_le F.lt (Nat.le_of_eq g117.symm))
  refine own_go (fun t k => XS.astoreN X117.here hx rfl (hb hby d1_4) rfl rfl (l' := #[.val (.ref a1), .val (.ref a2), .unset]) rfl k) ?_
  show own_G p e below s (own_Q1 Z (4 : Int32) [(.int (c0 &&& (255 : Int32))), (.int (c1 &&& (255 : Int32))), (.int (c2 &&& (255 : Int32))), (.int (c3 &&& (255 : Int32)))] n0) 1 4 (T117.setTop (mkF m 5 #[.val (.ref a1), .val (.ref a2), .unset] []))
  refine own_go (fun t k => XS.iconst X117.here hx rfl (hb hby d1_5) k) ?_
  show own_G p e below s (own_Q1 Z (4 : Int32) [(.int (c0 &&& (255 : Int32))), (.int (c1 &&& (255 : Int32))), (.int (c2 &&& (255 : Int32))), (.int (c3 &&& (255 : Int32)))] n0) 1 4 (T117.setTop (mkF m 6 #[.val (.ref a1), .val (.ref a2), .unset] [(.int (0 : Int32))]))
  refine own_go (fun t k => XS.istoreN X117.here hx rfl (hb hby d1_6) rfl (l' := #[.val (.ref a1), .val (.ref a2), .val (.int (0 : Int32))]) rfl k) ?_
  show own_G p e below s (own_Q1 Z (4 : Int32) [(.int (c0 &&& (255 : Int32))), (.int (c1 &&& (255 : Int32))), (.int (c2 &&& (255 : Int32))), (.int (c3 &&& (255 : Int32)))] n0) 1 4 (T117.setTop (mkF m 7 #[.val (.ref a1), .val (.ref a2), .val (.int (0 : Int32))] []))
  refine own_go (fun t k => XS.iloadN X117.here hx rfl (hb hby d1_7) rfl k) ?_
  show own_G p e below s (own_Q1 Z (4 : Int32) [(.int (c0 &&& (255 : Int32))), (.int (c1 &&& (255 : Int32))), (.int (c2 &&& (255 : Int32))), (.int (c3 &&& (255 : Int32)))] n0) 1 4 (T117.setTop (mkF m 8 #[.val (.ref a1), .val (.ref a2), .val (.int (0 : Int32))] [(.int (0 : Int32))]))
  refine own_go (fun t k => XS.aloadN X117.here hx rfl (hb hby d1_8) rfl rfl k) ?_
  show own_G p e below s (own_Q1 Z (4 : Int32) [(.int (c0 &&& (255 : Int32))), (.int (c1 &&& (255 : Int32))), (.int (c2 &&& (255 : Int32))), (.int (c3 &&& (255 : Int32)))] n0) 1 4 (T117.setTop (mkF m 9 #[.val (.ref a1), .val (.ref a2), .val (.int (0 : Int32))] [(.ref a2), (.int (0 : Int32))]))
  refine own_go (own_len X117 hx hZ e117 V117 (g := (mkF m 9 #[.val (.ref a1), .val (.ref a2), .val (.int (0 : Int32))] [(.ref a2), (.int (0 : Int32))])) rfl rfl (hb hby d1_9)) ?_
  show own_G p e below s (own_Q1 Z (4 : Int32) [(.int (c0 &&& (255 : Int32))), (.int (c1 &&& (255 : Int32))), (.int (c2 &&& (255 : Int32))), (.int (c3 &&& (255 : Int32)))] n0) 1 4 (T117.setTop (mkF m 10 #[.val (.ref a1), .val (.ref a2), .val (.int (0 : Int32))] [(.int (4 : Int32)), (.int (0 : Int32))]))
  refine own_go (fun t k => XS.icmpNo X117.here hx rfl (hb hby d1_10) rfl (XT.ii_ge_f (by decide)) k) ?_
  show own_G p e below s (own_Q1 Z (4 : Int32) [(.int (c0 &&& (255 : Int32))), (.int (c1 &&& (255 : Int32))), (.int (c2 &&& (255 : Int32))), (.int (c3 &&& (255 : Int32)))] n0) 1 4 (T117.setTop (mkF m 13 #[.val (.ref a1), .val (.ref a2), .val (.int (0 : Int32))] []))
  refine own_go (fun t k => XS.aloadN X117.here hx rfl (hb hby d1_13) rfl rfl k) ?_
  show own_G p e below s (own_Q1 Z (4 : Int32) [(.int (c0 &&& (255 : Int32))), (.int (c1 &&& (255 : Int32))), (.int (c2 &&& (255 : Int32))), (.int (c3 &&& (255 : Int32)))] n0) 1 4 (T117.setTop (mkF m 14 #[.val (.ref a1), .val (.ref a2), .val (.int (0 : Int32))] [(.ref a2)]))
  refine own_go (fun t k => XS.iloadN X117.here hx rfl (hb hby d1_14) rfl k) ?_
  show own_G p e below s (own_Q1 Z (4 : Int32) [(.int (c0 &&& (255 : Int32))), (.int (c1 &&& (255 : Int32))), (.int (c2 &&& (255 : Int32))), (.int (c3 &&& (255 : Int32)))] n0) 1 4 (T117.setTop (mkF m 15 #[.val (.ref a1), .val (.ref a2), .val (.int (0 : Int32))] [(.int (0 : Int32)), (.ref a2)]))
  refine own_go (fun t k => XS.aloadN X117.here hx rfl (hb hby d1_15) rfl rfl k) ?_
  show own_G p e below s (own_Q1 Z (4 : Int32) [(.int (c0 &&& (255 : Int32))), (.int (c1 &&& (255 : Int32))), (.int (c2 &&& (255 : Int32))), (.int (c3 &&& (255 : Int32)))] n0) 1 4 (T117.setTop (mkF m 16 #[.val (.ref a1), .val (.ref a2), .val (.int (0 : Int32))] [(.ref a1), (.int (0 : Int32)), (.ref a2)]))
  refine own_go (fun t k => XS.iloadN X117.here hx rfl (hb hby d1_16) rfl k) ?_
  show own_G p e below s (own_Q1 Z (4 : Int32) [(.int (c0 &&& (255 : Int32))), (.int (c1 &&& (255 : Int32))), (.int (c2 &&& (255 : Int32))), (.int (c3 &&& (255 : Int32)))] n0) 1 4 (T117.setTop (mkF m 17 #[.val (.ref a1), .val (.ref a2), .val (.int (0 : Int32))] [(.int (0 : Int32)), (.ref a1), (.int (0 : Int32)), (.ref a2)]))
  refine own_go (own_ldB X117 hx hZ e117 F1 (j := (0 : Int32)) (v := (.int c0)) ⟨by decide, by decide⟩ rfl (g := (mkF m 17 #[.val (.ref a1), .val (.ref a2), .val (.int (0 : Int32))] [(.int (0 : Int32)), (.ref a1), (.int (0 : Int32)), (.ref a2)])) rfl rfl (hb hby d1_17)) ?_
  show own_G p e below s (own_Q1 Z (4 : Int32) [(.int (c0 &&& (255 : Int32))), (.int (c1 &&& (255 : Int32))), (.int (c2 &&& (255 : Int32))), (.int (c3 &&& (255 : Int32)))] n0) 1 4 (T117.setTop (mkF m 18 #[.val (.ref a1), .val (.ref a2), .val (.int (0 : Int32))] [(.int c0), (.int (0 : Int32)), (.ref a2)]))
  obtain ⟨_, _, ⟨T118, L118, k118, n118⟩, -, X118, ⟨Lc118, hQ118, l118, y118, z118⟩, st118⟩ := Jvm.LawKit.callS X117 hx (y := (⟨"com/example/pure_match/purematch/search/CodeCursor", "codeOf", "(B)C"⟩ : MethodName)) hown (mvT hZ (hw _ (List.mem_of_getElem? (i := 7) rfl))) (mvT hZ (hw _ (List.mem_of_getElem? (i := 8) rfl))) (mvT hZ (hw _ (List.mem_of_getElem? (i := 4) rfl))) (mvT hZ (hw _ (List.mem_of_getElem? (i := 9) rfl))) (by decide) (backOf (W := 2) (rm2 l Z a0 hw [] c0 h117) hZ (hw _ (List.mem_of_getElem? (i := 9) rfl)) (hw _ (List.mem_of_getElem? (i := 4) rfl)) (by decide) (by decide)) (g := (mkF m 18 #[.val (.ref a1), .val (.ref a2), .val (.int (0 : Int32))] [(.int c0), (.int (0 : Int32)), (.ref a2)])) rfl (by rw [hml]; rfl) (argsL := [(.int c0)]) (rest := [(.int (0 : Int32)), (.ref a2)]) (lenOf pd2 rfl) rfl (by show 2 * 0 + _ ≤ _; exact Nat.le_of_eq rfl) (hb hby d1_18) (fun _ _ => ⟨rfl, e117, (by decide : 1 + 0 ≤ _), (by decide : 4 + 0 ≤ _)⟩)
  dsimp only [Pt.U, Pt.locs, Pt.cells, Pt.slots] at X118 l118 y118 z118 st118 hQ118
  subst l118 y118 z118
  obtain ⟨rfl, rfl, e118⟩ := hQ118
  refine own_go (st118) ?_
  show own_G p e below s (own_Q1 Z (4 : Int32) [(.int (c0 &&& (255 : Int32))), (.int (c1 &&& (255 : Int32))), (.int (c2 &&& (255 : Int32))), (.int (c3 &&& (255 : Int32)))] n0) 1 4 (T118.setTop (mkF m 21 #[.val (.ref a1), .val (.ref a2), .val (.int (0 : Int32))] [(.int (c0 &&& (255 : Int32))), (.int (0 : Int32)), (.ref a2)]))
  obtain ⟨T119, h119, X119, e119, W119, V119, st119⟩ := own_stC X118 hx hZ e118 V117 (j := (0 : Int32)) ⟨by decide, by decide⟩ 0 (by decide) (by simp) (vs' := [(.int (c0 &&& (255 : Int32))), (.int 0), (.int 0), (.int 0)]) (by rw [own_nar_c]; rfl) (g := (mkF m 21 #[.val (.ref a1), .val (.ref a2), .val (.int (0 : Int32))] [(.int (c0 &&& (255 : Int32))), (.int (0 : Int32)), (.ref a2)])) rfl rfl (hb hby d1_21)
  have N119 := Fr.snoc X119 (Fr.app (Fr.nil n0) (Fr.nil n0)) g2
  have U119_a1 := F1.other W119 ne12
  refine own_go st119 ?_
  show own_G p e below s (own_Q1 Z (4 : Int32) [(.int (c0 &&& (255 : Int32))), (.int (c1 &&& (255 : Int32))), (.int (c2 &&& (255 : Int32))), (.int (c3 &&& (255 : Int32)))] n0) 1 4 (T119.setTop (mkF m 22 #[.val (.ref a1), .val (.ref a2), .val (.int (0 : Int32))] []))
  refine own_go (fun t k => XS.iinc X119.here hx rfl (hb hby d1_22) rfl (l' := #[.val (.ref a1), .val (.ref a2), .val (.int (1 : Int32))]) rfl k) ?_
  show own_G p e below s (own_Q1 Z (4 : Int32) [(.int (c0 &&& (255 : Int32))), (.int (c1 &&& (255 : Int32))), (.int (c2 &&& (255 : Int32))), (.int (c3 &&& (255 : Int32)))] n0) 1 4 (T119.setTop (mkF m 25 #[.val (.ref a1), .val (.ref a2), .val (.int (1 : Int32))] []))
  refine own_go (fun t k => XS.goto X119.here hx rfl (pc0 := 25) (pc' := 7) rfl (hb hby d1_25) (by decide) (by decide) k) ?_
  show own_G p e below s (own_Q1 Z (4 : Int32) [(.int (c0 &&& (255 : Int32))), (.int (c1 &&& (255 : Int32))), (.int (c2 &&& (255 : Int32))), (.int (c3 &&& (255 : Int32)))] n0) 1 4 (T119.setTop (mkF m 7 #[.val (.ref a1), .val (.ref a2), .val (.int (1 : Int32))] []))
  refine own_go (fun t k => XS.iloadN X119.here hx rfl (hb hby d1_7) rfl k) ?_
  show own_G p e below s (own_Q1 Z (4 : Int32) [(.int (c0 &&& (255 : Int32))), (.int (c1 &&& (255 : Int32))), (.int (c2 &&& (255 : Int32))), (.int (c3 &&& (255 : Int32)))] n0) 1 4 (T119.setTop (mkF m 8 #[.val (.ref a1), .val (.ref a2), .val (.int (1 : Int32))] [(.int (1 : Int32))]))
  refine own_go (fun t k => XS.aloadN X119.here hx rfl (hb hby d1_8) rfl rfl k) ?_
  show own_G p e below s (own_Q1 Z (4 : Int32) [(.int (c0 &&& (255 : Int32))), (.int (c1 &&& (255 : Int32))), (.int (c2 &&& (255 : Int32))), (.int (c3 &&& (255 : Int32)))] n0) 1 4 (T119.setTop (mkF m 9 #[.val (.ref a1), .val (.ref a2), .val (.int (1 : Int32))] [(.ref a2), (.int (1 : Int32))]))
  refine own_go (own_len X119 hx hZ e119 V119 (g := (mkF m 9 #[.val (.ref a1), .val (.ref a2), .val (.int (1 : Int32))] [(.ref a2), (.int (1 : Int32))])) rfl rfl (hb hby d1_9)) ?_
  show own_G p e below s (own_Q1 Z (4 : Int32) [(.int (c0 &&& (255 : Int32))), (.int (c1 &&& (255 : Int32))), (.int (c2 &&& (255 : Int32))), (.int (c3 &&& (255 : Int32)))] n0) 1 4 (T119.setTop (mkF m 10 #[.val (.ref a1), .val (.ref a2), .val (.int (1 : Int32))] [(.int (4 : Int32)), (.int (1 : Int32))]))
  refine own_go (fun t k => XS.icmpNo X119.here hx rfl (hb hby d1_10) rfl (XT.ii_ge_f (by decide)) k) ?_
  show own_G p e below s (own_Q1 Z (4 : Int32) [(.int (c0 &&& (255 : Int32))), (.int (c1 &&& (255 : Int32))), (.int (c2 &&& (255 : Int32))), (.int (c3 &&& (255 : Int32)))] n0) 1 4 (T119.setTop (mkF m 13 #[.val (.ref a1), .val (.ref a2), .val (.int (1 : Int32))] []))
  refine own_go (fun t k => XS.aloadN X119.here hx rfl (hb hby d1_13) rfl rfl k) ?_
  show own_G p e below s (own_Q1 Z (4 : Int32) [(.int (c0 &&& (255 : Int32))), (.int (c1 &&& (255 : Int32))), (.int (c2 &&& (255 : Int32))), (.int (c3 &&& (255 : Int32)))] n0) 1 4 (T119.setTop (mkF m 14 #[.val (.ref a1), .val (.ref a2), .val (.int (1 : Int32))] [(.ref a2)]))
  refine own_go (fun t k => XS.iloadN X119.here hx rfl (hb hby d1_14) rfl k) ?_
  show own_G p e below s (own_Q1 Z (4 : Int32) [(.int (c0 &&& (255 : Int32))), (.int (c1 &&& (255 : Int32))), (.int (c2 &&& (255 : Int32))), (.int (c3 &&& (255 : Int32)))] n0) 1 4 (T119.setTop (mkF m 15 #[.val (.ref a1), .val (.ref a2), .val (.int (1 : Int32))] [(.int (1 : Int32)), (.ref a2)]))
  refine own_go (fun t k => XS.aloadN X119.here hx rfl (hb hby d1_15) rfl rfl k) ?_
  show own_G p e below s (own_Q1 Z (4 : Int32) [(.int (c0 &&& (255 : Int32))), (.int (c1 &&& (255 : Int32))), (.int (c2 &&& (255 : Int32))), (.int (c3 &&& (255 : Int32)))] n0) 1 4 (T119.setTop (mkF m 16 #[.val (.ref a1), .val (.ref a2), .val (.int (1 : Int32))] [(.ref a1), (.int (1 : Int32)), (.ref a2)]))
  refine own_go (fun t k => XS.iloadN X119.here hx rfl (hb hby d1_16) rfl k) ?_
  show own_G p e below s (own_Q1 Z (4 : Int32) [(.int (c0 &&& (255 : Int32))), (.int (c1 &&& (255 : Int32))), (.int (c2 &&& (255 : Int32))), (.int (c3 &&& (255 : Int32)))] n0) 1 4 (T119.setTop (mkF m 17 #[.val (.ref a1), .val (.ref a2), .val (.int (1 : Int32))] [(.int (1 : Int32)), (.ref a1), (.int (1 : Int32)), (.ref a2)]))
  refine own_go (own_ldB X119 hx hZ e119 U119_a1 (j := (1 : Int32)) (v := (.int c1)) ⟨by decide, by decide⟩ rfl (g := (mkF m 17 #[.val (.ref a1), .val (.ref a2), .val (.int (1 : Int32))] [(.int (1 : Int32)), (.ref a1), (.int (1 : Int32)), (.ref a2)])) rfl rfl (hb hby d1_17)) ?_
  show own_G p e below s (own_Q1 Z (4 : Int32) [(.int (c0 &&& (255 : Int32))), (.int (c1 &&& (255 : Int32))), (.int (c2 &&& (255 : Int32))), (.int (c3 &&& (255 : Int32)))] n0) 1 4 (T119.setTop (mkF m 18 #[.val (.ref a1), .val (.ref a2), .val (.int (1 : Int32))] [(.int c1), (.int (1 : Int32)), (.ref a2)]))
  obtain ⟨_, _, ⟨T120, L120, k120, n120⟩, -, X120, ⟨Lc120, hQ120, l120, y120, z120⟩, st120⟩ := Jvm.LawKit.callS X119 hx (y := (⟨"com/example/pure_match/purematch/search/CodeCursor", "codeOf", "(B)C"⟩ : MethodName)) hown (mvT hZ (hw _ (List.mem_of_getElem? (i := 7) rfl))) (mvT hZ (hw _ (List.mem_of_getElem? (i := 8) rfl))) (mvT hZ (hw _ (List.mem_of_getElem? (i := 4) rfl))) (mvT hZ (hw _ (List.mem_of_getElem? (i := 9) rfl))) (by decide) (backOf (W := 2) (rm2 l Z a0 hw [] c1 h119) hZ (hw _ (List.mem_of_getElem? (i := 9) rfl)) (hw _ (List.mem_of_getElem? (i := 4) rfl)) (by decide) (by decide)) (g := (mkF m 18 #[.val (.ref a1), .val (.ref a2), .val (.int (1 : Int32))] [(.int c1), (.int (1 : Int32)), (.ref a2)])) rfl (by rw [hml]; rfl) (argsL := [(.int c1)]) (rest := [(.int (1 : Int32)), (.ref a2)]) (lenOf pd2 rfl) rfl (by show 2 * 0 + _ ≤ _; exact Nat.le_of_eq rfl) (hb hby d1_18) (fun _ _ => ⟨rfl, e119, (by decide : 1 + 0 ≤ _), (by decide : 4 + 0 ≤ _)⟩)
  dsimp only [Pt.U, Pt.locs, Pt.cells, Pt.slots] at X120 l120 y120 z120 st120 hQ120
  subst l120 y120 z120
  obtain ⟨rfl, rfl, e120⟩ := hQ120
  refine own_go (st120) ?_
  show own_G p e below s (own_Q1 Z (4 : Int32) [(.int (c0 &&& (255 : Int32))), (.int (c1 &&& (255 : Int32))), (.int (c2 &&& (255 : Int32))), (.int (c3 &&& (255 : Int32)))] n0) 1 4 (T120.setTop (mkF m 21 #[.val (.ref a1), .val (.ref a2), .val (.int (1 : Int32))] [(.int (c1 &&& (255 : Int32))), (.int (1 : Int32)), (.ref a2)]))
  obtain ⟨T121, h121, X121, e121, W121, V121, st121⟩ := own_stC X120 hx hZ e120 V119 (j := (1 : Int32)) ⟨by decide, by decide⟩ 1 (by decide) (by simp) (vs' := [(.int (c0 &&& (255 : Int32))), (.int (c1 &&& (255 : Int32))), (.int 0), (.int 0)]) (by rw [own_nar_c]; rfl) (g := (mkF m 21 #[.val (.ref a1), .val (.ref a2), .val (.int (1 : Int32))] [(.int (c1 &&& (255 : Int32))), (.int (1 : Int32)), (.ref a2)])) rfl rfl (hb hby d1_21)
  have N121 := Fr.snoc X121 (Fr.app N119 (Fr.nil n0)) g2
  have U121_a1 := U119_a1.other W121 ne12
  refine own_go st121 ?_
  show own_G p e below s (own_Q1 Z (4 : Int32) [(.int (c0 &&& (255 : Int32))), (.int (c1 &&& (255 : Int32))), (.int (c2 &&& (255 : Int32))), (.int (c3 &&& (255 : Int32)))] n0) 1 4 (T121.setTop (mkF m 22 #[.val (.ref a1), .val (.ref a2), .val (.int (1 : Int32))] []))
  refine own_go (fun t k => XS.iinc X121.here hx rfl (hb hby d1_22) rfl (l' := #[.val (.ref a1), .val (.ref a2), .val (.int (2 : Int32))]) rfl k) ?_
  show own_G p e below s (own_Q1 Z (4 : Int32) [(.int (c0 &&& (255 : Int32))), (.int (c1 &&& (255 : Int32))), (.int (c2 &&& (255 : Int32))), (.int (c3 &&& (255 : Int32)))] n0) 1 4 (T121.setTop (mkF m 25 #[.val (.ref a1), .val (.ref a2), .val (.int (2 : Int32))] []))
  refine own_go (fun t k => XS.goto X121.here hx rfl (pc0 := 25) (pc' := 7) rfl (hb hby d1_25) (by decide) (by decide) k) ?_
  show own_G p e below s (own_Q1 Z (4 : Int32) [(.int (c0 &&& (255 : Int32))), (.int (c1 &&& (255 : Int32))), (.int (c2 &&& (255 : Int32))), (.int (c3 &&& (255 : Int32)))] n0) 1 4 (T121.setTop (mkF m 7 #[.val (.ref a1), .val (.ref a2), .val (.int (2 : Int32))] []))
  refine own_go (fun t k => XS.iloadN X121.here hx rfl (hb hby d1_7) rfl k) ?_
  show own_G p e below s (own_Q1 Z (4 : Int32) [(.int (c0 &&& (255 : Int32))), (.int (c1 &&& (255 : Int32))), (.int (c2 &&& (255 : Int32))), (.int (c3 &&& (255 : Int32)))] n0) 1 4 (T121.setTop (mkF m 8 #[.val (.ref a1), .val (.ref a2), .val (.int (2 : Int32))] [(.int (2 : Int32))]))
  refine own_go (fun t k => XS.aloadN X121.here hx rfl (hb hby d1_8) rfl rfl k) ?_
  show own_G p e below s (own_Q1 Z (4 : Int32) [(.int (c0 &&& (255 : Int32))), (.int (c1 &&& (255 : Int32))), (.int (c2 &&& (255 : Int32))), (.int (c3 &&& (255 : Int32)))] n0) 1 4 (T121.setTop (mkF m 9 #[.val (.ref a1), .val (.ref a2), .val (.int (2 : Int32))] [(.ref a2), (.int (2 : Int32))]))
  refine own_go (own_len X121 hx hZ e121 V121 (g := (mkF m 9 #[.val (.ref a1), .val (.ref a2), .val (.int (2 : Int32))] [(.ref a2), (.int (2 : Int32))])) rfl rfl (hb hby d1_9)) ?_
  show own_G p e below s (own_Q1 Z (4 : Int32) [(.int (c0 &&& (255 : Int32))), (.int (c1 &&& (255 : Int32))), (.int (c2 &&& (255 : Int32))), (.int (c3 &&& (255 : Int32)))] n0) 1 4 (T121.setTop (mkF m 10 #[.val (.ref a1), .val (.ref a2), .val (.int (2 : Int32))] [(.int (4 : Int32)), (.int (2 : Int32))]))
  refine own_go (fun t k => XS.icmpNo X121.here hx rfl (hb hby d1_10) rfl (XT.ii_ge_f (by decide)) k) ?_
  show own_G p e below s (own_Q1 Z (4 : Int32) [(.int (c0 &&& (255 : Int32))), (.int (c1 &&& (255 : Int32))), (.int (c2 &&& (255 : Int32))), (.int (c3 &&& (255 : Int32)))] n0) 1 4 (T121.setTop (mkF m 13 #[.val (.ref a1), .val (.ref a2), .val (.int (2 : Int32))] []))
  refine own_go (fun t k => XS.aloadN X121.here hx rfl (hb hby d1_13) rfl rfl k) ?_
  show own_G p e below s (own_Q1 Z (4 : Int32) [(.int (c0 &&& (255 : Int32))), (.int (c1 &&& (255 : Int32))), (.int (c2 &&& (255 : Int32))), (.int (c3 &&& (255 : Int32)))] n0) 1 4 (T121.setTop (mkF m 14 #[.val (.ref a1), .val (.ref a2), .val (.int (2 : Int32))] [(.ref a2)]))
  refine own_go (fun t k => XS.iloadN X121.here hx rfl (hb hby d1_14) rfl k) ?_
  show own_G p e below s (own_Q1 Z (4 : Int32) [(.int (c0 &&& (255 : Int32))), (.int (c1 &&& (255 : Int32))), (.int (c2 &&& (255 : Int32))), (.int (c3 &&& (255 : Int32)))] n0) 1 4 (T121.setTop (mkF m 15 #[.val (.ref a1), .val (.ref a2), .val (.int (2 : Int32))] [(.int (2 : Int32)), (.ref a2)]))
  refine own_go (fun t k => XS.aloadN X121.here hx rfl (hb hby d1_15) rfl rfl k) ?_
  show own_G p e below s (own_Q1 Z (4 : Int32) [(.int (c0 &&& (255 : Int32))), (.int (c1 &&& (255 : Int32))), (.int (c2 &&& (255 : Int32))), (.int (c3 &&& (255 : Int32)))] n0) 1 4 (T121.setTop (mkF m 16 #[.val (.ref a1), .val (.ref a2), .val (.int (2 : Int32))] [(.ref a1), (.int (2 : Int32)), (.ref a2)]))
  refine own_go (fun t k => XS.iloadN X121.here hx rfl (hb hby d1_16) rfl k) ?_
  show own_G p e below s (own_Q1 Z (4 : Int32) [(.int (c0 &&& (255 : Int32))), (.int (c1 &&& (255 : Int32))), (.int (c2 &&& (255 : Int32))), (.int (c3 &&& (255 : Int32)))] n0) 1 4 (T121.setTop (mkF m 17 #[.val (.ref a1), .val (.ref a2), .val (.int (2 : Int32))] [(.int (2 : Int32)), (.ref a1), (.int (2 : Int32)), (.ref a2)]))
  refine own_go (own_ldB X121 hx hZ e121 U121_a1 (j := (2 : Int32)) (v := (.int c2)) ⟨by decide, by decide⟩ rfl (g := (mkF m 17 #[.val (.ref a1), .val (.ref a2), .val (.int (2 : Int32))] [(.int (2 : Int32)), (.ref a1), (.int (2 : Int32)), (.ref a2)])) rfl rfl (hb hby d1_17)) ?_
  show own_G p e below s (own_Q1 Z (4 : Int32) [(.int (c0 &&& (255 : Int32))), (.int (c1 &&& (255 : Int32))), (.int (c2 &&& (255 : Int32))), (.int (c3 &&& (255 : Int32)))] n0) 1 4 (T121.setTop (mkF m 18 #[.val (.ref a1), .val (.ref a2), .val (.int (2 : Int32))] [(.int c2), (.int (2 : Int32)), (.ref a2)]))
  obtain ⟨_, _, ⟨T122, L122, k122, n122⟩, -, X122, ⟨Lc122, hQ122, l122, y122, z122⟩, st122⟩ := Jvm.LawKit.callS X121 hx (y := (⟨"com/example/pure_match/purematch/search/CodeCursor", "codeOf", "(B)C"⟩ : MethodName)) hown (mvT hZ (hw _ (List.mem_of_getElem? (i := 7) rfl))) (mvT hZ (hw _ (List.mem_of_getElem? (i := 8) rfl))) (mvT hZ (hw _ (List.mem_of_getElem? (i := 4) rfl))) (mvT hZ (hw _ (List.mem_of_getElem? (i := 9) rfl))) (by decide) (backOf (W := 2) (rm2 l Z a0 hw [] c2 h121) hZ (hw _ (List.mem_of_getElem? (i := 9) rfl)) (hw _ (List.mem_of_getElem? (i := 4) rfl)) (by decide) (by decide)) (g := (mkF m 18 #[.val (.ref a1), .val (.ref a2), .val (.int (2 : Int32))] [(.int c2), (.int (2 : Int32)), (.ref a2)])) rfl (by rw [hml]; rfl) (argsL := [(.int c2)]) (rest := [(.int (2 : Int32)), (.ref a2)]) (lenOf pd2 rfl) rfl (by show 2 * 0 + _ ≤ _; exact Nat.le_of_eq rfl) (hb hby d1_18) (fun _ _ => ⟨rfl, e121, (by decide : 1 + 0 ≤ _), (by decide : 4 + 0 ≤ _)⟩)
  dsimp only [Pt.U, Pt.locs, Pt.cells, Pt.slots] at X122 l122 y122 z122 st122 hQ122
  subst l122 y122 z122
  obtain ⟨rfl, rfl, e122⟩ := hQ122
  refine own_go (st122) ?_
  show own_G p e below s (own_Q1 Z (4 : Int32) [(.int (c0 &&& (255 : Int32))), (.int (c1 &&& (255 : Int32))), (.int (c2 &&& (255 : Int32))), (.int (c3 &&& (255 : Int32)))] n0) 1 4 (T122.setTop (mkF m 21 #[.val (.ref a1), .val (.ref a2), .val (.int (2 : Int32))] [(.int (c2 &&& (255 : Int32))), (.int (2 : Int32)), (.ref a2)]))
  obtain ⟨T123, h123, X123, e123, W123, V123, st123⟩ := own_stC X122 hx hZ e122 V121 (j := (2 : Int32)) ⟨by decide, by decide⟩ 2 (by decide) (by simp) (vs' := [(.int (c0 &&& (255 : Int32))), (.int (c1 &&& (255 : Int32))), (.int (c2 &&& (255 : Int32))), (.int 0)]) (by rw [own_nar_c]; rfl) (g := (mkF m 21 #[.val (.ref a1), .val (.ref a2), .val (.int (2 : Int32))] [(.int (c2 &&& (255 : Int32))), (.int (2 : Int32)), (.ref a2)])) rfl rfl (hb hby d1_21)
  have N123 := Fr.snoc X123 (Fr.app N121 (Fr.nil n0)) g2
  have U123_a1 := U121_a1.other W123 ne12
  refine own_go st123 ?_
  show own_G p e below s (own_Q1 Z (4 : Int32) [(.int (c0 &&& (255 : Int32))), (.int (c1 &&& (255 : Int32))), (.int (c2 &&& (255 : Int32))), (.int (c3 &&& (255 : Int32)))] n0) 1 4 (T123.setTop (mkF m 22 #[.val (.ref a1), .val (.ref a2), .val (.int (2 : Int32))] []))
  refine own_go (fun t k => XS.iinc X123.here hx rfl (hb hby d1_22) rfl (l' := #[.val (.ref a1), .val (.ref a2), .val (.int (3 : Int32))]) rfl k) ?_
  show own_G p e below s (own_Q1 Z (4 : Int32) [(.int (c0 &&& (255 : Int32))), (.int (c1 &&& (255 : Int32))), (.int (c2 &&& (255 : Int32))), (.int (c3 &&& (255 : Int32)))] n0) 1 4 (T123.setTop (mkF m 25 #[.val (.ref a1), .val (.ref a2), .val (.int (3 : Int32))] []))
  refine own_go (fun t k => XS.goto X123.here hx rfl (pc0 := 25) (pc' := 7) rfl (hb hby d1_25) (by decide) (by decide) k) ?_
  show own_G p e below s (own_Q1 Z (4 : Int32) [(.int (c0 &&& (255 : Int32))), (.int (c1 &&& (255 : Int32))), (.int (c2 &&& (255 : Int32))), (.int (c3 &&& (255 : Int32)))] n0) 1 4 (T123.setTop (mkF m 7 #[.val (.ref a1), .val (.ref a2), .val (.int (3 : Int32))] []))
  refine own_go (fun t k => XS.iloadN X123.here hx rfl (hb hby d1_7) rfl k) ?_
  show own_G p e below s (own_Q1 Z (4 : Int32) [(.int (c0 &&& (255 : Int32))), (.int (c1 &&& (255 : Int32))), (.int (c2 &&& (255 : Int32))), (.int (c3 &&& (255 : Int32)))] n0) 1 4 (T123.setTop (mkF m 8 #[.val (.ref a1), .val (.ref a2), .val (.int (3 : Int32))] [(.int (3 : Int32))]))
  refine own_go (fun t k => XS.aloadN X123.here hx rfl (hb hby d1_8) rfl rfl k) ?_
  show own_G p e below s (own_Q1 Z (4 : Int32) [(.int (c0 &&& (255 : Int32))), (.int (c1 &&& (255 : Int32))), (.int (c2 &&& (255 : Int32))), (.int (c3 &&& (255 : Int32)))] n0) 1 4 (T123.setTop (mkF m 9 #[.val (.ref a1), .val (.ref a2), .val (.int (3 : Int32))] [(.ref a2), (.int (3 : Int32))]))
  refine own_go (own_len X123 hx hZ e123 V123 (g := (mkF m 9 #[.val (.ref a1), .val (.ref a2), .val (.int (3 : Int32))] [(.ref a2), (.int (3 : Int32))])) rfl rfl (hb hby d1_9)) ?_
  show own_G p e below s (own_Q1 Z (4 : Int32) [(.int (c0 &&& (255 : Int32))), (.int (c1 &&& (255 : Int32))), (.int (c2 &&& (255 : Int32))), (.int (c3 &&& (255 : Int32)))] n0) 1 4 (T123.setTop (mkF m 10 #[.val (.ref a1), .val (.ref a2), .val (.int (3 : Int32))] [(.int (4 : Int32)), (.int (3 : Int32))]))
  refine own_go (fun t k => XS.icmpNo X123.here hx rfl (hb hby d1_10) rfl (XT.ii_ge_f (by decide)) k) ?_
  show own_G p e below s (own_Q1 Z (4 : Int32) [(.int (c0 &&& (255 : Int32))), (.int (c1 &&& (255 : Int32))), (.int (c2 &&& (255 : Int32))), (.int (c3 &&& (255 : Int32)))] n0) 1 4 (T123.setTop (mkF m 13 #[.val (.ref a1), .val (.ref a2), .val (.int (3 : Int32))] []))
  refine own_go (fun t k => XS.aloadN X123.here hx rfl (hb hby d1_13) rfl rfl k) ?_
  show own_G p e below s (own_Q1 Z (4 : Int32) [(.int (c0 &&& (255 : Int32))), (.int (c1 &&& (255 : Int32))), (.int (c2 &&& (255 : Int32))), (.int (c3 &&& (255 : Int32)))] n0) 1 4 (T123.setTop (mkF m 14 #[.val (.ref a1), .val (.ref a2), .val (.int (3 : Int32))] [(.ref a2)]))
  refine own_go (fun t k => XS.iloadN X123.here hx rfl (hb hby d1_14) rfl k) ?_
  show own_G p e below s (own_Q1 Z (4 : Int32) [(.int (c0 &&& (255 : Int32))), (.int (c1 &&& (255 : Int32))), (.int (c2 &&& (255 : Int32))), (.int (c3 &&& (255 : Int32)))] n0) 1 4 (T123.setTop (mkF m 15 #[.val (.ref a1), .val (.ref a2), .val (.int (3 : Int32))] [(.int (3 : Int32)), (.ref a2)]))
  refine own_go (fun t k => XS.aloadN X123.here hx rfl (hb hby d1_15) rfl rfl k) ?_
  show own_G p e below s (own_Q1 Z (4 : Int32) [(.int (c0 &&& (255 : Int32))), (.int (c1 &&& (255 : Int32))), (.int (c2 &&& (255 : Int32))), (.int (c3 &&& (255 : Int32)))] n0) 1 4 (T123.setTop (mkF m 16 #[.val (.ref a1), .val (.ref a2), .val (.int (3 : Int32))] [(.ref a1), (.int (3 : Int32)), (.ref a2)]))
  refine own_go (fun t k => XS.iloadN X123.here hx rfl (hb hby d1_16) rfl k) ?_
  show own_G p e below s (own_Q1 Z (4 : Int32) [(.int (c0 &&& (255 : Int32))), (.int (c1 &&& (255 : Int32))), (.int (c2 &&& (255 : Int32))), (.int (c3 &&& (255 : Int32)))] n0) 1 4 (T123.setTop (mkF m 17 #[.val (.ref a1), .val (.ref a2), .val (.int (3 : Int32))] [(.int (3 : Int32)), (.ref a1), (.int (3 : Int32)), (.ref a2)]))
  refine own_go (own_ldB X123 hx hZ e123 U123_a1 (j := (3 : Int32)) (v := (.int c3)) ⟨by decide, by decide⟩ rfl (g := (mkF m 17 #[.val (.ref a1), .val (.ref a2), .val (.int (3 : Int32))] [(.int (3 : Int32)), (.ref a1), (.int (3 : Int32)), (.ref a2)])) rfl rfl (hb hby d1_17)) ?_
  show own_G p e below s (own_Q1 Z (4 : Int32) [(.int (c0 &&& (255 : Int32))), (.int (c1 &&& (255 : Int32))), (.int (c2 &&& (255 : Int32))), (.int (c3 &&& (255 : Int32)))] n0) 1 4 (T123.setTop (mkF m 18 #[.val (.ref a1), .val (.ref a2), .val (.int (3 : Int32))] [(.int c3), (.int (3 : Int32)), (.ref a2)]))
  obtain ⟨_, _, ⟨T124, L124, k124, n124⟩, -, X124, ⟨Lc124, hQ124, l124, y124, z124⟩, st124⟩ := Jvm.LawKit.callS X123 hx (y := (⟨"com/example/pure_match/purematch/search/CodeCursor", "codeOf", "(B)C"⟩ : MethodName)) hown (mvT hZ (hw _ (List.mem_of_getElem? (i := 7) rfl))) (mvT hZ (hw _ (List.mem_of_getElem? (i := 8) rfl))) (mvT hZ (hw _ (List.mem_of_getElem? (i := 4) rfl))) (mvT hZ (hw _ (List.mem_of_getElem? (i := 9) rfl))) (by decide) (backOf (W := 2) (rm2 l Z a0 hw [] c3 h123) hZ (hw _ (List.mem_of_getElem? (i := 9) rfl)) (hw _ (List.mem_of_getElem? (i := 4) rfl)) (by decide) (by decide)) (g := (mkF m 18 #[.val (.ref a1), .val (.ref a2), .val (.int (3 : Int32))] [(.int c3), (.int (3 : Int32)), (.ref a2)])) rfl (by rw [hml]; rfl) (argsL := [(.int c3)]) (rest := [(.int (3 : Int32)), (.ref a2)]) (lenOf pd2 rfl) rfl (by show 2 * 0 + _ ≤ _; exact Nat.le_of_eq rfl) (hb hby d1_18) (fun _ _ => ⟨rfl, e123, (by decide : 1 + 0 ≤ _), (by decide : 4 + 0 ≤ _)⟩)
  dsimp only [Pt.U, Pt.locs, Pt.cells, Pt.slots] at X124 l124 y124 z124 st124 hQ124
  subst l124 y124 z124
  obtain ⟨rfl, rfl, e124⟩ := hQ124
  refine own_go (st124) ?_
  show own_G p e below s (own_Q1 Z (4 : Int32) [(.int (c0 &&& (255 : Int32))), (.int (c1 &&& (255 : Int32))), (.int (c2 &&& (255 : Int32))), (.int (c3 &&& (255 : Int32)))] n0) 1 4 (T124.setTop (mkF m 21 #[.val (.ref a1), .val (.ref a2), .val (.int (3 : Int32))] [(.int (c3 &&& (255 : Int32))), (.int (3 : Int32)), (.ref a2)]))
  obtain ⟨T125, h125, X125, e125, W125, V125, st125⟩ := own_stC X124 hx hZ e124 V123 (j := (3 : Int32)) ⟨by decide, by decide⟩ 3 (by decide) (by simp) (vs' := [(.int (c0 &&& (255 : Int32))), (.int (c1 &&& (255 : Int32))), (.int (c2 &&& (255 : Int32))), (.int (c3 &&& (255 : Int32)))]) (by rw [own_nar_c]; rfl) (g := (mkF m 21 #[.val (.ref a1), .val (.ref a2), .val (.int (3 : Int32))] [(.int (c3 &&& (255 : Int32))), (.int (3 : Int32)), (.ref a2)])) rfl rfl (hb hby d1_21)
  have N125 := Fr.snoc X125 (Fr.app N123 (Fr.nil n0)) g2
  have U125_a1 := U123_a1.other W125 ne12
  refine own_go st125 ?_
  show own_G p e below s (own_Q1 Z (4 : Int32) [(.int (c0 &&& (255 : Int32))), (.int (c1 &&& (255 : Int32))), (.int (c2 &&& (255 : Int32))), (.int (c3 &&& (255 : Int32)))] n0) 1 4 (T125.setTop (mkF m 22 #[.val (.ref a1), .val (.ref a2), .val (.int (3 : Int32))] []))
  refine own_go (fun t k => XS.iinc X125.here hx rfl (hb hby d1_22) rfl (l' := #[.val (.ref a1), .val (.ref a2), .val (.int (4 : Int32))]) rfl k) ?_
  show own_G p e below s (own_Q1 Z (4 : Int32) [(.int (c0 &&& (255 : Int32))), (.int (c1 &&& (255 : Int32))), (.int (c2 &&& (255 : Int32))), (.int (c3 &&& (255 : Int32)))] n0) 1 4 (T125.setTop (mkF m 25 #[.val (.ref a1), .val (.ref a2), .val (.int (4 : Int32))] []))
  refine own_go (fun t k => XS.goto X125.here hx rfl (pc0 := 25) (pc' := 7) rfl (hb hby d1_25) (by decide) (by decide) k) ?_
  show own_G p e below s (own_Q1 Z (4 : Int32) [(.int (c0 &&& (255 : Int32))), (.int (c1 &&& (255 : Int32))), (.int (c2 &&& (255 : Int32))), (.int (c3 &&& (255 : Int32)))] n0) 1 4 (T125.setTop (mkF m 7 #[.val (.ref a1), .val (.ref a2), .val (.int (4 : Int32))] []))
  refine own_go (fun t k => XS.iloadN X125.here hx rfl (hb hby d1_7) rfl k) ?_
  show own_G p e below s (own_Q1 Z (4 : Int32) [(.int (c0 &&& (255 : Int32))), (.int (c1 &&& (255 : Int32))), (.int (c2 &&& (255 : Int32))), (.int (c3 &&& (255 : Int32)))] n0) 1 4 (T125.setTop (mkF m 8 #[.val (.ref a1), .val (.ref a2), .val (.int (4 : Int32))] [(.int (4 : Int32))]))
  refine own_go (fun t k => XS.aloadN X125.here hx rfl (hb hby d1_8) rfl rfl k) ?_
  show own_G p e below s (own_Q1 Z (4 : Int32) [(.int (c0 &&& (255 : Int32))), (.int (c1 &&& (255 : Int32))), (.int (c2 &&& (255 : Int32))), (.int (c3 &&& (255 : Int32)))] n0) 1 4 (T125.setTop (mkF m 9 #[.val (.ref a1), .val (.ref a2), .val (.int (4 : Int32))] [(.ref a2), (.int (4 : Int32))]))
  refine own_go (own_len X125 hx hZ e125 V125 (g := (mkF m 9 #[.val (.ref a1), .val (.ref a2), .val (.int (4 : Int32))] [(.ref a2), (.int (4 : Int32))])) rfl rfl (hb hby d1_9)) ?_
  show own_G p e below s (own_Q1 Z (4 : Int32) [(.int (c0 &&& (255 : Int32))), (.int (c1 &&& (255 : Int32))), (.int (c2 &&& (255 : Int32))), (.int (c3 &&& (255 : Int32)))] n0) 1 4 (T125.setTop (mkF m 10 #[.val (.ref a1), .val (.ref a2), .val (.int (4 : Int32))] [(.int (4 : Int32)), (.int (4 : Int32))]))
  refine own_go (fun t k => XS.icmpYes X125.here hx rfl (pc0 := 10) (pc' := 28) rfl (hb hby d1_10) rfl (XT.ii_ge_t (by decide)) (by decide) (by decide) k) ?_
  show own_G p e below s (own_Q1 Z (4 : Int32) [(.int (c0 &&& (255 : Int32))), (.int (c1 &&& (255 : Int32))), (.int (c2 &&& (255 : Int32))), (.int (c3 &&& (255 : Int32)))] n0) 1 4 (T125.setTop (mkF m 28 #[.val (.ref a1), .val (.ref a2), .val (.int (4 : Int32))] []))
  refine own_go (fun t k => XS.aloadN X125.here hx rfl (hb hby d1_28) rfl rfl k) ?_
  show own_G p e below s (own_Q1 Z (4 : Int32) [(.int (c0 &&& (255 : Int32))), (.int (c1 &&& (255 : Int32))), (.int (c2 &&& (255 : Int32))), (.int (c3 &&& (255 : Int32)))] n0) 1 4 (T125.setTop (mkF m 29 #[.val (.ref a1), .val (.ref a2), .val (.int (4 : Int32))] [(.ref a2)]))
  exact own_leave X125 (some (.ref a2)) (fun h => by rw [Bd.returns] at h; cases h) Bd.notSynchronized (fun fs hr => X125.areturnOut hx rfl Bd.returns rfl (hb hby d1_29) hr) (by rw [e125]; exact ⟨a2, cA117, rfl, N125, V125⟩) (by decide) (by decide)
theorem ef0 (m : MethodId) (x0 : Int32) (x1 : Int32) (x2 : Int32) (x3 : Int32) (x4 : Int32) : entryFrame m #[(.int x0), (.int x1), (.int x2), (.int x3), (.int x4)] maxLocals = mkF m 0 #[.val (.int x0), .val (.int x1), .val (.int x2), .val (.int x3), .val (.int x4), .unset, .unset, .unset, .unset, .unset, .unset, .unset] [] := by first | (simp [entryFrame, mkF, argsToLocals, Value.category, maxLocals]; done) | rfl
def own_Q0 (n0 : Nat) (v : Option Value) (h : Heap) (L : List Loc) : Prop := v = some (.int 1) ∧ Fr n0 L
set_option maxRecDepth 65536 in
set_option maxHeartbeats 40000000 in
theorem rm0 (l : Launch) (Z : State) (a0 : Array Value) (hw : ∀ d ∈ tables_1, d.before a0 Z = true) (ws : List Jvm.Cond) (x0 x1 x2 x3 x4 : Int32) (h0 : Heap) (n0 : Nat) (Z0 : n0 ≤ h0.size) :
    MetFree l x (head1 (Jvm.Cond.code x code maxLocals ret :: ws) room_1) (fun a U => a = #[(.int x0), (.int x1), (.int x2), (.int x3), (.int x4)] ∧ Z.Warmed39 U.vm ∧ U.heap = h0) (fun _ _ _ _ _ => True) (fun _ U o U' => ∃ v L, o = .returned v ∧ own_Q0 n0 v U'.heap L ∧ FrameEnd U o U' L 16 128) := by
  refine MetFree.of_bodySF (plainFor_of_name pn3) hisR ?_
  intro p e s m args below meth c s₁ Bd hml0 hP hK
  obtain ⟨rfl, hZ, hh⟩ := hP
  have hx := Bd.exec
  have hby := Bd.bytes
  have hml : c.maxLocals = 12 := hml0
  have hown : s.vm.findClass "com/example/pure_match/purematch/search/CodeCursorCodesOfPinLaw" = some m.cls := findClass_of_methodNamed Bd.named
  have hnm := (name_of_methodNamed Bd.named Bd.method).1
  have X0 : Stand p l e room_1 s m #[(.int x0), (.int x1), (.int x2), (.int x3), (.int x4)] below meth c s₁ [] 0 0 := Stand.of_body Bd
  have e0 : s₁.heap = h0 := by rw [← hh, Bd.state]; rfl
  refine (show own_G p e below s (own_Q0 n0) 16 128 (s₁.setTop (entryFrame m #[(.int x0), (.int x1), (.int x2), (.int x3), (.int x4)] maxLocals)) → _ from fun k => k) ?_
  refine own_go (fun t k => castTop (ef0 m x0 x1 x2 x3 x4) k) ?_
  show own_G p e below s (own_Q0 n0) 16 128 (s₁.setTop (mkF m 0 #[.val (.int x0), .val (.int x1), .val (.int x2), .val (.int x3), .val (.int x4), .unset, .unset, .unset, .unset, .unset, .unset, .unset] []))
  refine own_go (fun t k => XS.iload X0.here hx rfl (hb hby at_0) rfl k) ?_
  show own_G p e below s (own_Q0 n0) 16 128 (s₁.setTop (mkF m 2 #[.val (.int x0), .val (.int x1), .val (.int x2), .val (.int x3), .val (.int x4), .unset, .unset, .unset, .unset, .unset, .unset, .unset] [(.int x4)]))
  refine own_go (X0.ldcInt hx hown (mvT hZ (hw _ (List.mem_of_getElem? (i := 0) rfl))) (g := (mkF m 2 #[.val (.int x0), .val (.int x1), .val (.int x2), .val (.int x3), .val (.int x4), .unset, .unset, .unset, .unset, .unset, .unset, .unset] [(.int x4)])) rfl (hb hby at_2)) ?_
  show own_G p e below s (own_Q0 n0) 16 128 (s₁.setTop (mkF m 4 #[.val (.int x0), .val (.int x1), .val (.int x2), .val (.int x3), .val (.int x4), .unset, .unset, .unset, .unset, .unset, .unset, .unset] [(.int (2147483647 : Int32)), (.int x4)]))
  refine own_go (fun t k => XS.iand X0.here hx rfl (hb hby at_4) rfl k) ?_
  show own_G p e below s (own_Q0 n0) 16 128 (s₁.setTop (mkF m 5 #[.val (.int x0), .val (.int x1), .val (.int x2), .val (.int x3), .val (.int x4), .unset, .unset, .unset, .unset, .unset, .unset, .unset] [(.int (x4 &&& (2147483647 : Int32)))]))
  refine own_go (fun t k => XS.iconst X0.here hx rfl (hb hby at_5) k) ?_
  show own_G p e below s (own_Q0 n0) 16 128 (s₁.setTop (mkF m 6 #[.val (.int x0), .val (.int x1), .val (.int x2), .val (.int x3), .val (.int x4), .unset, .unset, .unset, .unset, .unset, .unset, .unset] [(.int (5 : Int32)), (.int (x4 &&& (2147483647 : Int32)))]))
  refine own_go (fun t k => iremM X0 hx rfl (hb hby at_6) rfl (by decide) k) ?_
  show own_G p e below s (own_Q0 n0) 16 128 (s₁.setTop (mkF m 7 #[.val (.int x0), .val (.int x1), .val (.int x2), .val (.int x3), .val (.int x4), .unset, .unset, .unset, .unset, .unset, .unset, .unset] [(.int ((x4 &&& (2147483647 : Int32)) % (5 : Int32)))]))
  refine own_go (fun t k => XS.istore X0.here hx rfl (hb hby at_7) rfl (l' := #[.val (.int x0), .val (.int x1), .val (.int x2), .val (.int x3), .val (.int x4), .val (.int ((x4 &&& (2147483647 : Int32)) % (5 : Int32))), .unset, .unset, .unset, .unset, .unset, .unset]) rfl k) ?_
  show own_G p e below s (own_Q0 n0) 16 128 (s₁.setTop (mkF m 9 #[.val (.int x0), .val (.int x1), .val (.int x2), .val (.int x3), .val (.int x4), .val (.int ((x4 &&& (2147483647 : Int32)) % (5 : Int32))), .unset, .unset, .unset, .unset, .unset, .unset] []))
  suffices own_n_n : ∀ n : Int32, n = ((x4 &&& (2147483647 : Int32)) % (5 : Int32)) → own_G p e below s (own_Q0 n0) 16 128 (s₁.setTop (mkF m 9 #[.val (.int x0), .val (.int x1), .val (.int x2), .val (.int x3), .val (.int x4), .val (.int n), .unset, .unset, .unset, .unset, .unset, .unset] [])) from own_n_n _ rfl
  intro n h_n
  have hn : n = 0 ∨ n = 1 ∨ n = 2 ∨ n = 3 ∨ n = 4 := by rw [h_n]; exact own_len5 x4
  refine own_go (fun t k => XS.iloadN X0.here hx rfl (hb hby at_9) rfl k) ?_
  show own_G p e below s (own_Q0 n0) 16 128 (s₁.setTop (mkF m 10 #[.val (.int x0), .val (.int x1), .val (.int x2), .val (.int x3), .val (.int x4), .val (.int n), .unset, .unset, .unset, .unset, .unset, .unset] [(.int x0)]))
  refine own_go (fun t k => XT.i2b X0.here hx rfl (hb hby at_10) rfl k) ?_
  show own_G p e below s (own_Q0 n0) 16 128 (s₁.setTop (mkF m 11 #[.val (.int x0), .val (.int x1), .val (.int x2), .val (.int x3), .val (.int x4), .val (.int n), .unset, .unset, .unset, .unset, .unset, .unset] [(.int x0.toInt8.toInt32)]))
  refine own_go (fun t k => XS.istore X0.here hx rfl (hb hby at_11) rfl (l' := #[.val (.int x0), .val (.int x1), .val (.int x2), .val (.int x3), .val (.int x4), .val (.int n), .val (.int x0.toInt8.toInt32), .unset, .unset, .unset, .unset, .unset]) rfl k) ?_
  show own_G p e below s (own_Q0 n0) 16 128 (s₁.setTop (mkF m 13 #[.val (.int x0), .val (.int x1), .val (.int x2), .val (.int x3), .val (.int x4), .val (.int n), .val (.int x0.toInt8.toInt32), .unset, .unset, .unset, .unset, .unset] []))
  refine own_go (fun t k => XS.iloadN X0.here hx rfl (hb hby at_13) rfl k) ?_
  show own_G p e below s (own_Q0 n0) 16 128 (s₁.setTop (mkF m 14 #[.val (.int x0), .val (.int x1), .val (.int x2), .val (.int x3), .val (.int x4), .val (.int n), .val (.int x0.toInt8.toInt32), .unset, .unset, .unset, .unset, .unset] [(.int x1)]))
  refine own_go (fun t k => XT.i2b X0.here hx rfl (hb hby at_14) rfl k) ?_
  show own_G p e below s (own_Q0 n0) 16 128 (s₁.setTop (mkF m 15 #[.val (.int x0), .val (.int x1), .val (.int x2), .val (.int x3), .val (.int x4), .val (.int n), .val (.int x0.toInt8.toInt32), .unset, .unset, .unset, .unset, .unset] [(.int x1.toInt8.toInt32)]))
  refine own_go (fun t k => XS.istore X0.here hx rfl (hb hby at_15) rfl (l' := #[.val (.int x0), .val (.int x1), .val (.int x2), .val (.int x3), .val (.int x4), .val (.int n), .val (.int x0.toInt8.toInt32), .val (.int x1.toInt8.toInt32), .unset, .unset, .unset, .unset]) rfl k) ?_
  show own_G p e below s (own_Q0 n0) 16 128 (s₁.setTop (mkF m 17 #[.val (.int x0), .val (.int x1), .val (.int x2), .val (.int x3), .val (.int x4), .val (.int n), .val (.int x0.toInt8.toInt32), .val (.int x1.toInt8.toInt32), .unset, .unset, .unset, .unset] []))
  refine own_go (fun t k => XS.iloadN X0.here hx rfl (hb hby at_17) rfl k) ?_
  show own_G p e below s (own_Q0 n0) 16 128 (s₁.setTop (mkF m 18 #[.val (.int x0), .val (.int x1), .val (.int x2), .val (.int x3), .val (.int x4), .val (.int n), .val (.int x0.toInt8.toInt32), .val (.int x1.toInt8.toInt32), .unset, .unset, .unset, .unset] [(.int x2)]))
  refine own_go (fun t k => XT.i2b X0.here hx rfl (hb hby at_18) rfl k) ?_
  show own_G p e below s (own_Q0 n0) 16 128 (s₁.setTop (mkF m 19 #[.val (.int x0), .val (.int x1), .val (.int x2), .val (.int x3), .val (.int x4), .val (.int n), .val (.int x0.toInt8.toInt32), .val (.int x1.toInt8.toInt32), .unset, .unset, .unset, .unset] [(.int x2.toInt8.toInt32)]))
  refine own_go (fun t k => XS.istore X0.here hx rfl (hb hby at_19) rfl (l' := #[.val (.int x0), .val (.int x1), .val (.int x2), .val (.int x3), .val (.int x4), .val (.int n), .val (.int x0.toInt8.toInt32), .val (.int x1.toInt8.toInt32), .val (.int x2.toInt8.toInt32), .unset, .unset, .unset]) rfl k) ?_
  show own_G p e below s (own_Q0 n0) 16 128 (s₁.setTop (mkF m 21 #[.val (.int x0), .val (.int x1), .val (.int x2), .val (.int x3), .val (.int x4), .val (.int n), .val (.int x0.toInt8.toInt32), .val (.int x1.toInt8.toInt32), .val (.int x2.toInt8.toInt32), .unset, .unset, .unset] []))
  refine own_go (fun t k => XS.iloadN X0.here hx rfl (hb hby at_21) rfl k) ?_
  show own_G p e below s (own_Q0 n0) 16 128 (s₁.setTop (mkF m 22 #[.val (.int x0), .val (.int x1), .val (.int x2), .val (.int x3), .val (.int x4), .val (.int n), .val (.int x0.toInt8.toInt32), .val (.int x1.toInt8.toInt32), .val (.int x2.toInt8.toInt32), .unset, .unset, .unset] [(.int x3)]))
  refine own_go (fun t k => XT.i2b X0.here hx rfl (hb hby at_22) rfl k) ?_
  show own_G p e below s (own_Q0 n0) 16 128 (s₁.setTop (mkF m 23 #[.val (.int x0), .val (.int x1), .val (.int x2), .val (.int x3), .val (.int x4), .val (.int n), .val (.int x0.toInt8.toInt32), .val (.int x1.toInt8.toInt32), .val (.int x2.toInt8.toInt32), .unset, .unset, .unset] [(.int x3.toInt8.toInt32)]))
  refine own_go (fun t k => XS.istore X0.here hx rfl (hb hby at_23) rfl (l' := #[.val (.int x0), .val (.int x1), .val (.int x2), .val (.int x3), .val (.int x4), .val (.int n), .val (.int x0.toInt8.toInt32), .val (.int x1.toInt8.toInt32), .val (.int x2.toInt8.toInt32), .val (.int x3.toInt8.toInt32), .unset, .unset]) rfl k) ?_
  show own_G p e below s (own_Q0 n0) 16 128 (s₁.setTop (mkF m 25 #[.val (.int x0), .val (.int x1), .val (.int x2), .val (.int x3), .val (.int x4), .val (.int n), .val (.int x0.toInt8.toInt32), .val (.int x1.toInt8.toInt32), .val (.int x2.toInt8.toInt32), .val (.int x3.toInt8.toInt32), .unset, .unset] []))
  suffices own_n_c0 : ∀ c0 : Int32, c0 = x0.toInt8.toInt32 → own_G p e below s (own_Q0 n0) 16 128 (s₁.setTop (mkF m 25 #[.val (.int x0), .val (.int x1), .val (.int x2), .val (.int x3), .val (.int x4), .val (.int n), .val (.int c0), .val (.int x1.toInt8.toInt32), .val (.int x2.toInt8.toInt32), .val (.int x3.toInt8.toInt32), .unset, .unset] [])) from own_n_c0 _ rfl
  intro c0 h_c0
  have m0 : nar .byte c0 = c0 := by rw [h_c0]; exact own_nar x0
  suffices own_n_c1 : ∀ c1 : Int32, c1 = x1.toInt8.toInt32 → own_G p e below s (own_Q0 n0) 16 128 (s₁.setTop (mkF m 25 #[.val (.int x0), .val (.int x1), .val (.int x2), .val (.int x3), .val (.int x4), .val (.int n), .val (.int c0), .val (.int c1), .val (.int x2.toInt8.toInt32), .val (.int x3.toInt8.toInt32), .unset, .unset] [])) from own_n_c1 _ rfl
  intro c1 h_c1
  have m1 : nar .byte c1 = c1 := by rw [h_c1]; exact own_nar x1
  suffices own_n_c2 : ∀ c2 : Int32, c2 = x2.toInt8.toInt32 → own_G p e below s (own_Q0 n0) 16 128 (s₁.setTop (mkF m 25 #[.val (.int x0), .val (.int x1), .val (.int x2), .val (.int x3), .val (.int x4), .val (.int n), .val (.int c0), .val (.int c1), .val (.int c2), .val (.int x3.toInt8.toInt32), .unset, .unset] [])) from own_n_c2 _ rfl
  intro c2 h_c2
  have m2 : nar .byte c2 = c2 := by rw [h_c2]; exact own_nar x2
  suffices own_n_c3 : ∀ c3 : Int32, c3 = x3.toInt8.toInt32 → own_G p e below s (own_Q0 n0) 16 128 (s₁.setTop (mkF m 25 #[.val (.int x0), .val (.int x1), .val (.int x2), .val (.int x3), .val (.int x4), .val (.int n), .val (.int c0), .val (.int c1), .val (.int c2), .val (.int c3), .unset, .unset] [])) from own_n_c3 _ rfl
  intro c3 h_c3
  have m3 : nar .byte c3 = c3 := by rw [h_c3]; exact own_nar x3
  rcases hn with rfl | rfl | rfl | rfl | rfl
  · skip
    show own_G p e below s (own_Q0 n0) 16 128 (s₁.setTop (mkF m 25 #[.val (.int x0), .val (.int x1), .val (.int x2), .val (.int x3), .val (.int x4), .val (.int (0 : Int32)), .val (.int c0), .val (.int c1), .val (.int c2), .val (.int c3), .unset, .unset] []))
    refine own_go (fun t k => XS.iload X0.here hx rfl (hb hby at_25) rfl k) ?_
    show own_G p e below s (own_Q0 n0) 16 128 (s₁.setTop (mkF m 27 #[.val (.int x0), .val (.int x1), .val (.int x2), .val (.int x3), .val (.int x4), .val (.int (0 : Int32)), .val (.int c0), .val (.int c1), .val (.int c2), .val (.int c3), .unset, .unset] [(.int (0 : Int32))]))
    obtain ⟨T126, h126, cA126, X126, e126, E126, A126, st126⟩ := newP X0 hx hZ (hw _ (List.mem_of_getElem? (i := 1) rfl)) e0 (g := (mkF m 27 #[.val (.int x0), .val (.int x1), .val (.int x2), .val (.int x3), .val (.int x4), .val (.int (0 : Int32)), .val (.int c0), .val (.int c1), .val (.int c2), .val (.int c3), .unset, .unset] [(.int (0 : Int32))])) rfl (hb hby at_27) rfl (by decide) (cap := 0) (by decide) (by decide) (by decide) (by decide)
    obtain ⟨a3, g126⟩ : ∃ z, z = h0.size := ⟨_, rfl⟩
    rw [← g126] at A126 st126
    have V126 : Arv Z h126 a3 cA126 .byte (0 : Int32) [] (.int 0) := (Arv.new A126 (by decide)).pad (pad_rep [] (.int 0) 0)
    refine own_go st126 ?_
    show own_G p e below s (own_Q0 n0) 16 128 (T126.setTop (mkF m 29 #[.val (.int x0), .val (.int x1), .val (.int x2), .val (.int x3), .val (.int x4), .val (.int (0 : Int32)), .val (.int c0), .val (.int c1), .val (.int c2), .val (.int c3), .unset, .unset] [(.ref a3)]))
    have g3 : n0 ≤ a3 := Nat.le_trans Z0 (Nat.le_of_eq g126.symm)
    have Z3 : n0 ≤ h126.size := Nat.le_trans Z0 E126.1
    refine own_go (fun t k => XS.astore X126.here hx rfl (hb hby at_29) rfl rfl (l' := #[.val (.int x0), .val (.int x1), .val (.int x2), .val (.int x3), .val (.int x4), .val (.int (0 : Int32)), .val (.int c0), .val (.int c1), .val (.int c2), .val (.int c3), .val (.ref a3), .unset]) rfl k) ?_
    show own_G p e below s (own_Q0 n0) 16 128 (T126.setTop (mkF m 31 #[.val (.int x0), .val (.int x1), .val (.int x2), .val (.int x3), .val (.int x4), .val (.int (0 : Int32)), .val (.int c0), .val (.int c1), .val (.int c2), .val (.int c3), .val (.ref a3), .unset] []))
    refine own_go (fun t k => XS.iload X126.here hx rfl (hb hby at_31) rfl k) ?_
    show own_G p e below s (own_Q0 n0) 16 128 (T126.setTop (mkF m 33 #[.val (.int x0), .val (.int x1), .val (.int x2), .val (.int x3), .val (.int x4), .val (.int (0 : Int32)), .val (.int c0), .val (.int c1), .val (.int c2), .val (.int c3), .val (.ref a3), .unset] [(.int (0 : Int32))]))
    refine own_go (fun t k => XS.ifYes X126.here hx rfl (pc0 := 33) (pc' := 42) rfl (hb hby at_33) rfl (XT.i0_le_t (by decide)) (by decide) (by decide) k) ?_
    show own_G p e below s (own_Q0 n0) 16 128 (T126.setTop (mkF m 42 #[.val (.int x0), .val (.int x1), .val (.int x2), .val (.int x3), .val (.int x4), .val (.int (0 : Int32)), .val (.int c0), .val (.int c1), .val (.int c2), .val (.int c3), .val (.ref a3), .unset] []))
    refine own_go (fun t k => XS.iload X126.here hx rfl (hb hby at_42) rfl k) ?_
    show own_G p e below s (own_Q0 n0) 16 128 (T126.setTop (mkF m 44 #[.val (.int x0), .val (.int x1), .val (.int x2), .val (.int x3), .val (.int x4), .val (.int (0 : Int32)), .val (.int c0), .val (.int c1), .val (.int c2), .val (.int c3), .val (.ref a3), .unset] [(.int (0 : Int32))]))
    refine own_go (fun t k => XS.iconst X126.here hx rfl (hb hby at_44) k) ?_
    show own_G p e below s (own_Q0 n0) 16 128 (T126.setTop (mkF m 45 #[.val (.int x0), .val (.int x1), .val (.int x2), .val (.int x3), .val (.int x4), .val (.int (0 : Int32)), .val (.int c0), .val (.int c1), .val (.int c2), .val (.int c3), .val (.ref a3), .unset] [(.int (1 : Int32)), (.int (0 : Int32))]))
    refine own_go (fun t k => XS.icmpYes X126.here hx rfl (pc0 := 45) (pc' := 54) rfl (hb hby at_45) rfl (XT.ii_le_t (by decide)) (by decide) (by decide) k) ?_
    show own_G p e below s (own_Q0 n0) 16 128 (T126.setTop (mkF m 54 #[.val (.int x0), .val (.int x1), .val (.int x2), .val (.int x3), .val (.int x4), .val (.int (0 : Int32)), .val (.int c0), .val (.int c1), .val (.int c2), .val (.int c3), .val (.ref a3), .unset] []))
    refine own_go (fun t k => XS.iload X126.here hx rfl (hb hby at_54) rfl k) ?_
    show own_G p e below s (own_Q0 n0) 16 128 (T126.setTop (mkF m 56 #[.val (.int x0), .val (.int x1), .val (.int x2), .val (.int x3), .val (.int x4), .val (.int (0 : Int32)), .val (.int c0), .val (.int c1), .val (.int c2), .val (.int c3), .val (.ref a3), .unset] [(.int (0 : Int32))]))
    refine own_go (fun t k => XS.iconst X126.here hx rfl (hb hby at_56) k) ?_
    show own_G p e below s (own_Q0 n0) 16 128 (T126.setTop (mkF m 57 #[.val (.int x0), .val (.int x1), .val (.int x2), .val (.int x3), .val (.int x4), .val (.int (0 : Int32)), .val (.int c0), .val (.int c1), .val (.int c2), .val (.int c3), .val (.ref a3), .unset] [(.int (2 : Int32)), (.int (0 : Int32))]))
    refine own_go (fun t k => XS.icmpYes X126.here hx rfl (pc0 := 57) (pc' := 66) rfl (hb hby at_57) rfl (XT.ii_le_t (by decide)) (by decide) (by decide) k) ?_
    show own_G p e below s (own_Q0 n0) 16 128 (T126.setTop (mkF m 66 #[.val (.int x0), .val (.int x1), .val (.int x2), .val (.int x3), .val (.int x4), .val (.int (0 : Int32)), .val (.int c0), .val (.int c1), .val (.int c2), .val (.int c3), .val (.ref a3), .unset] []))
    refine own_go (fun t k => XS.iload X126.here hx rfl (hb hby at_66) rfl k) ?_
    show own_G p e below s (own_Q0 n0) 16 128 (T126.setTop (mkF m 68 #[.val (.int x0), .val (.int x1), .val (.int x2), .val (.int x3), .val (.int x4), .val (.int (0 : Int32)), .val (.int c0), .val (.int c1), .val (.int c2), .val (.int c3), .val (.ref a3), .unset] [(.int (0 : Int32))]))
    refine own_go (fun t k => XS.iconst X126.here hx rfl (hb hby at_68) k) ?_
    show own_G p e below s (own_Q0 n0) 16 128 (T126.setTop (mkF m 69 #[.val (.int x0), .val (.int x1), .val (.int x2), .val (.int x3), .val (.int x4), .val (.int (0 : Int32)), .val (.int c0), .val (.int c1), .val (.int c2), .val (.int c3), .val (.ref a3), .unset] [(.int (3 : Int32)), (.int (0 : Int32))]))
    refine own_go (fun t k => XS.icmpYes X126.here hx rfl (pc0 := 69) (pc' := 78) rfl (hb hby at_69) rfl (XT.ii_le_t (by decide)) (by decide) (by decide) k) ?_
    show own_G p e below s (own_Q0 n0) 16 128 (T126.setTop (mkF m 78 #[.val (.int x0), .val (.int x1), .val (.int x2), .val (.int x3), .val (.int x4), .val (.int (0 : Int32)), .val (.int c0), .val (.int c1), .val (.int c2), .val (.int c3), .val (.ref a3), .unset] []))
    refine own_go (fun t k => XS.aload X126.here hx rfl (hb hby at_78) rfl rfl k) ?_
    show own_G p e below s (own_Q0 n0) 16 128 (T126.setTop (mkF m 80 #[.val (.int x0), .val (.int x1), .val (.int x2), .val (.int x3), .val (.int x4), .val (.int (0 : Int32)), .val (.int c0), .val (.int c1), .val (.int c2), .val (.int c3), .val (.ref a3), .unset] [(.ref a3)]))
    obtain ⟨_, _, ⟨T127, L127, k127, n127⟩, -, X127, ⟨Lc127, hQ127, l127, y127, z127⟩, st127⟩ := Jvm.LawKit.callS X126 hx (y := (⟨"com/example/pure_match/purematch/search/CodeCursor", "codesOf", "([B)[C"⟩ : MethodName)) hown (mvT hZ (hw _ (List.mem_of_getElem? (i := 2) rfl))) (mvT hZ (hw _ (List.mem_of_getElem? (i := 3) rfl))) (mvT hZ (hw _ (List.mem_of_getElem? (i := 4) rfl))) (mvT hZ (hw _ (List.mem_of_getElem? (i := 5) rfl))) (by decide) (backOf (W := 0) (rm1_0 l Z a0 hw [] a3 cA126  h126 n0 Z3 V126) hZ (hw _ (List.mem_of_getElem? (i := 5) rfl)) (hw _ (List.mem_of_getElem? (i := 4) rfl)) (by decide) (by decide)) (g := (mkF m 80 #[.val (.int x0), .val (.int x1), .val (.int x2), .val (.int x3), .val (.int x4), .val (.int (0 : Int32)), .val (.int c0), .val (.int c1), .val (.int c2), .val (.int c3), .val (.ref a3), .unset] [(.ref a3)])) rfl (by rw [hml]; rfl) (argsL := [(.ref a3)]) (rest := []) (lenOf pd1 rfl) rfl (by show 2 * 0 + _ ≤ _; exact Nat.le_of_eq rfl) (hb hby at_80) (fun _ _ => ⟨rfl, e126, (by decide : 1 + 1 ≤ _), (by decide : 0 + 0 ≤ _)⟩)
    dsimp only [Pt.U, Pt.locs, Pt.cells, Pt.slots] at X127 l127 y127 z127 st127 hQ127
    subst l127 y127 z127
    obtain ⟨a4, kc4, rfl, N4, V4⟩ := hQ127
    refine own_go (st127) ?_
    show own_G p e below s (own_Q0 n0) 16 128 (T127.setTop (mkF m 83 #[.val (.int x0), .val (.int x1), .val (.int x2), .val (.int x3), .val (.int x4), .val (.int (0 : Int32)), .val (.int c0), .val (.int c1), .val (.int c2), .val (.int c3), .val (.ref a3), .unset] [(.ref a4)]))
    refine own_go (fun t k => XS.astore X127.here hx rfl (hb hby at_83) rfl rfl (l' := #[.val (.int x0), .val (.int x1), .val (.int x2), .val (.int x3), .val (.int x4), .val (.int (0 : Int32)), .val (.int c0), .val (.int c1), .val (.int c2), .val (.int c3), .val (.ref a3), .val (.ref a4)]) rfl k) ?_
    show own_G p e below s (own_Q0 n0) 16 128 (T127.setTop (mkF m 85 #[.val (.int x0), .val (.int x1), .val (.int x2), .val (.int x3), .val (.int x4), .val (.int (0 : Int32)), .val (.int c0), .val (.int c1), .val (.int c2), .val (.int c3), .val (.ref a3), .val (.ref a4)] []))
    refine own_go (fun t k => XS.aload X127.here hx rfl (hb hby at_85) rfl rfl k) ?_
    show own_G p e below s (own_Q0 n0) 16 128 (T127.setTop (mkF m 87 #[.val (.int x0), .val (.int x1), .val (.int x2), .val (.int x3), .val (.int x4), .val (.int (0 : Int32)), .val (.int c0), .val (.int c1), .val (.int c2), .val (.int c3), .val (.ref a3), .val (.ref a4)] [(.ref a4)]))
    refine own_go (fun t k => XT.ifnonnullYes X127.here hx rfl (pc0 := 87) (pc' := 92) rfl (hb hby at_87) rfl (by decide) (by decide) k) ?_
    show own_G p e below s (own_Q0 n0) 16 128 (T127.setTop (mkF m 92 #[.val (.int x0), .val (.int x1), .val (.int x2), .val (.int x3), .val (.int x4), .val (.int (0 : Int32)), .val (.int c0), .val (.int c1), .val (.int c2), .val (.int c3), .val (.ref a3), .val (.ref a4)] []))
    refine own_go (fun t k => XS.aload X127.here hx rfl (hb hby at_92) rfl rfl k) ?_
    show own_G p e below s (own_Q0 n0) 16 128 (T127.setTop (mkF m 94 #[.val (.int x0), .val (.int x1), .val (.int x2), .val (.int x3), .val (.int x4), .val (.int (0 : Int32)), .val (.int c0), .val (.int c1), .val (.int c2), .val (.int c3), .val (.ref a3), .val (.ref a4)] [(.ref a4)]))
    refine own_go (own_len X127 hx hZ rfl V4 (g := (mkF m 94 #[.val (.int x0), .val (.int x1), .val (.int x2), .val (.int x3), .val (.int x4), .val (.int (0 : Int32)), .val (.int c0), .val (.int c1), .val (.int c2), .val (.int c3), .val (.ref a3), .val (.ref a4)] [(.ref a4)])) rfl rfl (hb hby at_94)) ?_
    show own_G p e below s (own_Q0 n0) 16 128 (T127.setTop (mkF m 95 #[.val (.int x0), .val (.int x1), .val (.int x2), .val (.int x3), .val (.int x4), .val (.int (0 : Int32)), .val (.int c0), .val (.int c1), .val (.int c2), .val (.int c3), .val (.ref a3), .val (.ref a4)] [(.int (0 : Int32))]))
    refine own_go (fun t k => XS.iload X127.here hx rfl (hb hby at_95) rfl k) ?_
    show own_G p e below s (own_Q0 n0) 16 128 (T127.setTop (mkF m 97 #[.val (.int x0), .val (.int x1), .val (.int x2), .val (.int x3), .val (.int x4), .val (.int (0 : Int32)), .val (.int c0), .val (.int c1), .val (.int c2), .val (.int c3), .val (.ref a3), .val (.ref a4)] [(.int (0 : Int32)), (.int (0 : Int32))]))
    refine own_go (fun t k => XS.icmpYes X127.here hx rfl (pc0 := 97) (pc' := 102) rfl (hb hby at_97) rfl (XT.ii_eq_t rfl) (by decide) (by decide) k) ?_
    show own_G p e below s (own_Q0 n0) 16 128 (T127.setTop (mkF m 102 #[.val (.int x0), .val (.int x1), .val (.int x2), .val (.int x3), .val (.int x4), .val (.int (0 : Int32)), .val (.int c0), .val (.int c1), .val (.int c2), .val (.int c3), .val (.ref a3), .val (.ref a4)] []))
    refine own_go (fun t k => XS.iload X127.here hx rfl (hb hby at_102) rfl k) ?_
    show own_G p e below s (own_Q0 n0) 16 128 (T127.setTop (mkF m 104 #[.val (.int x0), .val (.int x1), .val (.int x2), .val (.int x3), .val (.int x4), .val (.int (0 : Int32)), .val (.int c0), .val (.int c1), .val (.int c2), .val (.int c3), .val (.ref a3), .val (.ref a4)] [(.int (0 : Int32))]))
    refine own_go (fun t k => XS.ifYes X127.here hx rfl (pc0 := 104) (pc' := 121) rfl (hb hby at_104) rfl (XT.i0_le_t (by decide)) (by decide) (by decide) k) ?_
    show own_G p e below s (own_Q0 n0) 16 128 (T127.setTop (mkF m 121 #[.val (.int x0), .val (.int x1), .val (.int x2), .val (.int x3), .val (.int x4), .val (.int (0 : Int32)), .val (.int c0), .val (.int c1), .val (.int c2), .val (.int c3), .val (.ref a3), .val (.ref a4)] []))
    refine own_go (fun t k => XS.iload X127.here hx rfl (hb hby at_121) rfl k) ?_
    show own_G p e below s (own_Q0 n0) 16 128 (T127.setTop (mkF m 123 #[.val (.int x0), .val (.int x1), .val (.int x2), .val (.int x3), .val (.int x4), .val (.int (0 : Int32)), .val (.int c0), .val (.int c1), .val (.int c2), .val (.int c3), .val (.ref a3), .val (.ref a4)] [(.int (0 : Int32))]))
    refine own_go (fun t k => XS.iconst X127.here hx rfl (hb hby at_123) k) ?_
    show own_G p e below s (own_Q0 n0) 16 128 (T127.setTop (mkF m 124 #[.val (.int x0), .val (.int x1), .val (.int x2), .val (.int x3), .val (.int x4), .val (.int (0 : Int32)), .val (.int c0), .val (.int c1), .val (.int c2), .val (.int c3), .val (.ref a3), .val (.ref a4)] [(.int (1 : Int32)), (.int (0 : Int32))]))
    refine own_go (fun t k => XS.icmpYes X127.here hx rfl (pc0 := 124) (pc' := 141) rfl (hb hby at_124) rfl (XT.ii_le_t (by decide)) (by decide) (by decide) k) ?_
    show own_G p e below s (own_Q0 n0) 16 128 (T127.setTop (mkF m 141 #[.val (.int x0), .val (.int x1), .val (.int x2), .val (.int x3), .val (.int x4), .val (.int (0 : Int32)), .val (.int c0), .val (.int c1), .val (.int c2), .val (.int c3), .val (.ref a3), .val (.ref a4)] []))
    refine own_go (fun t k => XS.iload X127.here hx rfl (hb hby at_141) rfl k) ?_
    show own_G p e below s (own_Q0 n0) 16 128 (T127.setTop (mkF m 143 #[.val (.int x0), .val (.int x1), .val (.int x2), .val (.int x3), .val (.int x4), .val (.int (0 : Int32)), .val (.int c0), .val (.int c1), .val (.int c2), .val (.int c3), .val (.ref a3), .val (.ref a4)] [(.int (0 : Int32))]))
    refine own_go (fun t k => XS.iconst X127.here hx rfl (hb hby at_143) k) ?_
    show own_G p e below s (own_Q0 n0) 16 128 (T127.setTop (mkF m 144 #[.val (.int x0), .val (.int x1), .val (.int x2), .val (.int x3), .val (.int x4), .val (.int (0 : Int32)), .val (.int c0), .val (.int c1), .val (.int c2), .val (.int c3), .val (.ref a3), .val (.ref a4)] [(.int (2 : Int32)), (.int (0 : Int32))]))
    refine own_go (fun t k => XS.icmpYes X127.here hx rfl (pc0 := 144) (pc' := 161) rfl (hb hby at_144) rfl (XT.ii_le_t (by decide)) (by decide) (by decide) k) ?_
    show own_G p e below s (own_Q0 n0) 16 128 (T127.setTop (mkF m 161 #[.val (.int x0), .val (.int x1), .val (.int x2), .val (.int x3), .val (.int x4), .val (.int (0 : Int32)), .val (.int c0), .val (.int c1), .val (.int c2), .val (.int c3), .val (.ref a3), .val (.ref a4)] []))
    refine own_go (fun t k => XS.iload X127.here hx rfl (hb hby at_161) rfl k) ?_
    show own_G p e below s (own_Q0 n0) 16 128 (T127.setTop (mkF m 163 #[.val (.int x0), .val (.int x1), .val (.int x2), .val (.int x3), .val (.int x4), .val (.int (0 : Int32)), .val (.int c0), .val (.int c1), .val (.int c2), .val (.int c3), .val (.ref a3), .val (.ref a4)] [(.int (0 : Int32))]))
    refine own_go (fun t k => XS.iconst X127.here hx rfl (hb hby at_163) k) ?_
    show own_G p e below s (own_Q0 n0) 16 128 (T127.setTop (mkF m 164 #[.val (.int x0), .val (.int x1), .val (.int x2), .val (.int x3), .val (.int x4), .val (.int (0 : Int32)), .val (.int c0), .val (.int c1), .val (.int c2), .val (.int c3), .val (.ref a3), .val (.ref a4)] [(.int (3 : Int32)), (.int (0 : Int32))]))
    refine own_go (fun t k => XS.icmpYes X127.here hx rfl (pc0 := 164) (pc' := 181) rfl (hb hby at_164) rfl (XT.ii_le_t (by decide)) (by decide) (by decide) k) ?_
    show own_G p e below s (own_Q0 n0) 16 128 (T127.setTop (mkF m 181 #[.val (.int x0), .val (.int x1), .val (.int x2), .val (.int x3), .val (.int x4), .val (.int (0 : Int32)), .val (.int c0), .val (.int c1), .val (.int c2), .val (.int c3), .val (.ref a3), .val (.ref a4)] []))
    refine own_go (fun t k => XS.iconst X127.here hx rfl (hb hby at_181) k) ?_
    show own_G p e below s (own_Q0 n0) 16 128 (T127.setTop (mkF m 182 #[.val (.int x0), .val (.int x1), .val (.int x2), .val (.int x3), .val (.int x4), .val (.int (0 : Int32)), .val (.int c0), .val (.int c1), .val (.int c2), .val (.int c3), .val (.ref a3), .val (.ref a4)] [(.int (1 : Int32))]))
    exact own_leave X127 (some (.int (1 : Int32))) (fun h => by rw [Bd.returns] at h; cases h) Bd.notSynchronized (fun fs hr => retN X127 hx (t := .boolean) Bd.returns (by simp) (hb hby at_182) hr) ⟨rfl, (Fr.app (Fr.nil n0) N4)⟩ (by decide) (by decide)
  · skip
    show own_G p e below s (own_Q0 n0) 16 128 (s₁.setTop (mkF m 25 #[.val (.int x0), .val (.int x1), .val (.int x2), .val (.int x3), .val (.int x4), .val (.int (1 : Int32)), .val (.int c0), .val (.int c1), .val (.int c2), .val (.int c3), .unset, .unset] []))
    refine own_go (fun t k => XS.iload X0.here hx rfl (hb hby at_25) rfl k) ?_
    show own_G p e below s (own_Q0 n0) 16 128 (s₁.setTop (mkF m 27 #[.val (.int x0), .val (.int x1), .val (.int x2), .val (.int x3), .val (.int x4), .val (.int (1 : Int32)), .val (.int c0), .val (.int c1), .val (.int c2), .val (.int c3), .unset, .unset] [(.int (1 : Int32))]))
    obtain ⟨T128, h128, cA128, X128, e128, E128, A128, st128⟩ := newP X0 hx hZ (hw _ (List.mem_of_getElem? (i := 1) rfl)) e0 (g := (mkF m 27 #[.val (.int x0), .val (.int x1), .val (.int x2), .val (.int x3), .val (.int x4), .val (.int (1 : Int32)), .val (.int c0), .val (.int c1), .val (.int c2), .val (.int c3), .unset, .unset] [(.int (1 : Int32))])) rfl (hb hby at_27) rfl (by decide) (cap := 1) (by decide) (by decide) (by decide) (by decide)
    obtain ⟨a3, g128⟩ : ∃ z, z = h0.size := ⟨_, rfl⟩
    rw [← g128] at A128 st128
    have V128 : Arv Z h128 a3 cA128 .byte (1 : Int32) [(.int 0)] (.int 0) := (Arv.new A128 (by decide)).pad (pad_rep [] (.int 0) 1)
    refine own_go st128 ?_
    show own_G p e below s (own_Q0 n0) 16 128 (T128.setTop (mkF m 29 #[.val (.int x0), .val (.int x1), .val (.int x2), .val (.int x3), .val (.int x4), .val (.int (1 : Int32)), .val (.int c0), .val (.int c1), .val (.int c2), .val (.int c3), .unset, .unset] [(.ref a3)]))
    have g3 : n0 ≤ a3 := Nat.le_trans Z0 (Nat.le_of_eq g128.symm)
    have Z3 : n0 ≤ h128.size := Nat.le_trans Z0 E128.1
    refine own_go (fun t k => XS.astore X128.here hx rfl (hb hby at_29) rfl rfl (l' := #[.val (.int x0), .val (.int x1), .val (.int x2), .val (.int x3), .val (.int x4), .val (.int (1 : Int32)), .val (.int c0), .val (.int c1), .val (.int c2), .val (.int c3), .val (.ref a3), .unset]) rfl k) ?_
    show own_G p e below s (own_Q0 n0) 16 128 (T128.setTop (mkF m 31 #[.val (.int x0), .val (.int x1), .val (.int x2), .val (.int x3), .val (.int x4), .val (.int (1 : Int32)), .val (.int c0), .val (.int c1), .val (.int c2), .val (.int c3), .val (.ref a3), .unset] []))
    refine own_go (fun t k => XS.iload X128.here hx rfl (hb hby at_31) rfl k) ?_
    show own_G p e below s (own_Q0 n0) 16 128 (T128.setTop (mkF m 33 #[.val (.int x0), .val (.int x1), .val (.int x2), .val (.int x3), .val (.int x4), .val (.int (1 : Int32)), .val (.int c0), .val (.int c1), .val (.int c2), .val (.int c3), .val (.ref a3), .unset] [(.int (1 : Int32))]))
    refine own_go (fun t k => XS.ifNo X128.here hx rfl (hb hby at_33) rfl (XT.i0_le_f (by decide)) k) ?_
    show own_G p e below s (own_Q0 n0) 16 128 (T128.setTop (mkF m 36 #[.val (.int x0), .val (.int x1), .val (.int x2), .val (.int x3), .val (.int x4), .val (.int (1 : Int32)), .val (.int c0), .val (.int c1), .val (.int c2), .val (.int c3), .val (.ref a3), .unset] []))
    refine own_go (fun t k => XS.aload X128.here hx rfl (hb hby at_36) rfl rfl k) ?_
    show own_G p e below s (own_Q0 n0) 16 128 (T128.setTop (mkF m 38 #[.val (.int x0), .val (.int x1), .val (.int x2), .val (.int x3), .val (.int x4), .val (.int (1 : Int32)), .val (.int c0), .val (.int c1), .val (.int c2), .val (.int c3), .val (.ref a3), .unset] [(.ref a3)]))
    refine own_go (fun t k => XS.iconst X128.here hx rfl (hb hby at_38) k) ?_
    show own_G p e below s (own_Q0 n0) 16 128 (T128.setTop (mkF m 39 #[.val (.int x0), .val (.int x1), .val (.int x2), .val (.int x3), .val (.int x4), .val (.int (1 : Int32)), .val (.int c0), .val (.int c1), .val (.int c2), .val (.int c3), .val (.ref a3), .unset] [(.int (0 : Int32)), (.ref a3)]))
    refine own_go (fun t k => XS.iload X128.here hx rfl (hb hby at_39) rfl k) ?_
    show own_G p e below s (own_Q0 n0) 16 128 (T128.setTop (mkF m 41 #[.val (.int x0), .val (.int x1), .val (.int x2), .val (.int x3), .val (.int x4), .val (.int (1 : Int32)), .val (.int c0), .val (.int c1), .val (.int c2), .val (.int c3), .val (.ref a3), .unset] [(.int c0), (.int (0 : Int32)), (.ref a3)]))
    obtain ⟨T129, h129, X129, e129, W129, V129, st129⟩ := own_stB X128 hx hZ e128 V128 (j := (0 : Int32)) ⟨by decide, by decide⟩ 0 (by decide) (by simp) (vs' := [(.int c0)]) (by rw [m0]; rfl) (g := (mkF m 41 #[.val (.int x0), .val (.int x1), .val (.int x2), .val (.int x3), .val (.int x4), .val (.int (1 : Int32)), .val (.int c0), .val (.int c1), .val (.int c2), .val (.int c3), .val (.ref a3), .unset] [(.int c0), (.int (0 : Int32)), (.ref a3)])) rfl rfl (hb hby at_41)
    have N129 := Fr.snoc X129 (Fr.nil n0) g3
    refine own_go st129 ?_
    show own_G p e below s (own_Q0 n0) 16 128 (T129.setTop (mkF m 42 #[.val (.int x0), .val (.int x1), .val (.int x2), .val (.int x3), .val (.int x4), .val (.int (1 : Int32)), .val (.int c0), .val (.int c1), .val (.int c2), .val (.int c3), .val (.ref a3), .unset] []))
    have Z3_0 : n0 ≤ h129.size := W129.size ▸ Z3
    refine own_go (fun t k => XS.iload X129.here hx rfl (hb hby at_42) rfl k) ?_
    show own_G p e below s (own_Q0 n0) 16 128 (T129.setTop (mkF m 44 #[.val (.int x0), .val (.int x1), .val (.int x2), .val (.int x3), .val (.int x4), .val (.int (1 : Int32)), .val (.int c0), .val (.int c1), .val (.int c2), .val (.int c3), .val (.ref a3), .unset] [(.int (1 : Int32))]))
    refine own_go (fun t k => XS.iconst X129.here hx rfl (hb hby at_44) k) ?_
    show own_G p e below s (own_Q0 n0) 16 128 (T129.setTop (mkF m 45 #[.val (.int x0), .val (.int x1), .val (.int x2), .val (.int x3), .val (.int x4), .val (.int (1 : Int32)), .val (.int c0), .val (.int c1), .val (.int c2), .val (.int c3), .val (.ref a3), .unset] [(.int (1 : Int32)), (.int (1 : Int32))]))
    refine own_go (fun t k => XS.icmpYes X129.here hx rfl (pc0 := 45) (pc' := 54) rfl (hb hby at_45) rfl (XT.ii_le_t (by decide)) (by decide) (by decide) k) ?_
    show own_G p e below s (own_Q0 n0) 16 128 (T129.setTop (mkF m 54 #[.val (.int x0), .val (.int x1), .val (.int x2), .val (.int x3), .val (.int x4), .val (.int (1 : Int32)), .val (.int c0), .val (.int c1), .val (.int c2), .val (.int c3), .val (.ref a3), .unset] []))
    refine own_go (fun t k => XS.iload X129.here hx rfl (hb hby at_54) rfl k) ?_
    show own_G p e below s (own_Q0 n0) 16 128 (T129.setTop (mkF m 56 #[.val (.int x0), .val (.int x1), .val (.int x2), .val (.int x3), .val (.int x4), .val (.int (1 : Int32)), .val (.int c0), .val (.int c1), .val (.int c2), .val (.int c3), .val (.ref a3), .unset] [(.int (1 : Int32))]))
    refine own_go (fun t k => XS.iconst X129.here hx rfl (hb hby at_56) k) ?_
    show own_G p e below s (own_Q0 n0) 16 128 (T129.setTop (mkF m 57 #[.val (.int x0), .val (.int x1), .val (.int x2), .val (.int x3), .val (.int x4), .val (.int (1 : Int32)), .val (.int c0), .val (.int c1), .val (.int c2), .val (.int c3), .val (.ref a3), .unset] [(.int (2 : Int32)), (.int (1 : Int32))]))
    refine own_go (fun t k => XS.icmpYes X129.here hx rfl (pc0 := 57) (pc' := 66) rfl (hb hby at_57) rfl (XT.ii_le_t (by decide)) (by decide) (by decide) k) ?_
    show own_G p e below s (own_Q0 n0) 16 128 (T129.setTop (mkF m 66 #[.val (.int x0), .val (.int x1), .val (.int x2), .val (.int x3), .val (.int x4), .val (.int (1 : Int32)), .val (.int c0), .val (.int c1), .val (.int c2), .val (.int c3), .val (.ref a3), .unset] []))
    refine own_go (fun t k => XS.iload X129.here hx rfl (hb hby at_66) rfl k) ?_
    show own_G p e below s (own_Q0 n0) 16 128 (T129.setTop (mkF m 68 #[.val (.int x0), .val (.int x1), .val (.int x2), .val (.int x3), .val (.int x4), .val (.int (1 : Int32)), .val (.int c0), .val (.int c1), .val (.int c2), .val (.int c3), .val (.ref a3), .unset] [(.int (1 : Int32))]))
    refine own_go (fun t k => XS.iconst X129.here hx rfl (hb hby at_68) k) ?_
    show own_G p e below s (own_Q0 n0) 16 128 (T129.setTop (mkF m 69 #[.val (.int x0), .val (.int x1), .val (.int x2), .val (.int x3), .val (.int x4), .val (.int (1 : Int32)), .val (.int c0), .val (.int c1), .val (.int c2), .val (.int c3), .val (.ref a3), .unset] [(.int (3 : Int32)), (.int (1 : Int32))]))
    refine own_go (fun t k => XS.icmpYes X129.here hx rfl (pc0 := 69) (pc' := 78) rfl (hb hby at_69) rfl (XT.ii_le_t (by decide)) (by decide) (by decide) k) ?_
    show own_G p e below s (own_Q0 n0) 16 128 (T129.setTop (mkF m 78 #[.val (.int x0), .val (.int x1), .val (.int x2), .val (.int x3), .val (.int x4), .val (.int (1 : Int32)), .val (.int c0), .val (.int c1), .val (.int c2), .val (.int c3), .val (.ref a3), .unset] []))
    refine own_go (fun t k => XS.aload X129.here hx rfl (hb hby at_78) rfl rfl k) ?_
    show own_G p e below s (own_Q0 n0) 16 128 (T129.setTop (mkF m 80 #[.val (.int x0), .val (.int x1), .val (.int x2), .val (.int x3), .val (.int x4), .val (.int (1 : Int32)), .val (.int c0), .val (.int c1), .val (.int c2), .val (.int c3), .val (.ref a3), .unset] [(.ref a3)]))
    obtain ⟨_, _, ⟨T130, L130, k130, n130⟩, -, X130, ⟨Lc130, hQ130, l130, y130, z130⟩, st130⟩ := Jvm.LawKit.callS X129 hx (y := (⟨"com/example/pure_match/purematch/search/CodeCursor", "codesOf", "([B)[C"⟩ : MethodName)) hown (mvT hZ (hw _ (List.mem_of_getElem? (i := 2) rfl))) (mvT hZ (hw _ (List.mem_of_getElem? (i := 3) rfl))) (mvT hZ (hw _ (List.mem_of_getElem? (i := 4) rfl))) (mvT hZ (hw _ (List.mem_of_getElem? (i := 5) rfl))) (by decide) (backOf (W := 0) (rm1_1 l Z a0 hw [] a3 cA128 c0 h129 n0 Z3_0 V129) hZ (hw _ (List.mem_of_getElem? (i := 5) rfl)) (hw _ (List.mem_of_getElem? (i := 4) rfl)) (by decide) (by decide)) (g := (mkF m 80 #[.val (.int x0), .val (.int x1), .val (.int x2), .val (.int x3), .val (.int x4), .val (.int (1 : Int32)), .val (.int c0), .val (.int c1), .val (.int c2), .val (.int c3), .val (.ref a3), .unset] [(.ref a3)])) rfl (by rw [hml]; rfl) (argsL := [(.ref a3)]) (rest := []) (lenOf pd1 rfl) rfl (by show 2 * 0 + _ ≤ _; exact Nat.le_of_eq rfl) (hb hby at_80) (fun _ _ => ⟨rfl, e129, (by decide : 1 + 1 ≤ _), (by decide : 1 + 1 ≤ _)⟩)
    dsimp only [Pt.U, Pt.locs, Pt.cells, Pt.slots] at X130 l130 y130 z130 st130 hQ130
    subst l130 y130 z130
    obtain ⟨a4, kc4, rfl, N4, V4⟩ := hQ130
    refine own_go (st130) ?_
    show own_G p e below s (own_Q0 n0) 16 128 (T130.setTop (mkF m 83 #[.val (.int x0), .val (.int x1), .val (.int x2), .val (.int x3), .val (.int x4), .val (.int (1 : Int32)), .val (.int c0), .val (.int c1), .val (.int c2), .val (.int c3), .val (.ref a3), .unset] [(.ref a4)]))
    refine own_go (fun t k => XS.astore X130.here hx rfl (hb hby at_83) rfl rfl (l' := #[.val (.int x0), .val (.int x1), .val (.int x2), .val (.int x3), .val (.int x4), .val (.int (1 : Int32)), .val (.int c0), .val (.int c1), .val (.int c2), .val (.int c3), .val (.ref a3), .val (.ref a4)]) rfl k) ?_
    show own_G p e below s (own_Q0 n0) 16 128 (T130.setTop (mkF m 85 #[.val (.int x0), .val (.int x1), .val (.int x2), .val (.int x3), .val (.int x4), .val (.int (1 : Int32)), .val (.int c0), .val (.int c1), .val (.int c2), .val (.int c3), .val (.ref a3), .val (.ref a4)] []))
    refine own_go (fun t k => XS.aload X130.here hx rfl (hb hby at_85) rfl rfl k) ?_
    show own_G p e below s (own_Q0 n0) 16 128 (T130.setTop (mkF m 87 #[.val (.int x0), .val (.int x1), .val (.int x2), .val (.int x3), .val (.int x4), .val (.int (1 : Int32)), .val (.int c0), .val (.int c1), .val (.int c2), .val (.int c3), .val (.ref a3), .val (.ref a4)] [(.ref a4)]))
    refine own_go (fun t k => XT.ifnonnullYes X130.here hx rfl (pc0 := 87) (pc' := 92) rfl (hb hby at_87) rfl (by decide) (by decide) k) ?_
    show own_G p e below s (own_Q0 n0) 16 128 (T130.setTop (mkF m 92 #[.val (.int x0), .val (.int x1), .val (.int x2), .val (.int x3), .val (.int x4), .val (.int (1 : Int32)), .val (.int c0), .val (.int c1), .val (.int c2), .val (.int c3), .val (.ref a3), .val (.ref a4)] []))
    refine own_go (fun t k => XS.aload X130.here hx rfl (hb hby at_92) rfl rfl k) ?_
    show own_G p e below s (own_Q0 n0) 16 128 (T130.setTop (mkF m 94 #[.val (.int x0), .val (.int x1), .val (.int x2), .val (.int x3), .val (.int x4), .val (.int (1 : Int32)), .val (.int c0), .val (.int c1), .val (.int c2), .val (.int c3), .val (.ref a3), .val (.ref a4)] [(.ref a4)]))
    refine own_go (own_len X130 hx hZ rfl V4 (g := (mkF m 94 #[.val (.int x0), .val (.int x1), .val (.int x2), .val (.int x3), .val (.int x4), .val (.int (1 : Int32)), .val (.int c0), .val (.int c1), .val (.int c2), .val (.int c3), .val (.ref a3), .val (.ref a4)] [(.ref a4)])) rfl rfl (hb hby at_94)) ?_
    show own_G p e below s (own_Q0 n0) 16 128 (T130.setTop (mkF m 95 #[.val (.int x0), .val (.int x1), .val (.int x2), .val (.int x3), .val (.int x4), .val (.int (1 : Int32)), .val (.int c0), .val (.int c1), .val (.int c2), .val (.int c3), .val (.ref a3), .val (.ref a4)] [(.int (1 : Int32))]))
    refine own_go (fun t k => XS.iload X130.here hx rfl (hb hby at_95) rfl k) ?_
    show own_G p e below s (own_Q0 n0) 16 128 (T130.setTop (mkF m 97 #[.val (.int x0), .val (.int x1), .val (.int x2), .val (.int x3), .val (.int x4), .val (.int (1 : Int32)), .val (.int c0), .val (.int c1), .val (.int c2), .val (.int c3), .val (.ref a3), .val (.ref a4)] [(.int (1 : Int32)), (.int (1 : Int32))]))
    refine own_go (fun t k => XS.icmpYes X130.here hx rfl (pc0 := 97) (pc' := 102) rfl (hb hby at_97) rfl (XT.ii_eq_t rfl) (by decide) (by decide) k) ?_
    show own_G p e below s (own_Q0 n0) 16 128 (T130.setTop (mkF m 102 #[.val (.int x0), .val (.int x1), .val (.int x2), .val (.int x3), .val (.int x4), .val (.int (1 : Int32)), .val (.int c0), .val (.int c1), .val (.int c2), .val (.int c3), .val (.ref a3), .val (.ref a4)] []))
    refine own_go (fun t k => XS.iload X130.here hx rfl (hb hby at_102) rfl k) ?_
    show own_G p e below s (own_Q0 n0) 16 128 (T130.setTop (mkF m 104 #[.val (.int x0), .val (.int x1), .val (.int x2), .val (.int x3), .val (.int x4), .val (.int (1 : Int32)), .val (.int c0), .val (.int c1), .val (.int c2), .val (.int c3), .val (.ref a3), .val (.ref a4)] [(.int (1 : Int32))]))
    refine own_go (fun t k => XS.ifNo X130.here hx rfl (hb hby at_104) rfl (XT.i0_le_f (by decide)) k) ?_
    show own_G p e below s (own_Q0 n0) 16 128 (T130.setTop (mkF m 107 #[.val (.int x0), .val (.int x1), .val (.int x2), .val (.int x3), .val (.int x4), .val (.int (1 : Int32)), .val (.int c0), .val (.int c1), .val (.int c2), .val (.int c3), .val (.ref a3), .val (.ref a4)] []))
    refine own_go (fun t k => XS.aload X130.here hx rfl (hb hby at_107) rfl rfl k) ?_
    show own_G p e below s (own_Q0 n0) 16 128 (T130.setTop (mkF m 109 #[.val (.int x0), .val (.int x1), .val (.int x2), .val (.int x3), .val (.int x4), .val (.int (1 : Int32)), .val (.int c0), .val (.int c1), .val (.int c2), .val (.int c3), .val (.ref a3), .val (.ref a4)] [(.ref a4)]))
    refine own_go (fun t k => XS.iconst X130.here hx rfl (hb hby at_109) k) ?_
    show own_G p e below s (own_Q0 n0) 16 128 (T130.setTop (mkF m 110 #[.val (.int x0), .val (.int x1), .val (.int x2), .val (.int x3), .val (.int x4), .val (.int (1 : Int32)), .val (.int c0), .val (.int c1), .val (.int c2), .val (.int c3), .val (.ref a3), .val (.ref a4)] [(.int (0 : Int32)), (.ref a4)]))
    refine own_go (own_ldC X130 hx hZ rfl V4 (j := (0 : Int32)) (v := (.int (c0 &&& (255 : Int32)))) ⟨by decide, by decide⟩ rfl (g := (mkF m 110 #[.val (.int x0), .val (.int x1), .val (.int x2), .val (.int x3), .val (.int x4), .val (.int (1 : Int32)), .val (.int c0), .val (.int c1), .val (.int c2), .val (.int c3), .val (.ref a3), .val (.ref a4)] [(.int (0 : Int32)), (.ref a4)])) rfl rfl (hb hby at_110)) ?_
    show own_G p e below s (own_Q0 n0) 16 128 (T130.setTop (mkF m 111 #[.val (.int x0), .val (.int x1), .val (.int x2), .val (.int x3), .val (.int x4), .val (.int (1 : Int32)), .val (.int c0), .val (.int c1), .val (.int c2), .val (.int c3), .val (.ref a3), .val (.ref a4)] [(.int (c0 &&& (255 : Int32)))]))
    refine own_go (fun t k => XS.iload X130.here hx rfl (hb hby at_111) rfl k) ?_
    show own_G p e below s (own_Q0 n0) 16 128 (T130.setTop (mkF m 113 #[.val (.int x0), .val (.int x1), .val (.int x2), .val (.int x3), .val (.int x4), .val (.int (1 : Int32)), .val (.int c0), .val (.int c1), .val (.int c2), .val (.int c3), .val (.ref a3), .val (.ref a4)] [(.int c0), (.int (c0 &&& (255 : Int32)))]))
    obtain ⟨_, _, ⟨T131, L131, k131, n131⟩, -, X131, ⟨Lc131, hQ131, l131, y131, z131⟩, st131⟩ := Jvm.LawKit.callS X130 hx (y := (⟨"com/example/pure_match/purematch/search/CodeCursorCodesOfPinLaw", "unsignedOf", "(B)I"⟩ : MethodName)) hown (mvT hZ (hw _ (List.mem_of_getElem? (i := 10) rfl))) (mvT hZ (hw _ (List.mem_of_getElem? (i := 11) rfl))) (mvT hZ (hw _ (List.mem_of_getElem? (i := 12) rfl))) (mvT hZ (hw _ (List.mem_of_getElem? (i := 13) rfl))) (by decide) (backOf (W := 1) (rm3 l Z a0 hw [] c0 T130.heap) hZ (hw _ (List.mem_of_getElem? (i := 13) rfl)) (hw _ (List.mem_of_getElem? (i := 12) rfl)) (by decide) (by decide)) (g := (mkF m 113 #[.val (.int x0), .val (.int x1), .val (.int x2), .val (.int x3), .val (.int x4), .val (.int (1 : Int32)), .val (.int c0), .val (.int c1), .val (.int c2), .val (.int c3), .val (.ref a3), .val (.ref a4)] [(.int c0), (.int (c0 &&& (255 : Int32)))])) rfl (by rw [hml]; rfl) (argsL := [(.int c0)]) (rest := [(.int (c0 &&& (255 : Int32)))]) (lenOf pd3 rfl) rfl (by show 2 * 0 + _ ≤ _; exact Nat.le_of_eq rfl) (hb hby at_113) (fun _ _ => ⟨rfl, rfl, (by decide : 2 + 0 ≤ _), (by decide : 2 + 0 ≤ _)⟩)
    dsimp only [Pt.U, Pt.locs, Pt.cells, Pt.slots] at X131 l131 y131 z131 st131 hQ131
    subst l131 y131 z131
    obtain ⟨rfl, rfl, e131⟩ := hQ131
    refine own_go (st131) ?_
    show own_G p e below s (own_Q0 n0) 16 128 (T131.setTop (mkF m 116 #[.val (.int x0), .val (.int x1), .val (.int x2), .val (.int x3), .val (.int x4), .val (.int (1 : Int32)), .val (.int c0), .val (.int c1), .val (.int c2), .val (.int c3), .val (.ref a3), .val (.ref a4)] [(.int (own_uns c0)), (.int (c0 &&& (255 : Int32)))]))
    refine own_go (fun t k => XS.icmpYes X131.here hx rfl (pc0 := 116) (pc' := 121) rfl (hb hby at_116) rfl (XT.ii_eq_t (own_uns_eq m0)) (by decide) (by decide) k) ?_
    show own_G p e below s (own_Q0 n0) 16 128 (T131.setTop (mkF m 121 #[.val (.int x0), .val (.int x1), .val (.int x2), .val (.int x3), .val (.int x4), .val (.int (1 : Int32)), .val (.int c0), .val (.int c1), .val (.int c2), .val (.int c3), .val (.ref a3), .val (.ref a4)] []))
    refine own_go (fun t k => XS.iload X131.here hx rfl (hb hby at_121) rfl k) ?_
    show own_G p e below s (own_Q0 n0) 16 128 (T131.setTop (mkF m 123 #[.val (.int x0), .val (.int x1), .val (.int x2), .val (.int x3), .val (.int x4), .val (.int (1 : Int32)), .val (.int c0), .val (.int c1), .val (.int c2), .val (.int c3), .val (.ref a3), .val (.ref a4)] [(.int (1 : Int32))]))
    refine own_go (fun t k => XS.iconst X131.here hx rfl (hb hby at_123) k) ?_
    show own_G p e below s (own_Q0 n0) 16 128 (T131.setTop (mkF m 124 #[.val (.int x0), .val (.int x1), .val (.int x2), .val (.int x3), .val (.int x4), .val (.int (1 : Int32)), .val (.int c0), .val (.int c1), .val (.int c2), .val (.int c3), .val (.ref a3), .val (.ref a4)] [(.int (1 : Int32)), (.int (1 : Int32))]))
    refine own_go (fun t k => XS.icmpYes X131.here hx rfl (pc0 := 124) (pc' := 141) rfl (hb hby at_124) rfl (XT.ii_le_t (by decide)) (by decide) (by decide) k) ?_
    show own_G p e below s (own_Q0 n0) 16 128 (T131.setTop (mkF m 141 #[.val (.int x0), .val (.int x1), .val (.int x2), .val (.int x3), .val (.int x4), .val (.int (1 : Int32)), .val (.int c0), .val (.int c1), .val (.int c2), .val (.int c3), .val (.ref a3), .val (.ref a4)] []))
    refine own_go (fun t k => XS.iload X131.here hx rfl (hb hby at_141) rfl k) ?_
    show own_G p e below s (own_Q0 n0) 16 128 (T131.setTop (mkF m 143 #[.val (.int x0), .val (.int x1), .val (.int x2), .val (.int x3), .val (.int x4), .val (.int (1 : Int32)), .val (.int c0), .val (.int c1), .val (.int c2), .val (.int c3), .val (.ref a3), .val (.ref a4)] [(.int (1 : Int32))]))
    refine own_go (fun t k => XS.iconst X131.here hx rfl (hb hby at_143) k) ?_
    show own_G p e below s (own_Q0 n0) 16 128 (T131.setTop (mkF m 144 #[.val (.int x0), .val (.int x1), .val (.int x2), .val (.int x3), .val (.int x4), .val (.int (1 : Int32)), .val (.int c0), .val (.int c1), .val (.int c2), .val (.int c3), .val (.ref a3), .val (.ref a4)] [(.int (2 : Int32)), (.int (1 : Int32))]))
    refine own_go (fun t k => XS.icmpYes X131.here hx rfl (pc0 := 144) (pc' := 161) rfl (hb hby at_144) rfl (XT.ii_le_t (by decide)) (by decide) (by decide) k) ?_
    show own_G p e below s (own_Q0 n0) 16 128 (T131.setTop (mkF m 161 #[.val (.int x0), .val (.int x1), .val (.int x2), .val (.int x3), .val (.int x4), .val (.int (1 : Int32)), .val (.int c0), .val (.int c1), .val (.int c2), .val (.int c3), .val (.ref a3), .val (.ref a4)] []))
    refine own_go (fun t k => XS.iload X131.here hx rfl (hb hby at_161) rfl k) ?_
    show own_G p e below s (own_Q0 n0) 16 128 (T131.setTop (mkF m 163 #[.val (.int x0), .val (.int x1), .val (.int x2), .val (.int x3), .val (.int x4), .val (.int (1 : Int32)), .val (.int c0), .val (.int c1), .val (.int c2), .val (.int c3), .val (.ref a3), .val (.ref a4)] [(.int (1 : Int32))]))
    refine own_go (fun t k => XS.iconst X131.here hx rfl (hb hby at_163) k) ?_
    show own_G p e below s (own_Q0 n0) 16 128 (T131.setTop (mkF m 164 #[.val (.int x0), .val (.int x1), .val (.int x2), .val (.int x3), .val (.int x4), .val (.int (1 : Int32)), .val (.int c0), .val (.int c1), .val (.int c2), .val (.int c3), .val (.ref a3), .val (.ref a4)] [(.int (3 : Int32)), (.int (1 : Int32))]))
    refine own_go (fun t k => XS.icmpYes X131.here hx rfl (pc0 := 164) (pc' := 181) rfl (hb hby at_164) rfl (XT.ii_le_t (by decide)) (by decide) (by decide) k) ?_
    show own_G p e below s (own_Q0 n0) 16 128 (T131.setTop (mkF m 181 #[.val (.int x0), .val (.int x1), .val (.int x2), .val (.int x3), .val (.int x4), .val (.int (1 : Int32)), .val (.int c0), .val (.int c1), .val (.int c2), .val (.int c3), .val (.ref a3), .val (.ref a4)] []))
    refine own_go (fun t k => XS.iconst X131.here hx rfl (hb hby at_181) k) ?_
    show own_G p e below s (own_Q0 n0) 16 128 (T131.setTop (mkF m 182 #[.val (.int x0), .val (.int x1), .val (.int x2), .val (.int x3), .val (.int x4), .val (.int (1 : Int32)), .val (.int c0), .val (.int c1), .val (.int c2), .val (.int c3), .val (.ref a3), .val (.ref a4)] [(.int (1 : Int32))]))
    exact own_leave X131 (some (.int (1 : Int32))) (fun h => by rw [Bd.returns] at h; cases h) Bd.notSynchronized (fun fs hr => retN X131 hx (t := .boolean) Bd.returns (by simp) (hb hby at_182) hr) ⟨rfl, (Fr.app (Fr.app N129 N4) (Fr.nil n0))⟩ (by decide) (by decide)
  · skip
    show own_G p e below s (own_Q0 n0) 16 128 (s₁.setTop (mkF m 25 #[.val (.int x0), .val (.int x1), .val (.int x2), .val (.int x3), .val (.int x4), .val (.int (2 : Int32)), .val (.int c0), .val (.int c1), .val (.int c2), .val (.int c3), .unset, .unset] []))
    refine own_go (fun t k => XS.iload X0.here hx rfl (hb hby at_25) rfl k) ?_
    show own_G p e below s (own_Q0 n0) 16 128 (s₁.setTop (mkF m 27 #[.val (.int x0), .val (.int x1), .val (.int x2), .val (.int x3), .val (.int x4), .val (.int (2 : Int32)), .val (.int c0), .val (.int c1), .val (.int c2), .val (.int c3), .unset, .unset] [(.int (2 : Int32))]))
    obtain ⟨T132, h132, cA132, X132, e132, E132, A132, st132⟩ := newP X0 hx hZ (hw _ (List.mem_of_getElem? (i := 1) rfl)) e0 (g := (mkF m 27 #[.val (.int x0), .val (.int x1), .val (.int x2), .val (.int x3), .val (.int x4), .val (.int (2 : Int32)), .val (.int c0), .val (.int c1), .val (.int c2), .val (.int c3), .unset, .unset] [(.int (2 : Int32))])) rfl (hb hby at_27) rfl (by decide) (cap := 2) (by decide) (by decide) (by decide) (by decide)
    obtain ⟨a3, g132⟩ : ∃ z, z = h0.size := ⟨_, rfl⟩
    rw [← g132] at A132 st132
    have V132 : Arv Z h132 a3 cA132 .byte (2 : Int32) [(.int 0), (.int 0)] (.int 0) := (Arv.new A132 (by decide)).pad (pad_rep [] (.int 0) 2)
    refine own_go st132 ?_
    show own_G p e below s (own_Q0 n0) 16 128 (T132.setTop (mkF m 29 #[.val (.int x0), .val (.int x1), .val (.int x2), .val (.int x3), .val (.int x4), .val (.int (2 : Int32)), .val (.int c0), .val (.int c1), .val (.int c2), .val (.int c3), .unset, .unset] [(.ref a3)]))
    have g3 : n0 ≤ a3 := Nat.le_trans Z0 (Nat.le_of_eq g132.symm)
    have Z3 : n0 ≤ h132.size := Nat.le_trans Z0 E132.1
    refine own_go (fun t k => XS.astore X132.here hx rfl (hb hby at_29) rfl rfl (l' := #[.val (.int x0), .val (.int x1), .val (.int x2), .val (.int x3), .val (.int x4), .val (.int (2 : Int32)), .val (.int c0), .val (.int c1), .val (.int c2), .val (.int c3), .val (.ref a3), .unset]) rfl k) ?_
    show own_G p e below s (own_Q0 n0) 16 128 (T132.setTop (mkF m 31 #[.val (.int x0), .val (.int x1), .val (.int x2), .val (.int x3), .val (.int x4), .val (.int (2 : Int32)), .val (.int c0), .val (.int c1), .val (.int c2), .val (.int c3), .val (.ref a3), .unset] []))
    refine own_go (fun t k => XS.iload X132.here hx rfl (hb hby at_31) rfl k) ?_
    show own_G p e below s (own_Q0 n0) 16 128 (T132.setTop (mkF m 33 #[.val (.int x0), .val (.int x1), .val (.int x2), .val (.int x3), .val (.int x4), .val (.int (2 : Int32)), .val (.int c0), .val (.int c1), .val (.int c2), .val (.int c3), .val (.ref a3), .unset] [(.int (2 : Int32))]))
    refine own_go (fun t k => XS.ifNo X132.here hx rfl (hb hby at_33) rfl (XT.i0_le_f (by decide)) k) ?_
    show own_G p e below s (own_Q0 n0) 16 128 (T132.setTop (mkF m 36 #[.val (.int x0), .val (.int x1), .val (.int x2), .val (.int x3), .val (.int x4), .val (.int (2 : Int32)), .val (.int c0), .val (.int c1), .val (.int c2), .val (.int c3), .val (.ref a3), .unset] []))
    refine own_go (fun t k => XS.aload X132.here hx rfl (hb hby at_36) rfl rfl k) ?_
    show own_G p e below s (own_Q0 n0) 16 128 (T132.setTop (mkF m 38 #[.val (.int x0), .val (.int x1), .val (.int x2), .val (.int x3), .val (.int x4), .val (.int (2 : Int32)), .val (.int c0), .val (.int c1), .val (.int c2), .val (.int c3), .val (.ref a3), .unset] [(.ref a3)]))
    refine own_go (fun t k => XS.iconst X132.here hx rfl (hb hby at_38) k) ?_
    show own_G p e below s (own_Q0 n0) 16 128 (T132.setTop (mkF m 39 #[.val (.int x0), .val (.int x1), .val (.int x2), .val (.int x3), .val (.int x4), .val (.int (2 : Int32)), .val (.int c0), .val (.int c1), .val (.int c2), .val (.int c3), .val (.ref a3), .unset] [(.int (0 : Int32)), (.ref a3)]))
    refine own_go (fun t k => XS.iload X132.here hx rfl (hb hby at_39) rfl k) ?_
    show own_G p e below s (own_Q0 n0) 16 128 (T132.setTop (mkF m 41 #[.val (.int x0), .val (.int x1), .val (.int x2), .val (.int x3), .val (.int x4), .val (.int (2 : Int32)), .val (.int c0), .val (.int c1), .val (.int c2), .val (.int c3), .val (.ref a3), .unset] [(.int c0), (.int (0 : Int32)), (.ref a3)]))
    obtain ⟨T133, h133, X133, e133, W133, V133, st133⟩ := own_stB X132 hx hZ e132 V132 (j := (0 : Int32)) ⟨by decide, by decide⟩ 0 (by decide) (by simp) (vs' := [(.int c0), (.int 0)]) (by rw [m0]; rfl) (g := (mkF m 41 #[.val (.int x0), .val (.int x1), .val (.int x2), .val (.int x3), .val (.int x4), .val (.int (2 : Int32)), .val (.int c0), .val (.int c1), .val (.int c2), .val (.int c3), .val (.ref a3), .unset] [(.int c0), (.int (0 : Int32)), (.ref a3)])) rfl rfl (hb hby at_41)
    have N133 := Fr.snoc X133 (Fr.nil n0) g3
    refine own_go st133 ?_
    show own_G p e below s (own_Q0 n0) 16 128 (T133.setTop (mkF m 42 #[.val (.int x0), .val (.int x1), .val (.int x2), .val (.int x3), .val (.int x4), .val (.int (2 : Int32)), .val (.int c0), .val (.int c1), .val (.int c2), .val (.int c3), .val (.ref a3), .unset] []))
    have Z3_0 : n0 ≤ h133.size := W133.size ▸ Z3
    refine own_go (fun t k => XS.iload X133.here hx rfl (hb hby at_42) rfl k) ?_
    show own_G p e below s (own_Q0 n0) 16 128 (T133.setTop (mkF m 44 #[.val (.int x0), .val (.int x1), .val (.int x2), .val (.int x3), .val (.int x4), .val (.int (2 : Int32)), .val (.int c0), .val (.int c1), .val (.int c2), .val (.int c3), .val (.ref a3), .unset] [(.int (2 : Int32))]))
    refine own_go (fun t k => XS.iconst X133.here hx rfl (hb hby at_44) k) ?_
    show own_G p e below s (own_Q0 n0) 16 128 (T133.setTop (mkF m 45 #[.val (.int x0), .val (.int x1), .val (.int x2), .val (.int x3), .val (.int x4), .val (.int (2 : Int32)), .val (.int c0), .val (.int c1), .val (.int c2), .val (.int c3), .val (.ref a3), .unset] [(.int (1 : Int32)), (.int (2 : Int32))]))
    refine own_go (fun t k => XS.icmpNo X133.here hx rfl (hb hby at_45) rfl (XT.ii_le_f (by decide)) k) ?_
    show own_G p e below s (own_Q0 n0) 16 128 (T133.setTop (mkF m 48 #[.val (.int x0), .val (.int x1), .val (.int x2), .val (.int x3), .val (.int x4), .val (.int (2 : Int32)), .val (.int c0), .val (.int c1), .val (.int c2), .val (.int c3), .val (.ref a3), .unset] []))
    refine own_go (fun t k => XS.aload X133.here hx rfl (hb hby at_48) rfl rfl k) ?_
    show own_G p e below s (own_Q0 n0) 16 128 (T133.setTop (mkF m 50 #[.val (.int x0), .val (.int x1), .val (.int x2), .val (.int x3), .val (.int x4), .val (.int (2 : Int32)), .val (.int c0), .val (.int c1), .val (.int c2), .val (.int c3), .val (.ref a3), .unset] [(.ref a3)]))
    refine own_go (fun t k => XS.iconst X133.here hx rfl (hb hby at_50) k) ?_
    show own_G p e below s (own_Q0 n0) 16 128 (T133.setTop (mkF m 51 #[.val (.int x0), .val (.int x1), .val (.int x2), .val (.int x3), .val (.int x4), .val (.int (2 : Int32)), .val (.int c0), .val (.int c1), .val (.int c2), .val (.int c3), .val (.ref a3), .unset] [(.int (1 : Int32)), (.ref a3)]))
    refine own_go (fun t k => XS.iload X133.here hx rfl (hb hby at_51) rfl k) ?_
    show own_G p e below s (own_Q0 n0) 16 128 (T133.setTop (mkF m 53 #[.val (.int x0), .val (.int x1), .val (.int x2), .val (.int x3), .val (.int x4), .val (.int (2 : Int32)), .val (.int c0), .val (.int c1), .val (.int c2), .val (.int c3), .val (.ref a3), .unset] [(.int c1), (.int (1 : Int32)), (.ref a3)]))
    obtain ⟨T134, h134, X134, e134, W134, V134, st134⟩ := own_stB X133 hx hZ e133 V133 (j := (1 : Int32)) ⟨by decide, by decide⟩ 1 (by decide) (by simp) (vs' := [(.int c0), (.int c1)]) (by rw [m1]; rfl) (g := (mkF m 53 #[.val (.int x0), .val (.int x1), .val (.int x2), .val (.int x3), .val (.int x4), .val (.int (2 : Int32)), .val (.int c0), .val (.int c1), .val (.int c2), .val (.int c3), .val (.ref a3), .unset] [(.int c1), (.int (1 : Int32)), (.ref a3)])) rfl rfl (hb hby at_53)
    have N134 := Fr.snoc X134 N133 g3
    refine own_go st134 ?_
    show own_G p e below s (own_Q0 n0) 16 128 (T134.setTop (mkF m 54 #[.val (.int x0), .val (.int x1), .val (.int x2), .val (.int x3), .val (.int x4), .val (.int (2 : Int32)), .val (.int c0), .val (.int c1), .val (.int c2), .val (.int c3), .val (.ref a3), .unset] []))
    have Z3_1 : n0 ≤ h134.size := W134.size ▸ Z3_0
    refine own_go (fun t k => XS.iload X134.here hx rfl (hb hby at_54) rfl k) ?_
    show own_G p e below s (own_Q0 n0) 16 128 (T134.setTop (mkF m 56 #[.val (.int x0), .val (.int x1), .val (.int x2), .val (.int x3), .val (.int x4), .val (.int (2 : Int32)), .val (.int c0), .val (.int c1), .val (.int c2), .val (.int c3), .val (.ref a3), .unset] [(.int (2 : Int32))]))
    refine own_go (fun t k => XS.iconst X134.here hx rfl (hb hby at_56) k) ?_
    show own_G p e below s (own_Q0 n0) 16 128 (T134.setTop (mkF m 57 #[.val (.int x0), .val (.int x1), .val (.int x2), .val (.int x3), .val (.int x4), .val (.int (2 : Int32)), .val (.int c0), .val (.int c1), .val (.int c2), .val (.int c3), .val (.ref a3), .unset] [(.int (2 : Int32)), (.int (2 : Int32))]))
    refine own_go (fun t k => XS.icmpYes X134.here hx rfl (pc0 := 57) (pc' := 66) rfl (hb hby at_57) rfl (XT.ii_le_t (by decide)) (by decide) (by decide) k) ?_
    show own_G p e below s (own_Q0 n0) 16 128 (T134.setTop (mkF m 66 #[.val (.int x0), .val (.int x1), .val (.int x2), .val (.int x3), .val (.int x4), .val (.int (2 : Int32)), .val (.int c0), .val (.int c1), .val (.int c2), .val (.int c3), .val (.ref a3), .unset] []))
    refine own_go (fun t k => XS.iload X134.here hx rfl (hb hby at_66) rfl k) ?_
    show own_G p e below s (own_Q0 n0) 16 128 (T134.setTop (mkF m 68 #[.val (.int x0), .val (.int x1), .val (.int x2), .val (.int x3), .val (.int x4), .val (.int (2 : Int32)), .val (.int c0), .val (.int c1), .val (.int c2), .val (.int c3), .val (.ref a3), .unset] [(.int (2 : Int32))]))
    refine own_go (fun t k => XS.iconst X134.here hx rfl (hb hby at_68) k) ?_
    show own_G p e below s (own_Q0 n0) 16 128 (T134.setTop (mkF m 69 #[.val (.int x0), .val (.int x1), .val (.int x2), .val (.int x3), .val (.int x4), .val (.int (2 : Int32)), .val (.int c0), .val (.int c1), .val (.int c2), .val (.int c3), .val (.ref a3), .unset] [(.int (3 : Int32)), (.int (2 : Int32))]))
    refine own_go (fun t k => XS.icmpYes X134.here hx rfl (pc0 := 69) (pc' := 78) rfl (hb hby at_69) rfl (XT.ii_le_t (by decide)) (by decide) (by decide) k) ?_
    show own_G p e below s (own_Q0 n0) 16 128 (T134.setTop (mkF m 78 #[.val (.int x0), .val (.int x1), .val (.int x2), .val (.int x3), .val (.int x4), .val (.int (2 : Int32)), .val (.int c0), .val (.int c1), .val (.int c2), .val (.int c3), .val (.ref a3), .unset] []))
    refine own_go (fun t k => XS.aload X134.here hx rfl (hb hby at_78) rfl rfl k) ?_
    show own_G p e below s (own_Q0 n0) 16 128 (T134.setTop (mkF m 80 #[.val (.int x0), .val (.int x1), .val (.int x2), .val (.int x3), .val (.int x4), .val (.int (2 : Int32)), .val (.int c0), .val (.int c1), .val (.int c2), .val (.int c3), .val (.ref a3), .unset] [(.ref a3)]))
    obtain ⟨_, _, ⟨T135, L135, k135, n135⟩, -, X135, ⟨Lc135, hQ135, l135, y135, z135⟩, st135⟩ := Jvm.LawKit.callS X134 hx (y := (⟨"com/example/pure_match/purematch/search/CodeCursor", "codesOf", "([B)[C"⟩ : MethodName)) hown (mvT hZ (hw _ (List.mem_of_getElem? (i := 2) rfl))) (mvT hZ (hw _ (List.mem_of_getElem? (i := 3) rfl))) (mvT hZ (hw _ (List.mem_of_getElem? (i := 4) rfl))) (mvT hZ (hw _ (List.mem_of_getElem? (i := 5) rfl))) (by decide) (backOf (W := 0) (rm1_2 l Z a0 hw [] a3 cA132 c0 c1 h134 n0 Z3_1 V134) hZ (hw _ (List.mem_of_getElem? (i := 5) rfl)) (hw _ (List.mem_of_getElem? (i := 4) rfl)) (by decide) (by decide)) (g := (mkF m 80 #[.val (.int x0), .val (.int x1), .val (.int x2), .val (.int x3), .val (.int x4), .val (.int (2 : Int32)), .val (.int c0), .val (.int c1), .val (.int c2), .val (.int c3), .val (.ref a3), .unset] [(.ref a3)])) rfl (by rw [hml]; rfl) (argsL := [(.ref a3)]) (rest := []) (lenOf pd1 rfl) rfl (by show 2 * 0 + _ ≤ _; exact Nat.le_of_eq rfl) (hb hby at_80) (fun _ _ => ⟨rfl, e134, (by decide : 1 + 1 ≤ _), (by decide : 2 + 2 ≤ _)⟩)
    dsimp only [Pt.U, Pt.locs, Pt.cells, Pt.slots] at X135 l135 y135 z135 st135 hQ135
    subst l135 y135 z135
    obtain ⟨a4, kc4, rfl, N4, V4⟩ := hQ135
    refine own_go (st135) ?_
    show own_G p e below s (own_Q0 n0) 16 128 (T135.setTop (mkF m 83 #[.val (.int x0), .val (.int x1), .val (.int x2), .val (.int x3), .val (.int x4), .val (.int (2 : Int32)), .val (.int c0), .val (.int c1), .val (.int c2), .val (.int c3), .val (.ref a3), .unset] [(.ref a4)]))
    refine own_go (fun t k => XS.astore X135.here hx rfl (hb hby at_83) rfl rfl (l' := #[.val (.int x0), .val (.int x1), .val (.int x2), .val (.int x3), .val (.int x4), .val (.int (2 : Int32)), .val (.int c0), .val (.int c1), .val (.int c2), .val (.int c3), .val (.ref a3), .val (.ref a4)]) rfl k) ?_
    show own_G p e below s (own_Q0 n0) 16 128 (T135.setTop (mkF m 85 #[.val (.int x0), .val (.int x1), .val (.int x2), .val (.int x3), .val (.int x4), .val (.int (2 : Int32)), .val (.int c0), .val (.int c1), .val (.int c2), .val (.int c3), .val (.ref a3), .val (.ref a4)] []))
    refine own_go (fun t k => XS.aload X135.here hx rfl (hb hby at_85) rfl rfl k) ?_
    show own_G p e below s (own_Q0 n0) 16 128 (T135.setTop (mkF m 87 #[.val (.int x0), .val (.int x1), .val (.int x2), .val (.int x3), .val (.int x4), .val (.int (2 : Int32)), .val (.int c0), .val (.int c1), .val (.int c2), .val (.int c3), .val (.ref a3), .val (.ref a4)] [(.ref a4)]))
    refine own_go (fun t k => XT.ifnonnullYes X135.here hx rfl (pc0 := 87) (pc' := 92) rfl (hb hby at_87) rfl (by decide) (by decide) k) ?_
    show own_G p e below s (own_Q0 n0) 16 128 (T135.setTop (mkF m 92 #[.val (.int x0), .val (.int x1), .val (.int x2), .val (.int x3), .val (.int x4), .val (.int (2 : Int32)), .val (.int c0), .val (.int c1), .val (.int c2), .val (.int c3), .val (.ref a3), .val (.ref a4)] []))
    refine own_go (fun t k => XS.aload X135.here hx rfl (hb hby at_92) rfl rfl k) ?_
    show own_G p e below s (own_Q0 n0) 16 128 (T135.setTop (mkF m 94 #[.val (.int x0), .val (.int x1), .val (.int x2), .val (.int x3), .val (.int x4), .val (.int (2 : Int32)), .val (.int c0), .val (.int c1), .val (.int c2), .val (.int c3), .val (.ref a3), .val (.ref a4)] [(.ref a4)]))
    refine own_go (own_len X135 hx hZ rfl V4 (g := (mkF m 94 #[.val (.int x0), .val (.int x1), .val (.int x2), .val (.int x3), .val (.int x4), .val (.int (2 : Int32)), .val (.int c0), .val (.int c1), .val (.int c2), .val (.int c3), .val (.ref a3), .val (.ref a4)] [(.ref a4)])) rfl rfl (hb hby at_94)) ?_
    show own_G p e below s (own_Q0 n0) 16 128 (T135.setTop (mkF m 95 #[.val (.int x0), .val (.int x1), .val (.int x2), .val (.int x3), .val (.int x4), .val (.int (2 : Int32)), .val (.int c0), .val (.int c1), .val (.int c2), .val (.int c3), .val (.ref a3), .val (.ref a4)] [(.int (2 : Int32))]))
    refine own_go (fun t k => XS.iload X135.here hx rfl (hb hby at_95) rfl k) ?_
    show own_G p e below s (own_Q0 n0) 16 128 (T135.setTop (mkF m 97 #[.val (.int x0), .val (.int x1), .val (.int x2), .val (.int x3), .val (.int x4), .val (.int (2 : Int32)), .val (.int c0), .val (.int c1), .val (.int c2), .val (.int c3), .val (.ref a3), .val (.ref a4)] [(.int (2 : Int32)), (.int (2 : Int32))]))
    refine own_go (fun t k => XS.icmpYes X135.here hx rfl (pc0 := 97) (pc' := 102) rfl (hb hby at_97) rfl (XT.ii_eq_t rfl) (by decide) (by decide) k) ?_
    show own_G p e below s (own_Q0 n0) 16 128 (T135.setTop (mkF m 102 #[.val (.int x0), .val (.int x1), .val (.int x2), .val (.int x3), .val (.int x4), .val (.int (2 : Int32)), .val (.int c0), .val (.int c1), .val (.int c2), .val (.int c3), .val (.ref a3), .val (.ref a4)] []))
    refine own_go (fun t k => XS.iload X135.here hx rfl (hb hby at_102) rfl k) ?_
    show own_G p e below s (own_Q0 n0) 16 128 (T135.setTop (mkF m 104 #[.val (.int x0), .val (.int x1), .val (.int x2), .val (.int x3), .val (.int x4), .val (.int (2 : Int32)), .val (.int c0), .val (.int c1), .val (.int c2), .val (.int c3), .val (.ref a3), .val (.ref a4)] [(.int (2 : Int32))]))
    refine own_go (fun t k => XS.ifNo X135.here hx rfl (hb hby at_104) rfl (XT.i0_le_f (by decide)) k) ?_
    show own_G p e below s (own_Q0 n0) 16 128 (T135.setTop (mkF m 107 #[.val (.int x0), .val (.int x1), .val (.int x2), .val (.int x3), .val (.int x4), .val (.int (2 : Int32)), .val (.int c0), .val (.int c1), .val (.int c2), .val (.int c3), .val (.ref a3), .val (.ref a4)] []))
    refine own_go (fun t k => XS.aload X135.here hx rfl (hb hby at_107) rfl rfl k) ?_
    show own_G p e below s (own_Q0 n0) 16 128 (T135.setTop (mkF m 109 #[.val (.int x0), .val (.int x1), .val (.int x2), .val (.int x3), .val (.int x4), .val (.int (2 : Int32)), .val (.int c0), .val (.int c1), .val (.int c2), .val (.int c3), .val (.ref a3), .val (.ref a4)] [(.ref a4)]))
    refine own_go (fun t k => XS.iconst X135.here hx rfl (hb hby at_109) k) ?_
    show own_G p e below s (own_Q0 n0) 16 128 (T135.setTop (mkF m 110 #[.val (.int x0), .val (.int x1), .val (.int x2), .val (.int x3), .val (.int x4), .val (.int (2 : Int32)), .val (.int c0), .val (.int c1), .val (.int c2), .val (.int c3), .val (.ref a3), .val (.ref a4)] [(.int (0 : Int32)), (.ref a4)]))
    refine own_go (own_ldC X135 hx hZ rfl V4 (j := (0 : Int32)) (v := (.int (c0 &&& (255 : Int32)))) ⟨by decide, by decide⟩ rfl (g := (mkF m 110 #[.val (.int x0), .val (.int x1), .val (.int x2), .val (.int x3), .val (.int x4), .val (.int (2 : Int32)), .val (.int c0), .val (.int c1), .val (.int c2), .val (.int c3), .val (.ref a3), .val (.ref a4)] [(.int (0 : Int32)), (.ref a4)])) rfl rfl (hb hby at_110)) ?_
    show own_G p e below s (own_Q0 n0) 16 128 (T135.setTop (mkF m 111 #[.val (.int x0), .val (.int x1), .val (.int x2), .val (.int x3), .val (.int x4), .val (.int (2 : Int32)), .val (.int c0), .val (.int c1), .val (.int c2), .val (.int c3), .val (.ref a3), .val (.ref a4)] [(.int (c0 &&& (255 : Int32)))]))
    refine own_go (fun t k => XS.iload X135.here hx rfl (hb hby at_111) rfl k) ?_
    show own_G p e below s (own_Q0 n0) 16 128 (T135.setTop (mkF m 113 #[.val (.int x0), .val (.int x1), .val (.int x2), .val (.int x3), .val (.int x4), .val (.int (2 : Int32)), .val (.int c0), .val (.int c1), .val (.int c2), .val (.int c3), .val (.ref a3), .val (.ref a4)] [(.int c0), (.int (c0 &&& (255 : Int32)))]))
    obtain ⟨_, _, ⟨T136, L136, k136, n136⟩, -, X136, ⟨Lc136, hQ136, l136, y136, z136⟩, st136⟩ := Jvm.LawKit.callS X135 hx (y := (⟨"com/example/pure_match/purematch/search/CodeCursorCodesOfPinLaw", "unsignedOf", "(B)I"⟩ : MethodName)) hown (mvT hZ (hw _ (List.mem_of_getElem? (i := 10) rfl))) (mvT hZ (hw _ (List.mem_of_getElem? (i := 11) rfl))) (mvT hZ (hw _ (List.mem_of_getElem? (i := 12) rfl))) (mvT hZ (hw _ (List.mem_of_getElem? (i := 13) rfl))) (by decide) (backOf (W := 1) (rm3 l Z a0 hw [] c0 T135.heap) hZ (hw _ (List.mem_of_getElem? (i := 13) rfl)) (hw _ (List.mem_of_getElem? (i := 12) rfl)) (by decide) (by decide)) (g := (mkF m 113 #[.val (.int x0), .val (.int x1), .val (.int x2), .val (.int x3), .val (.int x4), .val (.int (2 : Int32)), .val (.int c0), .val (.int c1), .val (.int c2), .val (.int c3), .val (.ref a3), .val (.ref a4)] [(.int c0), (.int (c0 &&& (255 : Int32)))])) rfl (by rw [hml]; rfl) (argsL := [(.int c0)]) (rest := [(.int (c0 &&& (255 : Int32)))]) (lenOf pd3 rfl) rfl (by show 2 * 0 + _ ≤ _; exact Nat.le_of_eq rfl) (hb hby at_113) (fun _ _ => ⟨rfl, rfl, (by decide : 2 + 0 ≤ _), (by decide : 4 + 0 ≤ _)⟩)
    dsimp only [Pt.U, Pt.locs, Pt.cells, Pt.slots] at X136 l136 y136 z136 st136 hQ136
    subst l136 y136 z136
    obtain ⟨rfl, rfl, e136⟩ := hQ136
    refine own_go (st136) ?_
    show own_G p e below s (own_Q0 n0) 16 128 (T136.setTop (mkF m 116 #[.val (.int x0), .val (.int x1), .val (.int x2), .val (.int x3), .val (.int x4), .val (.int (2 : Int32)), .val (.int c0), .val (.int c1), .val (.int c2), .val (.int c3), .val (.ref a3), .val (.ref a4)] [(.int (own_uns c0)), (.int (c0 &&& (255 : Int32)))]))
    refine own_go (fun t k => XS.icmpYes X136.here hx rfl (pc0 := 116) (pc' := 121) rfl (hb hby at_116) rfl (XT.ii_eq_t (own_uns_eq m0)) (by decide) (by decide) k) ?_
    show own_G p e below s (own_Q0 n0) 16 128 (T136.setTop (mkF m 121 #[.val (.int x0), .val (.int x1), .val (.int x2), .val (.int x3), .val (.int x4), .val (.int (2 : Int32)), .val (.int c0), .val (.int c1), .val (.int c2), .val (.int c3), .val (.ref a3), .val (.ref a4)] []))
    refine own_go (fun t k => XS.iload X136.here hx rfl (hb hby at_121) rfl k) ?_
    show own_G p e below s (own_Q0 n0) 16 128 (T136.setTop (mkF m 123 #[.val (.int x0), .val (.int x1), .val (.int x2), .val (.int x3), .val (.int x4), .val (.int (2 : Int32)), .val (.int c0), .val (.int c1), .val (.int c2), .val (.int c3), .val (.ref a3), .val (.ref a4)] [(.int (2 : Int32))]))
    refine own_go (fun t k => XS.iconst X136.here hx rfl (hb hby at_123) k) ?_
    show own_G p e below s (own_Q0 n0) 16 128 (T136.setTop (mkF m 124 #[.val (.int x0), .val (.int x1), .val (.int x2), .val (.int x3), .val (.int x4), .val (.int (2 : Int32)), .val (.int c0), .val (.int c1), .val (.int c2), .val (.int c3), .val (.ref a3), .val (.ref a4)] [(.int (1 : Int32)), (.int (2 : Int32))]))
    refine own_go (fun t k => XS.icmpNo X136.here hx rfl (hb hby at_124) rfl (XT.ii_le_f (by decide)) k) ?_
    show own_G p e below s (own_Q0 n0) 16 128 (T136.setTop (mkF m 127 #[.val (.int x0), .val (.int x1), .val (.int x2), .val (.int x3), .val (.int x4), .val (.int (2 : Int32)), .val (.int c0), .val (.int c1), .val (.int c2), .val (.int c3), .val (.ref a3), .val (.ref a4)] []))
    refine own_go (fun t k => XS.aload X136.here hx rfl (hb hby at_127) rfl rfl k) ?_
    show own_G p e below s (own_Q0 n0) 16 128 (T136.setTop (mkF m 129 #[.val (.int x0), .val (.int x1), .val (.int x2), .val (.int x3), .val (.int x4), .val (.int (2 : Int32)), .val (.int c0), .val (.int c1), .val (.int c2), .val (.int c3), .val (.ref a3), .val (.ref a4)] [(.ref a4)]))
    refine own_go (fun t k => XS.iconst X136.here hx rfl (hb hby at_129) k) ?_
    show own_G p e below s (own_Q0 n0) 16 128 (T136.setTop (mkF m 130 #[.val (.int x0), .val (.int x1), .val (.int x2), .val (.int x3), .val (.int x4), .val (.int (2 : Int32)), .val (.int c0), .val (.int c1), .val (.int c2), .val (.int c3), .val (.ref a3), .val (.ref a4)] [(.int (1 : Int32)), (.ref a4)]))
    refine own_go (own_ldC X136 hx hZ e136 V4 (j := (1 : Int32)) (v := (.int (c1 &&& (255 : Int32)))) ⟨by decide, by decide⟩ rfl (g := (mkF m 130 #[.val (.int x0), .val (.int x1), .val (.int x2), .val (.int x3), .val (.int x4), .val (.int (2 : Int32)), .val (.int c0), .val (.int c1), .val (.int c2), .val (.int c3), .val (.ref a3), .val (.ref a4)] [(.int (1 : Int32)), (.ref a4)])) rfl rfl (hb hby at_130)) ?_
    show own_G p e below s (own_Q0 n0) 16 128 (T136.setTop (mkF m 131 #[.val (.int x0), .val (.int x1), .val (.int x2), .val (.int x3), .val (.int x4), .val (.int (2 : Int32)), .val (.int c0), .val (.int c1), .val (.int c2), .val (.int c3), .val (.ref a3), .val (.ref a4)] [(.int (c1 &&& (255 : Int32)))]))
    refine own_go (fun t k => XS.iload X136.here hx rfl (hb hby at_131) rfl k) ?_
    show own_G p e below s (own_Q0 n0) 16 128 (T136.setTop (mkF m 133 #[.val (.int x0), .val (.int x1), .val (.int x2), .val (.int x3), .val (.int x4), .val (.int (2 : Int32)), .val (.int c0), .val (.int c1), .val (.int c2), .val (.int c3), .val (.ref a3), .val (.ref a4)] [(.int c1), (.int (c1 &&& (255 : Int32)))]))
    obtain ⟨_, _, ⟨T137, L137, k137, n137⟩, -, X137, ⟨Lc137, hQ137, l137, y137, z137⟩, st137⟩ := Jvm.LawKit.callS X136 hx (y := (⟨"com/example/pure_match/purematch/search/CodeCursorCodesOfPinLaw", "unsignedOf", "(B)I"⟩ : MethodName)) hown (mvT hZ (hw _ (List.mem_of_getElem? (i := 10) rfl))) (mvT hZ (hw _ (List.mem_of_getElem? (i := 11) rfl))) (mvT hZ (hw _ (List.mem_of_getElem? (i := 12) rfl))) (mvT hZ (hw _ (List.mem_of_getElem? (i := 13) rfl))) (by decide) (backOf (W := 1) (rm3 l Z a0 hw [] c1 T135.heap) hZ (hw _ (List.mem_of_getElem? (i := 13) rfl)) (hw _ (List.mem_of_getElem? (i := 12) rfl)) (by decide) (by decide)) (g := (mkF m 133 #[.val (.int x0), .val (.int x1), .val (.int x2), .val (.int x3), .val (.int x4), .val (.int (2 : Int32)), .val (.int c0), .val (.int c1), .val (.int c2), .val (.int c3), .val (.ref a3), .val (.ref a4)] [(.int c1), (.int (c1 &&& (255 : Int32)))])) rfl (by rw [hml]; rfl) (argsL := [(.int c1)]) (rest := [(.int (c1 &&& (255 : Int32)))]) (lenOf pd3 rfl) rfl (by show 2 * 0 + _ ≤ _; exact Nat.le_of_eq rfl) (hb hby at_133) (fun _ _ => ⟨rfl, e136, (by decide : 2 + 0 ≤ _), (by decide : 4 + 0 ≤ _)⟩)
    dsimp only [Pt.U, Pt.locs, Pt.cells, Pt.slots] at X137 l137 y137 z137 st137 hQ137
    subst l137 y137 z137
    obtain ⟨rfl, rfl, e137⟩ := hQ137
    refine own_go (st137) ?_
    show own_G p e below s (own_Q0 n0) 16 128 (T137.setTop (mkF m 136 #[.val (.int x0), .val (.int x1), .val (.int x2), .val (.int x3), .val (.int x4), .val (.int (2 : Int32)), .val (.int c0), .val (.int c1), .val (.int c2), .val (.int c3), .val (.ref a3), .val (.ref a4)] [(.int (own_uns c1)), (.int (c1 &&& (255 : Int32)))]))
    refine own_go (fun t k => XS.icmpYes X137.here hx rfl (pc0 := 136) (pc' := 141) rfl (hb hby at_136) rfl (XT.ii_eq_t (own_uns_eq m1)) (by decide) (by decide) k) ?_
    show own_G p e below s (own_Q0 n0) 16 128 (T137.setTop (mkF m 141 #[.val (.int x0), .val (.int x1), .val (.int x2), .val (.int x3), .val (.int x4), .val (.int (2 : Int32)), .val (.int c0), .val (.int c1), .val (.int c2), .val (.int c3), .val (.ref a3), .val (.ref a4)] []))
    refine own_go (fun t k => XS.iload X137.here hx rfl (hb hby at_141) rfl k) ?_
    show own_G p e below s (own_Q0 n0) 16 128 (T137.setTop (mkF m 143 #[.val (.int x0), .val (.int x1), .val (.int x2), .val (.int x3), .val (.int x4), .val (.int (2 : Int32)), .val (.int c0), .val (.int c1), .val (.int c2), .val (.int c3), .val (.ref a3), .val (.ref a4)] [(.int (2 : Int32))]))
    refine own_go (fun t k => XS.iconst X137.here hx rfl (hb hby at_143) k) ?_
    show own_G p e below s (own_Q0 n0) 16 128 (T137.setTop (mkF m 144 #[.val (.int x0), .val (.int x1), .val (.int x2), .val (.int x3), .val (.int x4), .val (.int (2 : Int32)), .val (.int c0), .val (.int c1), .val (.int c2), .val (.int c3), .val (.ref a3), .val (.ref a4)] [(.int (2 : Int32)), (.int (2 : Int32))]))
    refine own_go (fun t k => XS.icmpYes X137.here hx rfl (pc0 := 144) (pc' := 161) rfl (hb hby at_144) rfl (XT.ii_le_t (by decide)) (by decide) (by decide) k) ?_
    show own_G p e below s (own_Q0 n0) 16 128 (T137.setTop (mkF m 161 #[.val (.int x0), .val (.int x1), .val (.int x2), .val (.int x3), .val (.int x4), .val (.int (2 : Int32)), .val (.int c0), .val (.int c1), .val (.int c2), .val (.int c3), .val (.ref a3), .val (.ref a4)] []))
    refine own_go (fun t k => XS.iload X137.here hx rfl (hb hby at_161) rfl k) ?_
    show own_G p e below s (own_Q0 n0) 16 128 (T137.setTop (mkF m 163 #[.val (.int x0), .val (.int x1), .val (.int x2), .val (.int x3), .val (.int x4), .val (.int (2 : Int32)), .val (.int c0), .val (.int c1), .val (.int c2), .val (.int c3), .val (.ref a3), .val (.ref a4)] [(.int (2 : Int32))]))
    refine own_go (fun t k => XS.iconst X137.here hx rfl (hb hby at_163) k) ?_
    show own_G p e below s (own_Q0 n0) 16 128 (T137.setTop (mkF m 164 #[.val (.int x0), .val (.int x1), .val (.int x2), .val (.int x3), .val (.int x4), .val (.int (2 : Int32)), .val (.int c0), .val (.int c1), .val (.int c2), .val (.int c3), .val (.ref a3), .val (.ref a4)] [(.int (3 : Int32)), (.int (2 : Int32))]))
    refine own_go (fun t k => XS.icmpYes X137.here hx rfl (pc0 := 164) (pc' := 181) rfl (hb hby at_164) rfl (XT.ii_le_t (by decide)) (by decide) (by decide) k) ?_
    show own_G p e below s (own_Q0 n0) 16 128 (T137.setTop (mkF m 181 #[.val (.int x0), .val (.int x1), .val (.int x2), .val (.int x3), .val (.int x4), .val (.int (2 : Int32)), .val (.int c0), .val (.int c1), .val (.int c2), .val (.int c3), .val (.ref a3), .val (.ref a4)] []))
    refine own_go (fun t k => XS.iconst X137.here hx rfl (hb hby at_181) k) ?_
    show own_G p e below s (own_Q0 n0) 16 128 (T137.setTop (mkF m 182 #[.val (.int x0), .val (.int x1), .val (.int x2), .val (.int x3), .val (.int x4), .val (.int (2 : Int32)), .val (.int c0), .val (.int c1), .val (.int c2), .val (.int c3), .val (.ref a3), .val (.ref a4)] [(.int (1 : Int32))]))
    exact own_leave X137 (some (.int (1 : Int32))) (fun h => by rw [Bd.returns] at h; cases h) Bd.notSynchronized (fun fs hr => retN X137 hx (t := .boolean) Bd.returns (by simp) (hb hby at_182) hr) ⟨rfl, (Fr.app (Fr.app (Fr.app N134 N4) (Fr.nil n0)) (Fr.nil n0))⟩ (by decide) (by decide)
  · skip
    show own_G p e below s (own_Q0 n0) 16 128 (s₁.setTop (mkF m 25 #[.val (.int x0), .val (.int x1), .val (.int x2), .val (.int x3), .val (.int x4), .val (.int (3 : Int32)), .val (.int c0), .val (.int c1), .val (.int c2), .val (.int c3), .unset, .unset] []))
    refine own_go (fun t k => XS.iload X0.here hx rfl (hb hby at_25) rfl k) ?_
    show own_G p e below s (own_Q0 n0) 16 128 (s₁.setTop (mkF m 27 #[.val (.int x0), .val (.int x1), .val (.int x2), .val (.int x3), .val (.int x4), .val (.int (3 : Int32)), .val (.int c0), .val (.int c1), .val (.int c2), .val (.int c3), .unset, .unset] [(.int (3 : Int32))]))
    obtain ⟨T138, h138, cA138, X138, e138, E138, A138, st138⟩ := newP X0 hx hZ (hw _ (List.mem_of_getElem? (i := 1) rfl)) e0 (g := (mkF m 27 #[.val (.int x0), .val (.int x1), .val (.int x2), .val (.int x3), .val (.int x4), .val (.int (3 : Int32)), .val (.int c0), .val (.int c1), .val (.int c2), .val (.int c3), .unset, .unset] [(.int (3 : Int32))])) rfl (hb hby at_27) rfl (by decide) (cap := 3) (by decide) (by decide) (by decide) (by decide)
    obtain ⟨a3, g138⟩ : ∃ z, z = h0.size := ⟨_, rfl⟩
    rw [← g138] at A138 st138
    have V138 : Arv Z h138 a3 cA138 .byte (3 : Int32) [(.int 0), (.int 0), (.int 0)] (.int 0) := (Arv.new A138 (by decide)).pad (pad_rep [] (.int 0) 3)
    refine own_go st138 ?_
    show own_G p e below s (own_Q0 n0) 16 128 (T138.setTop (mkF m 29 #[.val (.int x0), .val (.int x1), .val (.int x2), .val (.int x3), .val (.int x4), .val (.int (3 : Int32)), .val (.int c0), .val (.int c1), .val (.int c2), .val (.int c3), .unset, .unset] [(.ref a3)]))
    have g3 : n0 ≤ a3 := Nat.le_trans Z0 (Nat.le_of_eq g138.symm)
    have Z3 : n0 ≤ h138.size := Nat.le_trans Z0 E138.1
    refine own_go (fun t k => XS.astore X138.here hx rfl (hb hby at_29) rfl rfl (l' := #[.val (.int x0), .val (.int x1), .val (.int x2), .val (.int x3), .val (.int x4), .val (.int (3 : Int32)), .val (.int c0), .val (.int c1), .val (.int c2), .val (.int c3), .val (.ref a3), .unset]) rfl k) ?_
    show own_G p e below s (own_Q0 n0) 16 128 (T138.setTop (mkF m 31 #[.val (.int x0), .val (.int x1), .val (.int x2), .val (.int x3), .val (.int x4), .val (.int (3 : Int32)), .val (.int c0), .val (.int c1), .val (.int c2), .val (.int c3), .val (.ref a3), .unset] []))
    refine own_go (fun t k => XS.iload X138.here hx rfl (hb hby at_31) rfl k) ?_
    show own_G p e below s (own_Q0 n0) 16 128 (T138.setTop (mkF m 33 #[.val (.int x0), .val (.int x1), .val (.int x2), .val (.int x3), .val (.int x4), .val (.int (3 : Int32)), .val (.int c0), .val (.int c1), .val (.int c2), .val (.int c3), .val (.ref a3), .unset] [(.int (3 : Int32))]))
    refine own_go (fun t k => XS.ifNo X138.here hx rfl (hb hby at_33) rfl (XT.i0_le_f (by decide)) k) ?_
    show own_G p e below s (own_Q0 n0) 16 128 (T138.setTop (mkF m 36 #[.val (.int x0), .val (.int x1), .val (.int x2), .val (.int x3), .val (.int x4), .val (.int (3 : Int32)), .val (.int c0), .val (.int c1), .val (.int c2), .val (.int c3), .val (.ref a3), .unset] []))
    refine own_go (fun t k => XS.aload X138.here hx rfl (hb hby at_36) rfl rfl k) ?_
    show own_G p e below s (own_Q0 n0) 16 128 (T138.setTop (mkF m 38 #[.val (.int x0), .val (.int x1), .val (.int x2), .val (.int x3), .val (.int x4), .val (.int (3 : Int32)), .val (.int c0), .val (.int c1), .val (.int c2), .val (.int c3), .val (.ref a3), .unset] [(.ref a3)]))
    refine own_go (fun t k => XS.iconst X138.here hx rfl (hb hby at_38) k) ?_
    show own_G p e below s (own_Q0 n0) 16 128 (T138.setTop (mkF m 39 #[.val (.int x0), .val (.int x1), .val (.int x2), .val (.int x3), .val (.int x4), .val (.int (3 : Int32)), .val (.int c0), .val (.int c1), .val (.int c2), .val (.int c3), .val (.ref a3), .unset] [(.int (0 : Int32)), (.ref a3)]))
    refine own_go (fun t k => XS.iload X138.here hx rfl (hb hby at_39) rfl k) ?_
    show own_G p e below s (own_Q0 n0) 16 128 (T138.setTop (mkF m 41 #[.val (.int x0), .val (.int x1), .val (.int x2), .val (.int x3), .val (.int x4), .val (.int (3 : Int32)), .val (.int c0), .val (.int c1), .val (.int c2), .val (.int c3), .val (.ref a3), .unset] [(.int c0), (.int (0 : Int32)), (.ref a3)]))
    obtain ⟨T139, h139, X139, e139, W139, V139, st139⟩ := own_stB X138 hx hZ e138 V138 (j := (0 : Int32)) ⟨by decide, by decide⟩ 0 (by decide) (by simp) (vs' := [(.int c0), (.int 0), (.int 0)]) (by rw [m0]; rfl) (g := (mkF m 41 #[.val (.int x0), .val (.int x1), .val (.int x2), .val (.int x3), .val (.int x4), .val (.int (3 : Int32)), .val (.int c0), .val (.int c1), .val (.int c2), .val (.int c3), .val (.ref a3), .unset] [(.int c0), (.int (0 : Int32)), (.ref a3)])) rfl rfl (hb hby at_41)
    have N139 := Fr.snoc X139 (Fr.nil n0) g3
    refine own_go st139 ?_
    show own_G p e below s (own_Q0 n0) 16 128 (T139.setTop (mkF m 42 #[.val (.int x0), .val (.int x1), .val (.int x2), .val (.int x3), .val (.int x4), .val (.int (3 : Int32)), .val (.int c0), .val (.int c1), .val (.int c2), .val (.int c3), .val (.ref a3), .unset] []))
    have Z3_0 : n0 ≤ h139.size := W139.size ▸ Z3
    refine own_go (fun t k => XS.iload X139.here hx rfl (hb hby at_42) rfl k) ?_
    show own_G p e below s (own_Q0 n0) 16 128 (T139.setTop (mkF m 44 #[.val (.int x0), .val (.int x1), .val (.int x2), .val (.int x3), .val (.int x4), .val (.int (3 : Int32)), .val (.int c0), .val (.int c1), .val (.int c2), .val (.int c3), .val (.ref a3), .unset] [(.int (3 : Int32))]))
    refine own_go (fun t k => XS.iconst X139.here hx rfl (hb hby at_44) k) ?_
    show own_G p e below s (own_Q0 n0) 16 128 (T139.setTop (mkF m 45 #[.val (.int x0), .val (.int x1), .val (.int x2), .val (.int x3), .val (.int x4), .val (.int (3 : Int32)), .val (.int c0), .val (.int c1), .val (.int c2), .val (.int c3), .val (.ref a3), .unset] [(.int (1 : Int32)), (.int (3 : Int32))]))
    refine own_go (fun t k => XS.icmpNo X139.here hx rfl (hb hby at_45) rfl (XT.ii_le_f (by decide)) k) ?_
    show own_G p e below s (own_Q0 n0) 16 128 (T139.setTop (mkF m 48 #[.val (.int x0), .val (.int x1), .val (.int x2), .val (.int x3), .val (.int x4), .val (.int (3 : Int32)), .val (.int c0), .val (.int c1), .val (.int c2), .val (.int c3), .val (.ref a3), .unset] []))
    refine own_go (fun t k => XS.aload X139.here hx rfl (hb hby at_48) rfl rfl k) ?_
    show own_G p e below s (own_Q0 n0) 16 128 (T139.setTop (mkF m 50 #[.val (.int x0), .val (.int x1), .val (.int x2), .val (.int x3), .val (.int x4), .val (.int (3 : Int32)), .val (.int c0), .val (.int c1), .val (.int c2), .val (.int c3), .val (.ref a3), .unset] [(.ref a3)]))
    refine own_go (fun t k => XS.iconst X139.here hx rfl (hb hby at_50) k) ?_
    show own_G p e below s (own_Q0 n0) 16 128 (T139.setTop (mkF m 51 #[.val (.int x0), .val (.int x1), .val (.int x2), .val (.int x3), .val (.int x4), .val (.int (3 : Int32)), .val (.int c0), .val (.int c1), .val (.int c2), .val (.int c3), .val (.ref a3), .unset] [(.int (1 : Int32)), (.ref a3)]))
    refine own_go (fun t k => XS.iload X139.here hx rfl (hb hby at_51) rfl k) ?_
    show own_G p e below s (own_Q0 n0) 16 128 (T139.setTop (mkF m 53 #[.val (.int x0), .val (.int x1), .val (.int x2), .val (.int x3), .val (.int x4), .val (.int (3 : Int32)), .val (.int c0), .val (.int c1), .val (.int c2), .val (.int c3), .val (.ref a3), .unset] [(.int c1), (.int (1 : Int32)), (.ref a3)]))
    obtain ⟨T140, h140, X140, e140, W140, V140, st140⟩ := own_stB X139 hx hZ e139 V139 (j := (1 : Int32)) ⟨by decide, by decide⟩ 1 (by decide) (by simp) (vs' := [(.int c0), (.int c1), (.int 0)]) (by rw [m1]; rfl) (g := (mkF m 53 #[.val (.int x0), .val (.int x1), .val (.int x2), .val (.int x3), .val (.int x4), .val (.int (3 : Int32)), .val (.int c0), .val (.int c1), .val (.int c2), .val (.int c3), .val (.ref a3), .unset] [(.int c1), (.int (1 : Int32)), (.ref a3)])) rfl rfl (hb hby at_53)
    have N140 := Fr.snoc X140 N139 g3
    refine own_go st140 ?_
    show own_G p e below s (own_Q0 n0) 16 128 (T140.setTop (mkF m 54 #[.val (.int x0), .val (.int x1), .val (.int x2), .val (.int x3), .val (.int x4), .val (.int (3 : Int32)), .val (.int c0), .val (.int c1), .val (.int c2), .val (.int c3), .val (.ref a3), .unset] []))
    have Z3_1 : n0 ≤ h140.size := W140.size ▸ Z3_0
    refine own_go (fun t k => XS.iload X140.here hx rfl (hb hby at_54) rfl k) ?_
    show own_G p e below s (own_Q0 n0) 16 128 (T140.setTop (mkF m 56 #[.val (.int x0), .val (.int x1), .val (.int x2), .val (.int x3), .val (.int x4), .val (.int (3 : Int32)), .val (.int c0), .val (.int c1), .val (.int c2), .val (.int c3), .val (.ref a3), .unset] [(.int (3 : Int32))]))
    refine own_go (fun t k => XS.iconst X140.here hx rfl (hb hby at_56) k) ?_
    show own_G p e below s (own_Q0 n0) 16 128 (T140.setTop (mkF m 57 #[.val (.int x0), .val (.int x1), .val (.int x2), .val (.int x3), .val (.int x4), .val (.int (3 : Int32)), .val (.int c0), .val (.int c1), .val (.int c2), .val (.int c3), .val (.ref a3), .unset] [(.int (2 : Int32)), (.int (3 : Int32))]))
    refine own_go (fun t k => XS.icmpNo X140.here hx rfl (hb hby at_57) rfl (XT.ii_le_f (by decide)) k) ?_
    show own_G p e below s (own_Q0 n0) 16 128 (T140.setTop (mkF m 60 #[.val (.int x0), .val (.int x1), .val (.int x2), .val (.int x3), .val (.int x4), .val (.int (3 : Int32)), .val (.int c0), .val (.int c1), .val (.int c2), .val (.int c3), .val (.ref a3), .unset] []))
    refine own_go (fun t k => XS.aload X140.here hx rfl (hb hby at_60) rfl rfl k) ?_
    show own_G p e below s (own_Q0 n0) 16 128 (T140.setTop (mkF m 62 #[.val (.int x0), .val (.int x1), .val (.int x2), .val (.int x3), .val (.int x4), .val (.int (3 : Int32)), .val (.int c0), .val (.int c1), .val (.int c2), .val (.int c3), .val (.ref a3), .unset] [(.ref a3)]))
    refine own_go (fun t k => XS.iconst X140.here hx rfl (hb hby at_62) k) ?_
    show own_G p e below s (own_Q0 n0) 16 128 (T140.setTop (mkF m 63 #[.val (.int x0), .val (.int x1), .val (.int x2), .val (.int x3), .val (.int x4), .val (.int (3 : Int32)), .val (.int c0), .val (.int c1), .val (.int c2), .val (.int c3), .val (.ref a3), .unset] [(.int (2 : Int32)), (.ref a3)]))
    refine own_go (fun t k => XS.iload X140.here hx rfl (hb hby at_63) rfl k) ?_
    show own_G p e below s (own_Q0 n0) 16 128 (T140.setTop (mkF m 65 #[.val (.int x0), .val (.int x1), .val (.int x2), .val (.int x3), .val (.int x4), .val (.int (3 : Int32)), .val (.int c0), .val (.int c1), .val (.int c2), .val (.int c3), .val (.ref a3), .unset] [(.int c2), (.int (2 : Int32)), (.ref a3)]))
    obtain ⟨T141, h141, X141, e141, W141, V141, st141⟩ := own_stB X140 hx hZ e140 V140 (j := (2 : Int32)) ⟨by decide, by decide⟩ 2 (by decide) (by simp) (vs' := [(.int c0), (.int c1), (.int c2)]) (by rw [m2]; rfl) (g := (mkF m 65 #[.val (.int x0), .val (.int x1), .val (.int x2), .val (.int x3), .val (.int x4), .val (.int (3 : Int32)), .val (.int c0), .val (.int c1), .val (.int c2), .val (.int c3), .val (.ref a3), .unset] [(.int c2), (.int (2 : Int32)), (.ref a3)])) rfl rfl (hb hby at_65)
    have N141 := Fr.snoc X141 N140 g3
    refine own_go st141 ?_
    show own_G p e below s (own_Q0 n0) 16 128 (T141.setTop (mkF m 66 #[.val (.int x0), .val (.int x1), .val (.int x2), .val (.int x3), .val (.int x4), .val (.int (3 : Int32)), .val (.int c0), .val (.int c1), .val (.int c2), .val (.int c3), .val (.ref a3), .unset] []))
    have Z3_2 : n0 ≤ h141.size := W141.size ▸ Z3_1
    refine own_go (fun t k => XS.iload X141.here hx rfl (hb hby at_66) rfl k) ?_
    show own_G p e below s (own_Q0 n0) 16 128 (T141.setTop (mkF m 68 #[.val (.int x0), .val (.int x1), .val (.int x2), .val (.int x3), .val (.int x4), .val (.int (3 : Int32)), .val (.int c0), .val (.int c1), .val (.int c2), .val (.int c3), .val (.ref a3), .unset] [(.int (3 : Int32))]))
    refine own_go (fun t k => XS.iconst X141.here hx rfl (hb hby at_68) k) ?_
    show own_G p e below s (own_Q0 n0) 16 128 (T141.setTop (mkF m 69 #[.val (.int x0), .val (.int x1), .val (.int x2), .val (.int x3), .val (.int x4), .val (.int (3 : Int32)), .val (.int c0), .val (.int c1), .val (.int c2), .val (.int c3), .val (.ref a3), .unset] [(.int (3 : Int32)), (.int (3 : Int32))]))
    refine own_go (fun t k => XS.icmpYes X141.here hx rfl (pc0 := 69) (pc' := 78) rfl (hb hby at_69) rfl (XT.ii_le_t (by decide)) (by decide) (by decide) k) ?_
    show own_G p e below s (own_Q0 n0) 16 128 (T141.setTop (mkF m 78 #[.val (.int x0), .val (.int x1), .val (.int x2), .val (.int x3), .val (.int x4), .val (.int (3 : Int32)), .val (.int c0), .val (.int c1), .val (.int c2), .val (.int c3), .val (.ref a3), .unset] []))
    refine own_go (fun t k => XS.aload X141.here hx rfl (hb hby at_78) rfl rfl k) ?_
    show own_G p e below s (own_Q0 n0) 16 128 (T141.setTop (mkF m 80 #[.val (.int x0), .val (.int x1), .val (.int x2), .val (.int x3), .val (.int x4), .val (.int (3 : Int32)), .val (.int c0), .val (.int c1), .val (.int c2), .val (.int c3), .val (.ref a3), .unset] [(.ref a3)]))
    obtain ⟨_, _, ⟨T142, L142, k142, n142⟩, -, X142, ⟨Lc142, hQ142, l142, y142, z142⟩, st142⟩ := Jvm.LawKit.callS X141 hx (y := (⟨"com/example/pure_match/purematch/search/CodeCursor", "codesOf", "([B)[C"⟩ : MethodName)) hown (mvT hZ (hw _ (List.mem_of_getElem? (i := 2) rfl))) (mvT hZ (hw _ (List.mem_of_getElem? (i := 3) rfl))) (mvT hZ (hw _ (List.mem_of_getElem? (i := 4) rfl))) (mvT hZ (hw _ (List.mem_of_getElem? (i := 5) rfl))) (by decide) (backOf (W := 0) (rm1_3 l Z a0 hw [] a3 cA138 c0 c1 c2 h141 n0 Z3_2 V141) hZ (hw _ (List.mem_of_getElem? (i := 5) rfl)) (hw _ (List.mem_of_getElem? (i := 4) rfl)) (by decide) (by decide)) (g := (mkF m 80 #[.val (.int x0), .val (.int x1), .val (.int x2), .val (.int x3), .val (.int x4), .val (.int (3 : Int32)), .val (.int c0), .val (.int c1), .val (.int c2), .val (.int c3), .val (.ref a3), .unset] [(.ref a3)])) rfl (by rw [hml]; rfl) (argsL := [(.ref a3)]) (rest := []) (lenOf pd1 rfl) rfl (by show 2 * 0 + _ ≤ _; exact Nat.le_of_eq rfl) (hb hby at_80) (fun _ _ => ⟨rfl, e141, (by decide : 1 + 1 ≤ _), (by decide : 3 + 3 ≤ _)⟩)
    dsimp only [Pt.U, Pt.locs, Pt.cells, Pt.slots] at X142 l142 y142 z142 st142 hQ142
    subst l142 y142 z142
    obtain ⟨a4, kc4, rfl, N4, V4⟩ := hQ142
    refine own_go (st142) ?_
    show own_G p e below s (own_Q0 n0) 16 128 (T142.setTop (mkF m 83 #[.val (.int x0), .val (.int x1), .val (.int x2), .val (.int x3), .val (.int x4), .val (.int (3 : Int32)), .val (.int c0), .val (.int c1), .val (.int c2), .val (.int c3), .val (.ref a3), .unset] [(.ref a4)]))
    refine own_go (fun t k => XS.astore X142.here hx rfl (hb hby at_83) rfl rfl (l' := #[.val (.int x0), .val (.int x1), .val (.int x2), .val (.int x3), .val (.int x4), .val (.int (3 : Int32)), .val (.int c0), .val (.int c1), .val (.int c2), .val (.int c3), .val (.ref a3), .val (.ref a4)]) rfl k) ?_
    show own_G p e below s (own_Q0 n0) 16 128 (T142.setTop (mkF m 85 #[.val (.int x0), .val (.int x1), .val (.int x2), .val (.int x3), .val (.int x4), .val (.int (3 : Int32)), .val (.int c0), .val (.int c1), .val (.int c2), .val (.int c3), .val (.ref a3), .val (.ref a4)] []))
    refine own_go (fun t k => XS.aload X142.here hx rfl (hb hby at_85) rfl rfl k) ?_
    show own_G p e below s (own_Q0 n0) 16 128 (T142.setTop (mkF m 87 #[.val (.int x0), .val (.int x1), .val (.int x2), .val (.int x3), .val (.int x4), .val (.int (3 : Int32)), .val (.int c0), .val (.int c1), .val (.int c2), .val (.int c3), .val (.ref a3), .val (.ref a4)] [(.ref a4)]))
    refine own_go (fun t k => XT.ifnonnullYes X142.here hx rfl (pc0 := 87) (pc' := 92) rfl (hb hby at_87) rfl (by decide) (by decide) k) ?_
    show own_G p e below s (own_Q0 n0) 16 128 (T142.setTop (mkF m 92 #[.val (.int x0), .val (.int x1), .val (.int x2), .val (.int x3), .val (.int x4), .val (.int (3 : Int32)), .val (.int c0), .val (.int c1), .val (.int c2), .val (.int c3), .val (.ref a3), .val (.ref a4)] []))
    refine own_go (fun t k => XS.aload X142.here hx rfl (hb hby at_92) rfl rfl k) ?_
    show own_G p e below s (own_Q0 n0) 16 128 (T142.setTop (mkF m 94 #[.val (.int x0), .val (.int x1), .val (.int x2), .val (.int x3), .val (.int x4), .val (.int (3 : Int32)), .val (.int c0), .val (.int c1), .val (.int c2), .val (.int c3), .val (.ref a3), .val (.ref a4)] [(.ref a4)]))
    refine own_go (own_len X142 hx hZ rfl V4 (g := (mkF m 94 #[.val (.int x0), .val (.int x1), .val (.int x2), .val (.int x3), .val (.int x4), .val (.int (3 : Int32)), .val (.int c0), .val (.int c1), .val (.int c2), .val (.int c3), .val (.ref a3), .val (.ref a4)] [(.ref a4)])) rfl rfl (hb hby at_94)) ?_
    show own_G p e below s (own_Q0 n0) 16 128 (T142.setTop (mkF m 95 #[.val (.int x0), .val (.int x1), .val (.int x2), .val (.int x3), .val (.int x4), .val (.int (3 : Int32)), .val (.int c0), .val (.int c1), .val (.int c2), .val (.int c3), .val (.ref a3), .val (.ref a4)] [(.int (3 : Int32))]))
    refine own_go (fun t k => XS.iload X142.here hx rfl (hb hby at_95) rfl k) ?_
    show own_G p e below s (own_Q0 n0) 16 128 (T142.setTop (mkF m 97 #[.val (.int x0), .val (.int x1), .val (.int x2), .val (.int x3), .val (.int x4), .val (.int (3 : Int32)), .val (.int c0), .val (.int c1), .val (.int c2), .val (.int c3), .val (.ref a3), .val (.ref a4)] [(.int (3 : Int32)), (.int (3 : Int32))]))
    refine own_go (fun t k => XS.icmpYes X142.here hx rfl (pc0 := 97) (pc' := 102) rfl (hb hby at_97) rfl (XT.ii_eq_t rfl) (by decide) (by decide) k) ?_
    show own_G p e below s (own_Q0 n0) 16 128 (T142.setTop (mkF m 102 #[.val (.int x0), .val (.int x1), .val (.int x2), .val (.int x3), .val (.int x4), .val (.int (3 : Int32)), .val (.int c0), .val (.int c1), .val (.int c2), .val (.int c3), .val (.ref a3), .val (.ref a4)] []))
    refine own_go (fun t k => XS.iload X142.here hx rfl (hb hby at_102) rfl k) ?_
    show own_G p e below s (own_Q0 n0) 16 128 (T142.setTop (mkF m 104 #[.val (.int x0), .val (.int x1), .val (.int x2), .val (.int x3), .val (.int x4), .val (.int (3 : Int32)), .val (.int c0), .val (.int c1), .val (.int c2), .val (.int c3), .val (.ref a3), .val (.ref a4)] [(.int (3 : Int32))]))
    refine own_go (fun t k => XS.ifNo X142.here hx rfl (hb hby at_104) rfl (XT.i0_le_f (by decide)) k) ?_
    show own_G p e below s (own_Q0 n0) 16 128 (T142.setTop (mkF m 107 #[.val (.int x0), .val (.int x1), .val (.int x2), .val (.int x3), .val (.int x4), .val (.int (3 : Int32)), .val (.int c0), .val (.int c1), .val (.int c2), .val (.int c3), .val (.ref a3), .val (.ref a4)] []))
    refine own_go (fun t k => XS.aload X142.here hx rfl (hb hby at_107) rfl rfl k) ?_
    show own_G p e below s (own_Q0 n0) 16 128 (T142.setTop (mkF m 109 #[.val (.int x0), .val (.int x1), .val (.int x2), .val (.int x3), .val (.int x4), .val (.int (3 : Int32)), .val (.int c0), .val (.int c1), .val (.int c2), .val (.int c3), .val (.ref a3), .val (.ref a4)] [(.ref a4)]))
    refine own_go (fun t k => XS.iconst X142.here hx rfl (hb hby at_109) k) ?_
    show own_G p e below s (own_Q0 n0) 16 128 (T142.setTop (mkF m 110 #[.val (.int x0), .val (.int x1), .val (.int x2), .val (.int x3), .val (.int x4), .val (.int (3 : Int32)), .val (.int c0), .val (.int c1), .val (.int c2), .val (.int c3), .val (.ref a3), .val (.ref a4)] [(.int (0 : Int32)), (.ref a4)]))
    refine own_go (own_ldC X142 hx hZ rfl V4 (j := (0 : Int32)) (v := (.int (c0 &&& (255 : Int32)))) ⟨by decide, by decide⟩ rfl (g := (mkF m 110 #[.val (.int x0), .val (.int x1), .val (.int x2), .val (.int x3), .val (.int x4), .val (.int (3 : Int32)), .val (.int c0), .val (.int c1), .val (.int c2), .val (.int c3), .val (.ref a3), .val (.ref a4)] [(.int (0 : Int32)), (.ref a4)])) rfl rfl (hb hby at_110)) ?_
    show own_G p e below s (own_Q0 n0) 16 128 (T142.setTop (mkF m 111 #[.val (.int x0), .val (.int x1), .val (.int x2), .val (.int x3), .val (.int x4), .val (.int (3 : Int32)), .val (.int c0), .val (.int c1), .val (.int c2), .val (.int c3), .val (.ref a3), .val (.ref a4)] [(.int (c0 &&& (255 : Int32)))]))
    refine own_go (fun t k => XS.iload X142.here hx rfl (hb hby at_111) rfl k) ?_
    show own_G p e below s (own_Q0 n0) 16 128 (T142.setTop (mkF m 113 #[.val (.int x0), .val (.int x1), .val (.int x2), .val (.int x3), .val (.int x4), .val (.int (3 : Int32)), .val (.int c0), .val (.int c1), .val (.int c2), .val (.int c3), .val (.ref a3), .val (.ref a4)] [(.int c0), (.int (c0 &&& (255 : Int32)))]))
    obtain ⟨_, _, ⟨T143, L143, k143, n143⟩, -, X143, ⟨Lc143, hQ143, l143, y143, z143⟩, st143⟩ := Jvm.LawKit.callS X142 hx (y := (⟨"com/example/pure_match/purematch/search/CodeCursorCodesOfPinLaw", "unsignedOf", "(B)I"⟩ : MethodName)) hown (mvT hZ (hw _ (List.mem_of_getElem? (i := 10) rfl))) (mvT hZ (hw _ (List.mem_of_getElem? (i := 11) rfl))) (mvT hZ (hw _ (List.mem_of_getElem? (i := 12) rfl))) (mvT hZ (hw _ (List.mem_of_getElem? (i := 13) rfl))) (by decide) (backOf (W := 1) (rm3 l Z a0 hw [] c0 T142.heap) hZ (hw _ (List.mem_of_getElem? (i := 13) rfl)) (hw _ (List.mem_of_getElem? (i := 12) rfl)) (by decide) (by decide)) (g := (mkF m 113 #[.val (.int x0), .val (.int x1), .val (.int x2), .val (.int x3), .val (.int x4), .val (.int (3 : Int32)), .val (.int c0), .val (.int c1), .val (.int c2), .val (.int c3), .val (.ref a3), .val (.ref a4)] [(.int c0), (.int (c0 &&& (255 : Int32)))])) rfl (by rw [hml]; rfl) (argsL := [(.int c0)]) (rest := [(.int (c0 &&& (255 : Int32)))]) (lenOf pd3 rfl) rfl (by show 2 * 0 + _ ≤ _; exact Nat.le_of_eq rfl) (hb hby at_113) (fun _ _ => ⟨rfl, rfl, (by decide : 2 + 0 ≤ _), (by decide : 6 + 0 ≤ _)⟩)
    dsimp only [Pt.U, Pt.locs, Pt.cells, Pt.slots] at X143 l143 y143 z143 st143 hQ143
    subst l143 y143 z143
    obtain ⟨rfl, rfl, e143⟩ := hQ143
    refine own_go (st143) ?_
    show own_G p e below s (own_Q0 n0) 16 128 (T143.setTop (mkF m 116 #[.val (.int x0), .val (.int x1), .val (.int x2), .val (.int x3), .val (.int x4), .val (.int (3 : Int32)), .val (.int c0), .val (.int c1), .val (.int c2), .val (.int c3), .val (.ref a3), .val (.ref a4)] [(.int (own_uns c0)), (.int (c0 &&& (255 : Int32)))]))
    refine own_go (fun t k => XS.icmpYes X143.here hx rfl (pc0 := 116) (pc' := 121) rfl (hb hby at_116) rfl (XT.ii_eq_t (own_uns_eq m0)) (by decide) (by decide) k) ?_
    show own_G p e below s (own_Q0 n0) 16 128 (T143.setTop (mkF m 121 #[.val (.int x0), .val (.int x1), .val (.int x2), .val (.int x3), .val (.int x4), .val (.int (3 : Int32)), .val (.int c0), .val (.int c1), .val (.int c2), .val (.int c3), .val (.ref a3), .val (.ref a4)] []))
    refine own_go (fun t k => XS.iload X143.here hx rfl (hb hby at_121) rfl k) ?_
    show own_G p e below s (own_Q0 n0) 16 128 (T143.setTop (mkF m 123 #[.val (.int x0), .val (.int x1), .val (.int x2), .val (.int x3), .val (.int x4), .val (.int (3 : Int32)), .val (.int c0), .val (.int c1), .val (.int c2), .val (.int c3), .val (.ref a3), .val (.ref a4)] [(.int (3 : Int32))]))
    refine own_go (fun t k => XS.iconst X143.here hx rfl (hb hby at_123) k) ?_
    show own_G p e below s (own_Q0 n0) 16 128 (T143.setTop (mkF m 124 #[.val (.int x0), .val (.int x1), .val (.int x2), .val (.int x3), .val (.int x4), .val (.int (3 : Int32)), .val (.int c0), .val (.int c1), .val (.int c2), .val (.int c3), .val (.ref a3), .val (.ref a4)] [(.int (1 : Int32)), (.int (3 : Int32))]))
    refine own_go (fun t k => XS.icmpNo X143.here hx rfl (hb hby at_124) rfl (XT.ii_le_f (by decide)) k) ?_
    show own_G p e below s (own_Q0 n0) 16 128 (T143.setTop (mkF m 127 #[.val (.int x0), .val (.int x1), .val (.int x2), .val (.int x3), .val (.int x4), .val (.int (3 : Int32)), .val (.int c0), .val (.int c1), .val (.int c2), .val (.int c3), .val (.ref a3), .val (.ref a4)] []))
    refine own_go (fun t k => XS.aload X143.here hx rfl (hb hby at_127) rfl rfl k) ?_
    show own_G p e below s (own_Q0 n0) 16 128 (T143.setTop (mkF m 129 #[.val (.int x0), .val (.int x1), .val (.int x2), .val (.int x3), .val (.int x4), .val (.int (3 : Int32)), .val (.int c0), .val (.int c1), .val (.int c2), .val (.int c3), .val (.ref a3), .val (.ref a4)] [(.ref a4)]))
    refine own_go (fun t k => XS.iconst X143.here hx rfl (hb hby at_129) k) ?_
    show own_G p e below s (own_Q0 n0) 16 128 (T143.setTop (mkF m 130 #[.val (.int x0), .val (.int x1), .val (.int x2), .val (.int x3), .val (.int x4), .val (.int (3 : Int32)), .val (.int c0), .val (.int c1), .val (.int c2), .val (.int c3), .val (.ref a3), .val (.ref a4)] [(.int (1 : Int32)), (.ref a4)]))
    refine own_go (own_ldC X143 hx hZ e143 V4 (j := (1 : Int32)) (v := (.int (c1 &&& (255 : Int32)))) ⟨by decide, by decide⟩ rfl (g := (mkF m 130 #[.val (.int x0), .val (.int x1), .val (.int x2), .val (.int x3), .val (.int x4), .val (.int (3 : Int32)), .val (.int c0), .val (.int c1), .val (.int c2), .val (.int c3), .val (.ref a3), .val (.ref a4)] [(.int (1 : Int32)), (.ref a4)])) rfl rfl (hb hby at_130)) ?_
    show own_G p e below s (own_Q0 n0) 16 128 (T143.setTop (mkF m 131 #[.val (.int x0), .val (.int x1), .val (.int x2), .val (.int x3), .val (.int x4), .val (.int (3 : Int32)), .val (.int c0), .val (.int c1), .val (.int c2), .val (.int c3), .val (.ref a3), .val (.ref a4)] [(.int (c1 &&& (255 : Int32)))]))
    refine own_go (fun t k => XS.iload X143.here hx rfl (hb hby at_131) rfl k) ?_
    show own_G p e below s (own_Q0 n0) 16 128 (T143.setTop (mkF m 133 #[.val (.int x0), .val (.int x1), .val (.int x2), .val (.int x3), .val (.int x4), .val (.int (3 : Int32)), .val (.int c0), .val (.int c1), .val (.int c2), .val (.int c3), .val (.ref a3), .val (.ref a4)] [(.int c1), (.int (c1 &&& (255 : Int32)))]))
    obtain ⟨_, _, ⟨T144, L144, k144, n144⟩, -, X144, ⟨Lc144, hQ144, l144, y144, z144⟩, st144⟩ := Jvm.LawKit.callS X143 hx (y := (⟨"com/example/pure_match/purematch/search/CodeCursorCodesOfPinLaw", "unsignedOf", "(B)I"⟩ : MethodName)) hown (mvT hZ (hw _ (List.mem_of_getElem? (i := 10) rfl))) (mvT hZ (hw _ (List.mem_of_getElem? (i := 11) rfl))) (mvT hZ (hw _ (List.mem_of_getElem? (i := 12) rfl))) (mvT hZ (hw _ (List.mem_of_getElem? (i := 13) rfl))) (by decide) (backOf (W := 1) (rm3 l Z a0 hw [] c1 T142.heap) hZ (hw _ (List.mem_of_getElem? (i := 13) rfl)) (hw _ (List.mem_of_getElem? (i := 12) rfl)) (by decide) (by decide)) (g := (mkF m 133 #[.val (.int x0), .val (.int x1), .val (.int x2), .val (.int x3), .val (.int x4), .val (.int (3 : Int32)), .val (.int c0), .val (.int c1), .val (.int c2), .val (.int c3), .val (.ref a3), .val (.ref a4)] [(.int c1), (.int (c1 &&& (255 : Int32)))])) rfl (by rw [hml]; rfl) (argsL := [(.int c1)]) (rest := [(.int (c1 &&& (255 : Int32)))]) (lenOf pd3 rfl) rfl (by show 2 * 0 + _ ≤ _; exact Nat.le_of_eq rfl) (hb hby at_133) (fun _ _ => ⟨rfl, e143, (by decide : 2 + 0 ≤ _), (by decide : 6 + 0 ≤ _)⟩)
    dsimp only [Pt.U, Pt.locs, Pt.cells, Pt.slots] at X144 l144 y144 z144 st144 hQ144
    subst l144 y144 z144
    obtain ⟨rfl, rfl, e144⟩ := hQ144
    refine own_go (st144) ?_
    show own_G p e below s (own_Q0 n0) 16 128 (T144.setTop (mkF m 136 #[.val (.int x0), .val (.int x1), .val (.int x2), .val (.int x3), .val (.int x4), .val (.int (3 : Int32)), .val (.int c0), .val (.int c1), .val (.int c2), .val (.int c3), .val (.ref a3), .val (.ref a4)] [(.int (own_uns c1)), (.int (c1 &&& (255 : Int32)))]))
    refine own_go (fun t k => XS.icmpYes X144.here hx rfl (pc0 := 136) (pc' := 141) rfl (hb hby at_136) rfl (XT.ii_eq_t (own_uns_eq m1)) (by decide) (by decide) k) ?_
    show own_G p e below s (own_Q0 n0) 16 128 (T144.setTop (mkF m 141 #[.val (.int x0), .val (.int x1), .val (.int x2), .val (.int x3), .val (.int x4), .val (.int (3 : Int32)), .val (.int c0), .val (.int c1), .val (.int c2), .val (.int c3), .val (.ref a3), .val (.ref a4)] []))
    refine own_go (fun t k => XS.iload X144.here hx rfl (hb hby at_141) rfl k) ?_
    show own_G p e below s (own_Q0 n0) 16 128 (T144.setTop (mkF m 143 #[.val (.int x0), .val (.int x1), .val (.int x2), .val (.int x3), .val (.int x4), .val (.int (3 : Int32)), .val (.int c0), .val (.int c1), .val (.int c2), .val (.int c3), .val (.ref a3), .val (.ref a4)] [(.int (3 : Int32))]))
    refine own_go (fun t k => XS.iconst X144.here hx rfl (hb hby at_143) k) ?_
    show own_G p e below s (own_Q0 n0) 16 128 (T144.setTop (mkF m 144 #[.val (.int x0), .val (.int x1), .val (.int x2), .val (.int x3), .val (.int x4), .val (.int (3 : Int32)), .val (.int c0), .val (.int c1), .val (.int c2), .val (.int c3), .val (.ref a3), .val (.ref a4)] [(.int (2 : Int32)), (.int (3 : Int32))]))
    refine own_go (fun t k => XS.icmpNo X144.here hx rfl (hb hby at_144) rfl (XT.ii_le_f (by decide)) k) ?_
    show own_G p e below s (own_Q0 n0) 16 128 (T144.setTop (mkF m 147 #[.val (.int x0), .val (.int x1), .val (.int x2), .val (.int x3), .val (.int x4), .val (.int (3 : Int32)), .val (.int c0), .val (.int c1), .val (.int c2), .val (.int c3), .val (.ref a3), .val (.ref a4)] []))
    refine own_go (fun t k => XS.aload X144.here hx rfl (hb hby at_147) rfl rfl k) ?_
    show own_G p e below s (own_Q0 n0) 16 128 (T144.setTop (mkF m 149 #[.val (.int x0), .val (.int x1), .val (.int x2), .val (.int x3), .val (.int x4), .val (.int (3 : Int32)), .val (.int c0), .val (.int c1), .val (.int c2), .val (.int c3), .val (.ref a3), .val (.ref a4)] [(.ref a4)]))
    refine own_go (fun t k => XS.iconst X144.here hx rfl (hb hby at_149) k) ?_
    show own_G p e below s (own_Q0 n0) 16 128 (T144.setTop (mkF m 150 #[.val (.int x0), .val (.int x1), .val (.int x2), .val (.int x3), .val (.int x4), .val (.int (3 : Int32)), .val (.int c0), .val (.int c1), .val (.int c2), .val (.int c3), .val (.ref a3), .val (.ref a4)] [(.int (2 : Int32)), (.ref a4)]))
    refine own_go (own_ldC X144 hx hZ e144 V4 (j := (2 : Int32)) (v := (.int (c2 &&& (255 : Int32)))) ⟨by decide, by decide⟩ rfl (g := (mkF m 150 #[.val (.int x0), .val (.int x1), .val (.int x2), .val (.int x3), .val (.int x4), .val (.int (3 : Int32)), .val (.int c0), .val (.int c1), .val (.int c2), .val (.int c3), .val (.ref a3), .val (.ref a4)] [(.int (2 : Int32)), (.ref a4)])) rfl rfl (hb hby at_150)) ?_
    show own_G p e below s (own_Q0 n0) 16 128 (T144.setTop (mkF m 151 #[.val (.int x0), .val (.int x1), .val (.int x2), .val (.int x3), .val (.int x4), .val (.int (3 : Int32)), .val (.int c0), .val (.int c1), .val (.int c2), .val (.int c3), .val (.ref a3), .val (.ref a4)] [(.int (c2 &&& (255 : Int32)))]))
    refine own_go (fun t k => XS.iload X144.here hx rfl (hb hby at_151) rfl k) ?_
    show own_G p e below s (own_Q0 n0) 16 128 (T144.setTop (mkF m 153 #[.val (.int x0), .val (.int x1), .val (.int x2), .val (.int x3), .val (.int x4), .val (.int (3 : Int32)), .val (.int c0), .val (.int c1), .val (.int c2), .val (.int c3), .val (.ref a3), .val (.ref a4)] [(.int c2), (.int (c2 &&& (255 : Int32)))]))
    obtain ⟨_, _, ⟨T145, L145, k145, n145⟩, -, X145, ⟨Lc145, hQ145, l145, y145, z145⟩, st145⟩ := Jvm.LawKit.callS X144 hx (y := (⟨"com/example/pure_match/purematch/search/CodeCursorCodesOfPinLaw", "unsignedOf", "(B)I"⟩ : MethodName)) hown (mvT hZ (hw _ (List.mem_of_getElem? (i := 10) rfl))) (mvT hZ (hw _ (List.mem_of_getElem? (i := 11) rfl))) (mvT hZ (hw _ (List.mem_of_getElem? (i := 12) rfl))) (mvT hZ (hw _ (List.mem_of_getElem? (i := 13) rfl))) (by decide) (backOf (W := 1) (rm3 l Z a0 hw [] c2 T142.heap) hZ (hw _ (List.mem_of_getElem? (i := 13) rfl)) (hw _ (List.mem_of_getElem? (i := 12) rfl)) (by decide) (by decide)) (g := (mkF m 153 #[.val (.int x0), .val (.int x1), .val (.int x2), .val (.int x3), .val (.int x4), .val (.int (3 : Int32)), .val (.int c0), .val (.int c1), .val (.int c2), .val (.int c3), .val (.ref a3), .val (.ref a4)] [(.int c2), (.int (c2 &&& (255 : Int32)))])) rfl (by rw [hml]; rfl) (argsL := [(.int c2)]) (rest := [(.int (c2 &&& (255 : Int32)))]) (lenOf pd3 rfl) rfl (by show 2 * 0 + _ ≤ _; exact Nat.le_of_eq rfl) (hb hby at_153) (fun _ _ => ⟨rfl, e144, (by decide : 2 + 0 ≤ _), (by decide : 6 + 0 ≤ _)⟩)
    dsimp only [Pt.U, Pt.locs, Pt.cells, Pt.slots] at X145 l145 y145 z145 st145 hQ145
    subst l145 y145 z145
    obtain ⟨rfl, rfl, e145⟩ := hQ145
    refine own_go (st145) ?_
    show own_G p e below s (own_Q0 n0) 16 128 (T145.setTop (mkF m 156 #[.val (.int x0), .val (.int x1), .val (.int x2), .val (.int x3), .val (.int x4), .val (.int (3 : Int32)), .val (.int c0), .val (.int c1), .val (.int c2), .val (.int c3), .val (.ref a3), .val (.ref a4)] [(.int (own_uns c2)), (.int (c2 &&& (255 : Int32)))]))
    refine own_go (fun t k => XS.icmpYes X145.here hx rfl (pc0 := 156) (pc' := 161) rfl (hb hby at_156) rfl (XT.ii_eq_t (own_uns_eq m2)) (by decide) (by decide) k) ?_
    show own_G p e below s (own_Q0 n0) 16 128 (T145.setTop (mkF m 161 #[.val (.int x0), .val (.int x1), .val (.int x2), .val (.int x3), .val (.int x4), .val (.int (3 : Int32)), .val (.int c0), .val (.int c1), .val (.int c2), .val (.int c3), .val (.ref a3), .val (.ref a4)] []))
    refine own_go (fun t k => XS.iload X145.here hx rfl (hb hby at_161) rfl k) ?_
    show own_G p e below s (own_Q0 n0) 16 128 (T145.setTop (mkF m 163 #[.val (.int x0), .val (.int x1), .val (.int x2), .val (.int x3), .val (.int x4), .val (.int (3 : Int32)), .val (.int c0), .val (.int c1), .val (.int c2), .val (.int c3), .val (.ref a3), .val (.ref a4)] [(.int (3 : Int32))]))
    refine own_go (fun t k => XS.iconst X145.here hx rfl (hb hby at_163) k) ?_
    show own_G p e below s (own_Q0 n0) 16 128 (T145.setTop (mkF m 164 #[.val (.int x0), .val (.int x1), .val (.int x2), .val (.int x3), .val (.int x4), .val (.int (3 : Int32)), .val (.int c0), .val (.int c1), .val (.int c2), .val (.int c3), .val (.ref a3), .val (.ref a4)] [(.int (3 : Int32)), (.int (3 : Int32))]))
    refine own_go (fun t k => XS.icmpYes X145.here hx rfl (pc0 := 164) (pc' := 181) rfl (hb hby at_164) rfl (XT.ii_le_t (by decide)) (by decide) (by decide) k) ?_
    show own_G p e below s (own_Q0 n0) 16 128 (T145.setTop (mkF m 181 #[.val (.int x0), .val (.int x1), .val (.int x2), .val (.int x3), .val (.int x4), .val (.int (3 : Int32)), .val (.int c0), .val (.int c1), .val (.int c2), .val (.int c3), .val (.ref a3), .val (.ref a4)] []))
    refine own_go (fun t k => XS.iconst X145.here hx rfl (hb hby at_181) k) ?_
    show own_G p e below s (own_Q0 n0) 16 128 (T145.setTop (mkF m 182 #[.val (.int x0), .val (.int x1), .val (.int x2), .val (.int x3), .val (.int x4), .val (.int (3 : Int32)), .val (.int c0), .val (.int c1), .val (.int c2), .val (.int c3), .val (.ref a3), .val (.ref a4)] [(.int (1 : Int32))]))
    exact own_leave X145 (some (.int (1 : Int32))) (fun h => by rw [Bd.returns] at h; cases h) Bd.notSynchronized (fun fs hr => retN X145 hx (t := .boolean) Bd.returns (by simp) (hb hby at_182) hr) ⟨rfl, (Fr.app (Fr.app (Fr.app (Fr.app N141 N4) (Fr.nil n0)) (Fr.nil n0)) (Fr.nil n0))⟩ (by decide) (by decide)
  · skip
    show own_G p e below s (own_Q0 n0) 16 128 (s₁.setTop (mkF m 25 #[.val (.int x0), .val (.int x1), .val (.int x2), .val (.int x3), .val (.int x4), .val (.int (4 : Int32)), .val (.int c0), .val (.int c1), .val (.int c2), .val (.int c3), .unset, .unset] []))
    refine own_go (fun t k => XS.iload X0.here hx rfl (hb hby at_25) rfl k) ?_
    show own_G p e below s (own_Q0 n0) 16 128 (s₁.setTop (mkF m 27 #[.val (.int x0), .val (.int x1), .val (.int x2), .val (.int x3), .val (.int x4), .val (.int (4 : Int32)), .val (.int c0), .val (.int c1), .val (.int c2), .val (.int c3), .unset, .unset] [(.int (4 : Int32))]))
    obtain ⟨T146, h146, cA146, X146, e146, E146, A146, st146⟩ := newP X0 hx hZ (hw _ (List.mem_of_getElem? (i := 1) rfl)) e0 (g := (mkF m 27 #[.val (.int x0), .val (.int x1), .val (.int x2), .val (.int x3), .val (.int x4), .val (.int (4 : Int32)), .val (.int c0), .val (.int c1), .val (.int c2), .val (.int c3), .unset, .unset] [(.int (4 : Int32))])) rfl (hb hby at_27) rfl (by decide) (cap := 4) (by decide) (by decide) (by decide) (by decide)
    obtain ⟨a3, g146⟩ : ∃ z, z = h0.size := ⟨_, rfl⟩
    rw [← g146] at A146 st146
    have V146 : Arv Z h146 a3 cA146 .byte (4 : Int32) [(.int 0), (.int 0), (.int 0), (.int 0)] (.int 0) := (Arv.new A146 (by decide)).pad (pad_rep [] (.int 0) 4)
    refine own_go st146 ?_
    show own_G p e below s (own_Q0 n0) 16 128 (T146.setTop (mkF m 29 #[.val (.int x0), .val (.int x1), .val (.int x2), .val (.int x3), .val (.int x4), .val (.int (4 : Int32)), .val (.int c0), .val (.int c1), .val (.int c2), .val (.int c3), .unset, .unset] [(.ref a3)]))
    have g3 : n0 ≤ a3 := Nat.le_trans Z0 (Nat.le_of_eq g146.symm)
    have Z3 : n0 ≤ h146.size := Nat.le_trans Z0 E146.1
    refine own_go (fun t k => XS.astore X146.here hx rfl (hb hby at_29) rfl rfl (l' := #[.val (.int x0), .val (.int x1), .val (.int x2), .val (.int x3), .val (.int x4), .val (.int (4 : Int32)), .val (.int c0), .val (.int c1), .val (.int c2), .val (.int c3), .val (.ref a3), .unset]) rfl k) ?_
    show own_G p e below s (own_Q0 n0) 16 128 (T146.setTop (mkF m 31 #[.val (.int x0), .val (.int x1), .val (.int x2), .val (.int x3), .val (.int x4), .val (.int (4 : Int32)), .val (.int c0), .val (.int c1), .val (.int c2), .val (.int c3), .val (.ref a3), .unset] []))
    refine own_go (fun t k => XS.iload X146.here hx rfl (hb hby at_31) rfl k) ?_
    show own_G p e below s (own_Q0 n0) 16 128 (T146.setTop (mkF m 33 #[.val (.int x0), .val (.int x1), .val (.int x2), .val (.int x3), .val (.int x4), .val (.int (4 : Int32)), .val (.int c0), .val (.int c1), .val (.int c2), .val (.int c3), .val (.ref a3), .unset] [(.int (4 : Int32))]))
    refine own_go (fun t k => XS.ifNo X146.here hx rfl (hb hby at_33) rfl (XT.i0_le_f (by decide)) k) ?_
    show own_G p e below s (own_Q0 n0) 16 128 (T146.setTop (mkF m 36 #[.val (.int x0), .val (.int x1), .val (.int x2), .val (.int x3), .val (.int x4), .val (.int (4 : Int32)), .val (.int c0), .val (.int c1), .val (.int c2), .val (.int c3), .val (.ref a3), .unset] []))
    refine own_go (fun t k => XS.aload X146.here hx rfl (hb hby at_36) rfl rfl k) ?_
    show own_G p e below s (own_Q0 n0) 16 128 (T146.setTop (mkF m 38 #[.val (.int x0), .val (.int x1), .val (.int x2), .val (.int x3), .val (.int x4), .val (.int (4 : Int32)), .val (.int c0), .val (.int c1), .val (.int c2), .val (.int c3), .val (.ref a3), .unset] [(.ref a3)]))
    refine own_go (fun t k => XS.iconst X146.here hx rfl (hb hby at_38) k) ?_
    show own_G p e below s (own_Q0 n0) 16 128 (T146.setTop (mkF m 39 #[.val (.int x0), .val (.int x1), .val (.int x2), .val (.int x3), .val (.int x4), .val (.int (4 : Int32)), .val (.int c0), .val (.int c1), .val (.int c2), .val (.int c3), .val (.ref a3), .unset] [(.int (0 : Int32)), (.ref a3)]))
    refine own_go (fun t k => XS.iload X146.here hx rfl (hb hby at_39) rfl k) ?_
    show own_G p e below s (own_Q0 n0) 16 128 (T146.setTop (mkF m 41 #[.val (.int x0), .val (.int x1), .val (.int x2), .val (.int x3), .val (.int x4), .val (.int (4 : Int32)), .val (.int c0), .val (.int c1), .val (.int c2), .val (.int c3), .val (.ref a3), .unset] [(.int c0), (.int (0 : Int32)), (.ref a3)]))
    obtain ⟨T147, h147, X147, e147, W147, V147, st147⟩ := own_stB X146 hx hZ e146 V146 (j := (0 : Int32)) ⟨by decide, by decide⟩ 0 (by decide) (by simp) (vs' := [(.int c0), (.int 0), (.int 0), (.int 0)]) (by rw [m0]; rfl) (g := (mkF m 41 #[.val (.int x0), .val (.int x1), .val (.int x2), .val (.int x3), .val (.int x4), .val (.int (4 : Int32)), .val (.int c0), .val (.int c1), .val (.int c2), .val (.int c3), .val (.ref a3), .unset] [(.int c0), (.int (0 : Int32)), (.ref a3)])) rfl rfl (hb hby at_41)
    have N147 := Fr.snoc X147 (Fr.nil n0) g3
    refine own_go st147 ?_
    show own_G p e below s (own_Q0 n0) 16 128 (T147.setTop (mkF m 42 #[.val (.int x0), .val (.int x1), .val (.int x2), .val (.int x3), .val (.int x4), .val (.int (4 : Int32)), .val (.int c0), .val (.int c1), .val (.int c2), .val (.int c3), .val (.ref a3), .unset] []))
    have Z3_0 : n0 ≤ h147.size := W147.size ▸ Z3
    refine own_go (fun t k => XS.iload X147.here hx rfl (hb hby at_42) rfl k) ?_
    show own_G p e below s (own_Q0 n0) 16 128 (T147.setTop (mkF m 44 #[.val (.int x0), .val (.int x1), .val (.int x2), .val (.int x3), .val (.int x4), .val (.int (4 : Int32)), .val (.int c0), .val (.int c1), .val (.int c2), .val (.int c3), .val (.ref a3), .unset] [(.int (4 : Int32))]))
    refine own_go (fun t k => XS.iconst X147.here hx rfl (hb hby at_44) k) ?_
    show own_G p e below s (own_Q0 n0) 16 128 (T147.setTop (mkF m 45 #[.val (.int x0), .val (.int x1), .val (.int x2), .val (.int x3), .val (.int x4), .val (.int (4 : Int32)), .val (.int c0), .val (.int c1), .val (.int c2), .val (.int c3), .val (.ref a3), .unset] [(.int (1 : Int32)), (.int (4 : Int32))]))
    refine own_go (fun t k => XS.icmpNo X147.here hx rfl (hb hby at_45) rfl (XT.ii_le_f (by decide)) k) ?_
    show own_G p e below s (own_Q0 n0) 16 128 (T147.setTop (mkF m 48 #[.val (.int x0), .val (.int x1), .val (.int x2), .val (.int x3), .val (.int x4), .val (.int (4 : Int32)), .val (.int c0), .val (.int c1), .val (.int c2), .val (.int c3), .val (.ref a3), .unset] []))
    refine own_go (fun t k => XS.aload X147.here hx rfl (hb hby at_48) rfl rfl k) ?_
    show own_G p e below s (own_Q0 n0) 16 128 (T147.setTop (mkF m 50 #[.val (.int x0), .val (.int x1), .val (.int x2), .val (.int x3), .val (.int x4), .val (.int (4 : Int32)), .val (.int c0), .val (.int c1), .val (.int c2), .val (.int c3), .val (.ref a3), .unset] [(.ref a3)]))
    refine own_go (fun t k => XS.iconst X147.here hx rfl (hb hby at_50) k) ?_
    show own_G p e below s (own_Q0 n0) 16 128 (T147.setTop (mkF m 51 #[.val (.int x0), .val (.int x1), .val (.int x2), .val (.int x3), .val (.int x4), .val (.int (4 : Int32)), .val (.int c0), .val (.int c1), .val (.int c2), .val (.int c3), .val (.ref a3), .unset] [(.int (1 : Int32)), (.ref a3)]))
    refine own_go (fun t k => XS.iload X147.here hx rfl (hb hby at_51) rfl k) ?_
    show own_G p e below s (own_Q0 n0) 16 128 (T147.setTop (mkF m 53 #[.val (.int x0), .val (.int x1), .val (.int x2), .val (.int x3), .val (.int x4), .val (.int (4 : Int32)), .val (.int c0), .val (.int c1), .val (.int c2), .val (.int c3), .val (.ref a3), .unset] [(.int c1), (.int (1 : Int32)), (.ref a3)]))
    obtain ⟨T148, h148, X148, e148, W148, V148, st148⟩ := own_stB X147 hx hZ e147 V147 (j := (1 : Int32)) ⟨by decide, by decide⟩ 1 (by decide) (by simp) (vs' := [(.int c0), (.int c1), (.int 0), (.int 0)]) (by rw [m1]; rfl) (g := (mkF m 53 #[.val (.int x0), .val (.int x1), .val (.int x2), .val (.int x3), .val (.int x4), .val (.int (4 : Int32)), .val (.int c0), .val (.int c1), .val (.int c2), .val (.int c3), .val (.ref a3), .unset] [(.int c1), (.int (1 : Int32)), (.ref a3)])) rfl rfl (hb hby at_53)
    have N148 := Fr.snoc X148 N147 g3
    refine own_go st148 ?_
    show own_G p e below s (own_Q0 n0) 16 128 (T148.setTop (mkF m 54 #[.val (.int x0), .val (.int x1), .val (.int x2), .val (.int x3), .val (.int x4), .val (.int (4 : Int32)), .val (.int c0), .val (.int c1), .val (.int c2), .val (.int c3), .val (.ref a3), .unset] []))
    have Z3_1 : n0 ≤ h148.size := W148.size ▸ Z3_0
    refine own_go (fun t k => XS.iload X148.here hx rfl (hb hby at_54) rfl k) ?_
    show own_G p e below s (own_Q0 n0) 16 128 (T148.setTop (mkF m 56 #[.val (.int x0), .val (.int x1), .val (.int x2), .val (.int x3), .val (.int x4), .val (.int (4 : Int32)), .val (.int c0), .val (.int c1), .val (.int c2), .val (.int c3), .val (.ref a3), .unset] [(.int (4 : Int32))]))
    refine own_go (fun t k => XS.iconst X148.here hx rfl (hb hby at_56) k) ?_
    show own_G p e below s (own_Q0 n0) 16 128 (T148.setTop (mkF m 57 #[.val (.int x0), .val (.int x1), .val (.int x2), .val (.int x3), .val (.int x4), .val (.int (4 : Int32)), .val (.int c0), .val (.int c1), .val (.int c2), .val (.int c3), .val (.ref a3), .unset] [(.int (2 : Int32)), (.int (4 : Int32))]))
    refine own_go (fun t k => XS.icmpNo X148.here hx rfl (hb hby at_57) rfl (XT.ii_le_f (by decide)) k) ?_
    show own_G p e below s (own_Q0 n0) 16 128 (T148.setTop (mkF m 60 #[.val (.int x0), .val (.int x1), .val (.int x2), .val (.int x3), .val (.int x4), .val (.int (4 : Int32)), .val (.int c0), .val (.int c1), .val (.int c2), .val (.int c3), .val (.ref a3), .unset] []))
    refine own_go (fun t k => XS.aload X148.here hx rfl (hb hby at_60) rfl rfl k) ?_
    show own_G p e below s (own_Q0 n0) 16 128 (T148.setTop (mkF m 62 #[.val (.int x0), .val (.int x1), .val (.int x2), .val (.int x3), .val (.int x4), .val (.int (4 : Int32)), .val (.int c0), .val (.int c1), .val (.int c2), .val (.int c3), .val (.ref a3), .unset] [(.ref a3)]))
    refine own_go (fun t k => XS.iconst X148.here hx rfl (hb hby at_62) k) ?_
    show own_G p e below s (own_Q0 n0) 16 128 (T148.setTop (mkF m 63 #[.val (.int x0), .val (.int x1), .val (.int x2), .val (.int x3), .val (.int x4), .val (.int (4 : Int32)), .val (.int c0), .val (.int c1), .val (.int c2), .val (.int c3), .val (.ref a3), .unset] [(.int (2 : Int32)), (.ref a3)]))
    refine own_go (fun t k => XS.iload X148.here hx rfl (hb hby at_63) rfl k) ?_
    show own_G p e below s (own_Q0 n0) 16 128 (T148.setTop (mkF m 65 #[.val (.int x0), .val (.int x1), .val (.int x2), .val (.int x3), .val (.int x4), .val (.int (4 : Int32)), .val (.int c0), .val (.int c1), .val (.int c2), .val (.int c3), .val (.ref a3), .unset] [(.int c2), (.int (2 : Int32)), (.ref a3)]))
    obtain ⟨T149, h149, X149, e149, W149, V149, st149⟩ := own_stB X148 hx hZ e148 V148 (j := (2 : Int32)) ⟨by decide, by decide⟩ 2 (by decide) (by simp) (vs' := [(.int c0), (.int c1), (.int c2), (.int 0)]) (by rw [m2]; rfl) (g := (mkF m 65 #[.val (.int x0), .val (.int x1), .val (.int x2), .val (.int x3), .val (.int x4), .val (.int (4 : Int32)), .val (.int c0), .val (.int c1), .val (.int c2), .val (.int c3), .val (.ref a3), .unset] [(.int c2), (.int (2 : Int32)), (.ref a3)])) rfl rfl (hb hby at_65)
    have N149 := Fr.snoc X149 N148 g3
    refine own_go st149 ?_
    show own_G p e below s (own_Q0 n0) 16 128 (T149.setTop (mkF m 66 #[.val (.int x0), .val (.int x1), .val (.int x2), .val (.int x3), .val (.int x4), .val (.int (4 : Int32)), .val (.int c0), .val (.int c1), .val (.int c2), .val (.int c3), .val (.ref a3), .unset] []))
    have Z3_2 : n0 ≤ h149.size := W149.size ▸ Z3_1
    refine own_go (fun t k => XS.iload X149.here hx rfl (hb hby at_66) rfl k) ?_
    show own_G p e below s (own_Q0 n0) 16 128 (T149.setTop (mkF m 68 #[.val (.int x0), .val (.int x1), .val (.int x2), .val (.int x3), .val (.int x4), .val (.int (4 : Int32)), .val (.int c0), .val (.int c1), .val (.int c2), .val (.int c3), .val (.ref a3), .unset] [(.int (4 : Int32))]))
    refine own_go (fun t k => XS.iconst X149.here hx rfl (hb hby at_68) k) ?_
    show own_G p e below s (own_Q0 n0) 16 128 (T149.setTop (mkF m 69 #[.val (.int x0), .val (.int x1), .val (.int x2), .val (.int x3), .val (.int x4), .val (.int (4 : Int32)), .val (.int c0), .val (.int c1), .val (.int c2), .val (.int c3), .val (.ref a3), .unset] [(.int (3 : Int32)), (.int (4 : Int32))]))
    refine own_go (fun t k => XS.icmpNo X149.here hx rfl (hb hby at_69) rfl (XT.ii_le_f (by decide)) k) ?_
    show own_G p e below s (own_Q0 n0) 16 128 (T149.setTop (mkF m 72 #[.val (.int x0), .val (.int x1), .val (.int x2), .val (.int x3), .val (.int x4), .val (.int (4 : Int32)), .val (.int c0), .val (.int c1), .val (.int c2), .val (.int c3), .val (.ref a3), .unset] []))
    refine own_go (fun t k => XS.aload X149.here hx rfl (hb hby at_72) rfl rfl k) ?_
    show own_G p e below s (own_Q0 n0) 16 128 (T149.setTop (mkF m 74 #[.val (.int x0), .val (.int x1), .val (.int x2), .val (.int x3), .val (.int x4), .val (.int (4 : Int32)), .val (.int c0), .val (.int c1), .val (.int c2), .val (.int c3), .val (.ref a3), .unset] [(.ref a3)]))
    refine own_go (fun t k => XS.iconst X149.here hx rfl (hb hby at_74) k) ?_
    show own_G p e below s (own_Q0 n0) 16 128 (T149.setTop (mkF m 75 #[.val (.int x0), .val (.int x1), .val (.int x2), .val (.int x3), .val (.int x4), .val (.int (4 : Int32)), .val (.int c0), .val (.int c1), .val (.int c2), .val (.int c3), .val (.ref a3), .unset] [(.int (3 : Int32)), (.ref a3)]))
    refine own_go (fun t k => XS.iload X149.here hx rfl (hb hby at_75) rfl k) ?_
    show own_G p e below s (own_Q0 n0) 16 128 (T149.setTop (mkF m 77 #[.val (.int x0), .val (.int x1), .val (.int x2), .val (.int x3), .val (.int x4), .val (.int (4 : Int32)), .val (.int c0), .val (.int c1), .val (.int c2), .val (.int c3), .val (.ref a3), .unset] [(.int c3), (.int (3 : Int32)), (.ref a3)]))
    obtain ⟨T150, h150, X150, e150, W150, V150, st150⟩ := own_stB X149 hx hZ e149 V149 (j := (3 : Int32)) ⟨by decide, by decide⟩ 3 (by decide) (by simp) (vs' := [(.int c0), (.int c1), (.int c2), (.int c3)]) (by rw [m3]; rfl) (g := (mkF m 77 #[.val (.int x0), .val (.int x1), .val (.int x2), .val (.int x3), .val (.int x4), .val (.int (4 : Int32)), .val (.int c0), .val (.int c1), .val (.int c2), .val (.int c3), .val (.ref a3), .unset] [(.int c3), (.int (3 : Int32)), (.ref a3)])) rfl rfl (hb hby at_77)
    have N150 := Fr.snoc X150 N149 g3
    refine own_go st150 ?_
    show own_G p e below s (own_Q0 n0) 16 128 (T150.setTop (mkF m 78 #[.val (.int x0), .val (.int x1), .val (.int x2), .val (.int x3), .val (.int x4), .val (.int (4 : Int32)), .val (.int c0), .val (.int c1), .val (.int c2), .val (.int c3), .val (.ref a3), .unset] []))
    have Z3_3 : n0 ≤ h150.size := W150.size ▸ Z3_2
    refine own_go (fun t k => XS.aload X150.here hx rfl (hb hby at_78) rfl rfl k) ?_
    show own_G p e below s (own_Q0 n0) 16 128 (T150.setTop (mkF m 80 #[.val (.int x0), .val (.int x1), .val (.int x2), .val (.int x3), .val (.int x4), .val (.int (4 : Int32)), .val (.int c0), .val (.int c1), .val (.int c2), .val (.int c3), .val (.ref a3), .unset] [(.ref a3)]))
    obtain ⟨_, _, ⟨T151, L151, k151, n151⟩, -, X151, ⟨Lc151, hQ151, l151, y151, z151⟩, st151⟩ := Jvm.LawKit.callS X150 hx (y := (⟨"com/example/pure_match/purematch/search/CodeCursor", "codesOf", "([B)[C"⟩ : MethodName)) hown (mvT hZ (hw _ (List.mem_of_getElem? (i := 2) rfl))) (mvT hZ (hw _ (List.mem_of_getElem? (i := 3) rfl))) (mvT hZ (hw _ (List.mem_of_getElem? (i := 4) rfl))) (mvT hZ (hw _ (List.mem_of_getElem? (i := 5) rfl))) (by decide) (backOf (W := 0) (rm1_4 l Z a0 hw [] a3 cA146 c0 c1 c2 c3 h150 n0 Z3_3 V150) hZ (hw _ (List.mem_of_getElem? (i := 5) rfl)) (hw _ (List.mem_of_getElem? (i := 4) rfl)) (by decide) (by decide)) (g := (mkF m 80 #[.val (.int x0), .val (.int x1), .val (.int x2), .val (.int x3), .val (.int x4), .val (.int (4 : Int32)), .val (.int c0), .val (.int c1), .val (.int c2), .val (.int c3), .val (.ref a3), .unset] [(.ref a3)])) rfl (by rw [hml]; rfl) (argsL := [(.ref a3)]) (rest := []) (lenOf pd1 rfl) rfl (by show 2 * 0 + _ ≤ _; exact Nat.le_of_eq rfl) (hb hby at_80) (fun _ _ => ⟨rfl, e150, (by decide : 1 + 1 ≤ _), (by decide : 4 + 4 ≤ _)⟩)
    dsimp only [Pt.U, Pt.locs, Pt.cells, Pt.slots] at X151 l151 y151 z151 st151 hQ151
    subst l151 y151 z151
    obtain ⟨a4, kc4, rfl, N4, V4⟩ := hQ151
    refine own_go (st151) ?_
    show own_G p e below s (own_Q0 n0) 16 128 (T151.setTop (mkF m 83 #[.val (.int x0), .val (.int x1), .val (.int x2), .val (.int x3), .val (.int x4), .val (.int (4 : Int32)), .val (.int c0), .val (.int c1), .val (.int c2), .val (.int c3), .val (.ref a3), .unset] [(.ref a4)]))
    refine own_go (fun t k => XS.astore X151.here hx rfl (hb hby at_83) rfl rfl (l' := #[.val (.int x0), .val (.int x1), .val (.int x2), .val (.int x3), .val (.int x4), .val (.int (4 : Int32)), .val (.int c0), .val (.int c1), .val (.int c2), .val (.int c3), .val (.ref a3), .val (.ref a4)]) rfl k) ?_
    show own_G p e below s (own_Q0 n0) 16 128 (T151.setTop (mkF m 85 #[.val (.int x0), .val (.int x1), .val (.int x2), .val (.int x3), .val (.int x4), .val (.int (4 : Int32)), .val (.int c0), .val (.int c1), .val (.int c2), .val (.int c3), .val (.ref a3), .val (.ref a4)] []))
    refine own_go (fun t k => XS.aload X151.here hx rfl (hb hby at_85) rfl rfl k) ?_
    show own_G p e below s (own_Q0 n0) 16 128 (T151.setTop (mkF m 87 #[.val (.int x0), .val (.int x1), .val (.int x2), .val (.int x3), .val (.int x4), .val (.int (4 : Int32)), .val (.int c0), .val (.int c1), .val (.int c2), .val (.int c3), .val (.ref a3), .val (.ref a4)] [(.ref a4)]))
    refine own_go (fun t k => XT.ifnonnullYes X151.here hx rfl (pc0 := 87) (pc' := 92) rfl (hb hby at_87) rfl (by decide) (by decide) k) ?_
    show own_G p e below s (own_Q0 n0) 16 128 (T151.setTop (mkF m 92 #[.val (.int x0), .val (.int x1), .val (.int x2), .val (.int x3), .val (.int x4), .val (.int (4 : Int32)), .val (.int c0), .val (.int c1), .val (.int c2), .val (.int c3), .val (.ref a3), .val (.ref a4)] []))
    refine own_go (fun t k => XS.aload X151.here hx rfl (hb hby at_92) rfl rfl k) ?_
    show own_G p e below s (own_Q0 n0) 16 128 (T151.setTop (mkF m 94 #[.val (.int x0), .val (.int x1), .val (.int x2), .val (.int x3), .val (.int x4), .val (.int (4 : Int32)), .val (.int c0), .val (.int c1), .val (.int c2), .val (.int c3), .val (.ref a3), .val (.ref a4)] [(.ref a4)]))
    refine own_go (own_len X151 hx hZ rfl V4 (g := (mkF m 94 #[.val (.int x0), .val (.int x1), .val (.int x2), .val (.int x3), .val (.int x4), .val (.int (4 : Int32)), .val (.int c0), .val (.int c1), .val (.int c2), .val (.int c3), .val (.ref a3), .val (.ref a4)] [(.ref a4)])) rfl rfl (hb hby at_94)) ?_
    show own_G p e below s (own_Q0 n0) 16 128 (T151.setTop (mkF m 95 #[.val (.int x0), .val (.int x1), .val (.int x2), .val (.int x3), .val (.int x4), .val (.int (4 : Int32)), .val (.int c0), .val (.int c1), .val (.int c2), .val (.int c3), .val (.ref a3), .val (.ref a4)] [(.int (4 : Int32))]))
    refine own_go (fun t k => XS.iload X151.here hx rfl (hb hby at_95) rfl k) ?_
    show own_G p e below s (own_Q0 n0) 16 128 (T151.setTop (mkF m 97 #[.val (.int x0), .val (.int x1), .val (.int x2), .val (.int x3), .val (.int x4), .val (.int (4 : Int32)), .val (.int c0), .val (.int c1), .val (.int c2), .val (.int c3), .val (.ref a3), .val (.ref a4)] [(.int (4 : Int32)), (.int (4 : Int32))]))
    refine own_go (fun t k => XS.icmpYes X151.here hx rfl (pc0 := 97) (pc' := 102) rfl (hb hby at_97) rfl (XT.ii_eq_t rfl) (by decide) (by decide) k) ?_
    show own_G p e below s (own_Q0 n0) 16 128 (T151.setTop (mkF m 102 #[.val (.int x0), .val (.int x1), .val (.int x2), .val (.int x3), .val (.int x4), .val (.int (4 : Int32)), .val (.int c0), .val (.int c1), .val (.int c2), .val (.int c3), .val (.ref a3), .val (.ref a4)] []))
    refine own_go (fun t k => XS.iload X151.here hx rfl (hb hby at_102) rfl k) ?_
    show own_G p e below s (own_Q0 n0) 16 128 (T151.setTop (mkF m 104 #[.val (.int x0), .val (.int x1), .val (.int x2), .val (.int x3), .val (.int x4), .val (.int (4 : Int32)), .val (.int c0), .val (.int c1), .val (.int c2), .val (.int c3), .val (.ref a3), .val (.ref a4)] [(.int (4 : Int32))]))
    refine own_go (fun t k => XS.ifNo X151.here hx rfl (hb hby at_104) rfl (XT.i0_le_f (by decide)) k) ?_
    show own_G p e below s (own_Q0 n0) 16 128 (T151.setTop (mkF m 107 #[.val (.int x0), .val (.int x1), .val (.int x2), .val (.int x3), .val (.int x4), .val (.int (4 : Int32)), .val (.int c0), .val (.int c1), .val (.int c2), .val (.int c3), .val (.ref a3), .val (.ref a4)] []))
    refine own_go (fun t k => XS.aload X151.here hx rfl (hb hby at_107) rfl rfl k) ?_
    show own_G p e below s (own_Q0 n0) 16 128 (T151.setTop (mkF m 109 #[.val (.int x0), .val (.int x1), .val (.int x2), .val (.int x3), .val (.int x4), .val (.int (4 : Int32)), .val (.int c0), .val (.int c1), .val (.int c2), .val (.int c3), .val (.ref a3), .val (.ref a4)] [(.ref a4)]))
    refine own_go (fun t k => XS.iconst X151.here hx rfl (hb hby at_109) k) ?_
    show own_G p e below s (own_Q0 n0) 16 128 (T151.setTop (mkF m 110 #[.val (.int x0), .val (.int x1), .val (.int x2), .val (.int x3), .val (.int x4), .val (.int (4 : Int32)), .val (.int c0), .val (.int c1), .val (.int c2), .val (.int c3), .val (.ref a3), .val (.ref a4)] [(.int (0 : Int32)), (.ref a4)]))
    refine own_go (own_ldC X151 hx hZ rfl V4 (j := (0 : Int32)) (v := (.int (c0 &&& (255 : Int32)))) ⟨by decide, by decide⟩ rfl (g := (mkF m 110 #[.val (.int x0), .val (.int x1), .val (.int x2), .val (.int x3), .val (.int x4), .val (.int (4 : Int32)), .val (.int c0), .val (.int c1), .val (.int c2), .val (.int c3), .val (.ref a3), .val (.ref a4)] [(.int (0 : Int32)), (.ref a4)])) rfl rfl (hb hby at_110)) ?_
    show own_G p e below s (own_Q0 n0) 16 128 (T151.setTop (mkF m 111 #[.val (.int x0), .val (.int x1), .val (.int x2), .val (.int x3), .val (.int x4), .val (.int (4 : Int32)), .val (.int c0), .val (.int c1), .val (.int c2), .val (.int c3), .val (.ref a3), .val (.ref a4)] [(.int (c0 &&& (255 : Int32)))]))
    refine own_go (fun t k => XS.iload X151.here hx rfl (hb hby at_111) rfl k) ?_
    show own_G p e below s (own_Q0 n0) 16 128 (T151.setTop (mkF m 113 #[.val (.int x0), .val (.int x1), .val (.int x2), .val (.int x3), .val (.int x4), .val (.int (4 : Int32)), .val (.int c0), .val (.int c1), .val (.int c2), .val (.int c3), .val (.ref a3), .val (.ref a4)] [(.int c0), (.int (c0 &&& (255 : Int32)))]))
    obtain ⟨_, _, ⟨T152, L152, k152, n152⟩, -, X152, ⟨Lc152, hQ152, l152, y152, z152⟩, st152⟩ := Jvm.LawKit.callS X151 hx (y := (⟨"com/example/pure_match/purematch/search/CodeCursorCodesOfPinLaw", "unsignedOf", "(B)I"⟩ : MethodName)) hown (mvT hZ (hw _ (List.mem_of_getElem? (i := 10) rfl))) (mvT hZ (hw _ (List.mem_of_getElem? (i := 11) rfl))) (mvT hZ (hw _ (List.mem_of_getElem? (i := 12) rfl))) (mvT hZ (hw _ (List.mem_of_getElem? (i := 13) rfl))) (by decide) (backOf (W := 1) (rm3 l Z a0 hw [] c0 T151.heap) hZ (hw _ (List.mem_of_getElem? (i := 13) rfl)) (hw _ (List.mem_of_getElem? (i := 12) rfl)) (by decide) (by decide)) (g := (mkF m 113 #[.val (.int x0), .val (.int x1), .val (.int x2), .val (.int x3), .val (.int x4), .val (.int (4 : Int32)), .val (.int c0), .val (.int c1), .val (.int c2), .val (.int c3), .val (.ref a3), .val (.ref a4)] [(.int c0), (.int (c0 &&& (255 : Int32)))])) rfl (by rw [hml]; rfl) (argsL := [(.int c0)]) (rest := [(.int (c0 &&& (255 : Int32)))]) (lenOf pd3 rfl) rfl (by show 2 * 0 + _ ≤ _; exact Nat.le_of_eq rfl) (hb hby at_113) (fun _ _ => ⟨rfl, rfl, (by decide : 2 + 0 ≤ _), (by decide : 8 + 0 ≤ _)⟩)
    dsimp only [Pt.U, Pt.locs, Pt.cells, Pt.slots] at X152 l152 y152 z152 st152 hQ152
    subst l152 y152 z152
    obtain ⟨rfl, rfl, e152⟩ := hQ152
    refine own_go (st152) ?_
    show own_G p e below s (own_Q0 n0) 16 128 (T152.setTop (mkF m 116 #[.val (.int x0), .val (.int x1), .val (.int x2), .val (.int x3), .val (.int x4), .val (.int (4 : Int32)), .val (.int c0), .val (.int c1), .val (.int c2), .val (.int c3), .val (.ref a3), .val (.ref a4)] [(.int (own_uns c0)), (.int (c0 &&& (255 : Int32)))]))
    refine own_go (fun t k => XS.icmpYes X152.here hx rfl (pc0 := 116) (pc' := 121) rfl (hb hby at_116) rfl (XT.ii_eq_t (own_uns_eq m0)) (by decide) (by decide) k) ?_
    show own_G p e below s (own_Q0 n0) 16 128 (T152.setTop (mkF m 121 #[.val (.int x0), .val (.int x1), .val (.int x2), .val (.int x3), .val (.int x4), .val (.int (4 : Int32)), .val (.int c0), .val (.int c1), .val (.int c2), .val (.int c3), .val (.ref a3), .val (.ref a4)] []))
    refine own_go (fun t k => XS.iload X152.here hx rfl (hb hby at_121) rfl k) ?_
    show own_G p e below s (own_Q0 n0) 16 128 (T152.setTop (mkF m 123 #[.val (.int x0), .val (.int x1), .val (.int x2), .val (.int x3), .val (.int x4), .val (.int (4 : Int32)), .val (.int c0), .val (.int c1), .val (.int c2), .val (.int c3), .val (.ref a3), .val (.ref a4)] [(.int (4 : Int32))]))
    refine own_go (fun t k => XS.iconst X152.here hx rfl (hb hby at_123) k) ?_
    show own_G p e below s (own_Q0 n0) 16 128 (T152.setTop (mkF m 124 #[.val (.int x0), .val (.int x1), .val (.int x2), .val (.int x3), .val (.int x4), .val (.int (4 : Int32)), .val (.int c0), .val (.int c1), .val (.int c2), .val (.int c3), .val (.ref a3), .val (.ref a4)] [(.int (1 : Int32)), (.int (4 : Int32))]))
    refine own_go (fun t k => XS.icmpNo X152.here hx rfl (hb hby at_124) rfl (XT.ii_le_f (by decide)) k) ?_
    show own_G p e below s (own_Q0 n0) 16 128 (T152.setTop (mkF m 127 #[.val (.int x0), .val (.int x1), .val (.int x2), .val (.int x3), .val (.int x4), .val (.int (4 : Int32)), .val (.int c0), .val (.int c1), .val (.int c2), .val (.int c3), .val (.ref a3), .val (.ref a4)] []))
    refine own_go (fun t k => XS.aload X152.here hx rfl (hb hby at_127) rfl rfl k) ?_
    show own_G p e below s (own_Q0 n0) 16 128 (T152.setTop (mkF m 129 #[.val (.int x0), .val (.int x1), .val (.int x2), .val (.int x3), .val (.int x4), .val (.int (4 : Int32)), .val (.int c0), .val (.int c1), .val (.int c2), .val (.int c3), .val (.ref a3), .val (.ref a4)] [(.ref a4)]))
    refine own_go (fun t k => XS.iconst X152.here hx rfl (hb hby at_129) k) ?_
    show own_G p e below s (own_Q0 n0) 16 128 (T152.setTop (mkF m 130 #[.val (.int x0), .val (.int x1), .val (.int x2), .val (.int x3), .val (.int x4), .val (.int (4 : Int32)), .val (.int c0), .val (.int c1), .val (.int c2), .val (.int c3), .val (.ref a3), .val (.ref a4)] [(.int (1 : Int32)), (.ref a4)]))
    refine own_go (own_ldC X152 hx hZ e152 V4 (j := (1 : Int32)) (v := (.int (c1 &&& (255 : Int32)))) ⟨by decide, by decide⟩ rfl (g := (mkF m 130 #[.val (.int x0), .val (.int x1), .val (.int x2), .val (.int x3), .val (.int x4), .val (.int (4 : Int32)), .val (.int c0), .val (.int c1), .val (.int c2), .val (.int c3), .val (.ref a3), .val (.ref a4)] [(.int (1 : Int32)), (.ref a4)])) rfl rfl (hb hby at_130)) ?_
    show own_G p e below s (own_Q0 n0) 16 128 (T152.setTop (mkF m 131 #[.val (.int x0), .val (.int x1), .val (.int x2), .val (.int x3), .val (.int x4), .val (.int (4 : Int32)), .val (.int c0), .val (.int c1), .val (.int c2), .val (.int c3), .val (.ref a3), .val (.ref a4)] [(.int (c1 &&& (255 : Int32)))]))
    refine own_go (fun t k => XS.iload X152.here hx rfl (hb hby at_131) rfl k) ?_
    show own_G p e below s (own_Q0 n0) 16 128 (T152.setTop (mkF m 133 #[.val (.int x0), .val (.int x1), .val (.int x2), .val (.int x3), .val (.int x4), .val (.int (4 : Int32)), .val (.int c0), .val (.int c1), .val (.int c2), .val (.int c3), .val (.ref a3), .val (.ref a4)] [(.int c1), (.int (c1 &&& (255 : Int32)))]))
    obtain ⟨_, _, ⟨T153, L153, k153, n153⟩, -, X153, ⟨Lc153, hQ153, l153, y153, z153⟩, st153⟩ := Jvm.LawKit.callS X152 hx (y := (⟨"com/example/pure_match/purematch/search/CodeCursorCodesOfPinLaw", "unsignedOf", "(B)I"⟩ : MethodName)) hown (mvT hZ (hw _ (List.mem_of_getElem? (i := 10) rfl))) (mvT hZ (hw _ (List.mem_of_getElem? (i := 11) rfl))) (mvT hZ (hw _ (List.mem_of_getElem? (i := 12) rfl))) (mvT hZ (hw _ (List.mem_of_getElem? (i := 13) rfl))) (by decide) (backOf (W := 1) (rm3 l Z a0 hw [] c1 T151.heap) hZ (hw _ (List.mem_of_getElem? (i := 13) rfl)) (hw _ (List.mem_of_getElem? (i := 12) rfl)) (by decide) (by decide)) (g := (mkF m 133 #[.val (.int x0), .val (.int x1), .val (.int x2), .val (.int x3), .val (.int x4), .val (.int (4 : Int32)), .val (.int c0), .val (.int c1), .val (.int c2), .val (.int c3), .val (.ref a3), .val (.ref a4)] [(.int c1), (.int (c1 &&& (255 : Int32)))])) rfl (by rw [hml]; rfl) (argsL := [(.int c1)]) (rest := [(.int (c1 &&& (255 : Int32)))]) (lenOf pd3 rfl) rfl (by show 2 * 0 + _ ≤ _; exact Nat.le_of_eq rfl) (hb hby at_133) (fun _ _ => ⟨rfl, e152, (by decide : 2 + 0 ≤ _), (by decide : 8 + 0 ≤ _)⟩)
    dsimp only [Pt.U, Pt.locs, Pt.cells, Pt.slots] at X153 l153 y153 z153 st153 hQ153
    subst l153 y153 z153
    obtain ⟨rfl, rfl, e153⟩ := hQ153
    refine own_go (st153) ?_
    show own_G p e below s (own_Q0 n0) 16 128 (T153.setTop (mkF m 136 #[.val (.int x0), .val (.int x1), .val (.int x2), .val (.int x3), .val (.int x4), .val (.int (4 : Int32)), .val (.int c0), .val (.int c1), .val (.int c2), .val (.int c3), .val (.ref a3), .val (.ref a4)] [(.int (own_uns c1)), (.int (c1 &&& (255 : Int32)))]))
    refine own_go (fun t k => XS.icmpYes X153.here hx rfl (pc0 := 136) (pc' := 141) rfl (hb hby at_136) rfl (XT.ii_eq_t (own_uns_eq m1)) (by decide) (by decide) k) ?_
    show own_G p e below s (own_Q0 n0) 16 128 (T153.setTop (mkF m 141 #[.val (.int x0), .val (.int x1), .val (.int x2), .val (.int x3), .val (.int x4), .val (.int (4 : Int32)), .val (.int c0), .val (.int c1), .val (.int c2), .val (.int c3), .val (.ref a3), .val (.ref a4)] []))
    refine own_go (fun t k => XS.iload X153.here hx rfl (hb hby at_141) rfl k) ?_
    show own_G p e below s (own_Q0 n0) 16 128 (T153.setTop (mkF m 143 #[.val (.int x0), .val (.int x1), .val (.int x2), .val (.int x3), .val (.int x4), .val (.int (4 : Int32)), .val (.int c0), .val (.int c1), .val (.int c2), .val (.int c3), .val (.ref a3), .val (.ref a4)] [(.int (4 : Int32))]))
    refine own_go (fun t k => XS.iconst X153.here hx rfl (hb hby at_143) k) ?_
    show own_G p e below s (own_Q0 n0) 16 128 (T153.setTop (mkF m 144 #[.val (.int x0), .val (.int x1), .val (.int x2), .val (.int x3), .val (.int x4), .val (.int (4 : Int32)), .val (.int c0), .val (.int c1), .val (.int c2), .val (.int c3), .val (.ref a3), .val (.ref a4)] [(.int (2 : Int32)), (.int (4 : Int32))]))
    refine own_go (fun t k => XS.icmpNo X153.here hx rfl (hb hby at_144) rfl (XT.ii_le_f (by decide)) k) ?_
    show own_G p e below s (own_Q0 n0) 16 128 (T153.setTop (mkF m 147 #[.val (.int x0), .val (.int x1), .val (.int x2), .val (.int x3), .val (.int x4), .val (.int (4 : Int32)), .val (.int c0), .val (.int c1), .val (.int c2), .val (.int c3), .val (.ref a3), .val (.ref a4)] []))
    refine own_go (fun t k => XS.aload X153.here hx rfl (hb hby at_147) rfl rfl k) ?_
    show own_G p e below s (own_Q0 n0) 16 128 (T153.setTop (mkF m 149 #[.val (.int x0), .val (.int x1), .val (.int x2), .val (.int x3), .val (.int x4), .val (.int (4 : Int32)), .val (.int c0), .val (.int c1), .val (.int c2), .val (.int c3), .val (.ref a3), .val (.ref a4)] [(.ref a4)]))
    refine own_go (fun t k => XS.iconst X153.here hx rfl (hb hby at_149) k) ?_
    show own_G p e below s (own_Q0 n0) 16 128 (T153.setTop (mkF m 150 #[.val (.int x0), .val (.int x1), .val (.int x2), .val (.int x3), .val (.int x4), .val (.int (4 : Int32)), .val (.int c0), .val (.int c1), .val (.int c2), .val (.int c3), .val (.ref a3), .val (.ref a4)] [(.int (2 : Int32)), (.ref a4)]))
    refine own_go (own_ldC X153 hx hZ e153 V4 (j := (2 : Int32)) (v := (.int (c2 &&& (255 : Int32)))) ⟨by decide, by decide⟩ rfl (g := (mkF m 150 #[.val (.int x0), .val (.int x1), .val (.int x2), .val (.int x3), .val (.int x4), .val (.int (4 : Int32)), .val (.int c0), .val (.int c1), .val (.int c2), .val (.int c3), .val (.ref a3), .val (.ref a4)] [(.int (2 : Int32)), (.ref a4)])) rfl rfl (hb hby at_150)) ?_
    show own_G p e below s (own_Q0 n0) 16 128 (T153.setTop (mkF m 151 #[.val (.int x0), .val (.int x1), .val (.int x2), .val (.int x3), .val (.int x4), .val (.int (4 : Int32)), .val (.int c0), .val (.int c1), .val (.int c2), .val (.int c3), .val (.ref a3), .val (.ref a4)] [(.int (c2 &&& (255 : Int32)))]))
    refine own_go (fun t k => XS.iload X153.here hx rfl (hb hby at_151) rfl k) ?_
    show own_G p e below s (own_Q0 n0) 16 128 (T153.setTop (mkF m 153 #[.val (.int x0), .val (.int x1), .val (.int x2), .val (.int x3), .val (.int x4), .val (.int (4 : Int32)), .val (.int c0), .val (.int c1), .val (.int c2), .val (.int c3), .val (.ref a3), .val (.ref a4)] [(.int c2), (.int (c2 &&& (255 : Int32)))]))
    obtain ⟨_, _, ⟨T154, L154, k154, n154⟩, -, X154, ⟨Lc154, hQ154, l154, y154, z154⟩, st154⟩ := Jvm.LawKit.callS X153 hx (y := (⟨"com/example/pure_match/purematch/search/CodeCursorCodesOfPinLaw", "unsignedOf", "(B)I"⟩ : MethodName)) hown (mvT hZ (hw _ (List.mem_of_getElem? (i := 10) rfl))) (mvT hZ (hw _ (List.mem_of_getElem? (i := 11) rfl))) (mvT hZ (hw _ (List.mem_of_getElem? (i := 12) rfl))) (mvT hZ (hw _ (List.mem_of_getElem? (i := 13) rfl))) (by decide) (backOf (W := 1) (rm3 l Z a0 hw [] c2 T151.heap) hZ (hw _ (List.mem_of_getElem? (i := 13) rfl)) (hw _ (List.mem_of_getElem? (i := 12) rfl)) (by decide) (by decide)) (g := (mkF m 153 #[.val (.int x0), .val (.int x1), .val (.int x2), .val (.int x3), .val (.int x4), .val (.int (4 : Int32)), .val (.int c0), .val (.int c1), .val (.int c2), .val (.int c3), .val (.ref a3), .val (.ref a4)] [(.int c2), (.int (c2 &&& (255 : Int32)))])) rfl (by rw [hml]; rfl) (argsL := [(.int c2)]) (rest := [(.int (c2 &&& (255 : Int32)))]) (lenOf pd3 rfl) rfl (by show 2 * 0 + _ ≤ _; exact Nat.le_of_eq rfl) (hb hby at_153) (fun _ _ => ⟨rfl, e153, (by decide : 2 + 0 ≤ _), (by decide : 8 + 0 ≤ _)⟩)
    dsimp only [Pt.U, Pt.locs, Pt.cells, Pt.slots] at X154 l154 y154 z154 st154 hQ154
    subst l154 y154 z154
    obtain ⟨rfl, rfl, e154⟩ := hQ154
    refine own_go (st154) ?_
    show own_G p e below s (own_Q0 n0) 16 128 (T154.setTop (mkF m 156 #[.val (.int x0), .val (.int x1), .val (.int x2), .val (.int x3), .val (.int x4), .val (.int (4 : Int32)), .val (.int c0), .val (.int c1), .val (.int c2), .val (.int c3), .val (.ref a3), .val (.ref a4)] [(.int (own_uns c2)), (.int (c2 &&& (255 : Int32)))]))
    refine own_go (fun t k => XS.icmpYes X154.here hx rfl (pc0 := 156) (pc' := 161) rfl (hb hby at_156) rfl (XT.ii_eq_t (own_uns_eq m2)) (by decide) (by decide) k) ?_
    show own_G p e below s (own_Q0 n0) 16 128 (T154.setTop (mkF m 161 #[.val (.int x0), .val (.int x1), .val (.int x2), .val (.int x3), .val (.int x4), .val (.int (4 : Int32)), .val (.int c0), .val (.int c1), .val (.int c2), .val (.int c3), .val (.ref a3), .val (.ref a4)] []))
    refine own_go (fun t k => XS.iload X154.here hx rfl (hb hby at_161) rfl k) ?_
    show own_G p e below s (own_Q0 n0) 16 128 (T154.setTop (mkF m 163 #[.val (.int x0), .val (.int x1), .val (.int x2), .val (.int x3), .val (.int x4), .val (.int (4 : Int32)), .val (.int c0), .val (.int c1), .val (.int c2), .val (.int c3), .val (.ref a3), .val (.ref a4)] [(.int (4 : Int32))]))
    refine own_go (fun t k => XS.iconst X154.here hx rfl (hb hby at_163) k) ?_
    show own_G p e below s (own_Q0 n0) 16 128 (T154.setTop (mkF m 164 #[.val (.int x0), .val (.int x1), .val (.int x2), .val (.int x3), .val (.int x4), .val (.int (4 : Int32)), .val (.int c0), .val (.int c1), .val (.int c2), .val (.int c3), .val (.ref a3), .val (.ref a4)] [(.int (3 : Int32)), (.int (4 : Int32))]))
    refine own_go (fun t k => XS.icmpNo X154.here hx rfl (hb hby at_164) rfl (XT.ii_le_f (by decide)) k) ?_
    show own_G p e below s (own_Q0 n0) 16 128 (T154.setTop (mkF m 167 #[.val (.int x0), .val (.int x1), .val (.int x2), .val (.int x3), .val (.int x4), .val (.int (4 : Int32)), .val (.int c0), .val (.int c1), .val (.int c2), .val (.int c3), .val (.ref a3), .val (.ref a4)] []))
    refine own_go (fun t k => XS.aload X154.here hx rfl (hb hby at_167) rfl rfl k) ?_
    show own_G p e below s (own_Q0 n0) 16 128 (T154.setTop (mkF m 169 #[.val (.int x0), .val (.int x1), .val (.int x2), .val (.int x3), .val (.int x4), .val (.int (4 : Int32)), .val (.int c0), .val (.int c1), .val (.int c2), .val (.int c3), .val (.ref a3), .val (.ref a4)] [(.ref a4)]))
    refine own_go (fun t k => XS.iconst X154.here hx rfl (hb hby at_169) k) ?_
    show own_G p e below s (own_Q0 n0) 16 128 (T154.setTop (mkF m 170 #[.val (.int x0), .val (.int x1), .val (.int x2), .val (.int x3), .val (.int x4), .val (.int (4 : Int32)), .val (.int c0), .val (.int c1), .val (.int c2), .val (.int c3), .val (.ref a3), .val (.ref a4)] [(.int (3 : Int32)), (.ref a4)]))
    refine own_go (own_ldC X154 hx hZ e154 V4 (j := (3 : Int32)) (v := (.int (c3 &&& (255 : Int32)))) ⟨by decide, by decide⟩ rfl (g := (mkF m 170 #[.val (.int x0), .val (.int x1), .val (.int x2), .val (.int x3), .val (.int x4), .val (.int (4 : Int32)), .val (.int c0), .val (.int c1), .val (.int c2), .val (.int c3), .val (.ref a3), .val (.ref a4)] [(.int (3 : Int32)), (.ref a4)])) rfl rfl (hb hby at_170)) ?_
    show own_G p e below s (own_Q0 n0) 16 128 (T154.setTop (mkF m 171 #[.val (.int x0), .val (.int x1), .val (.int x2), .val (.int x3), .val (.int x4), .val (.int (4 : Int32)), .val (.int c0), .val (.int c1), .val (.int c2), .val (.int c3), .val (.ref a3), .val (.ref a4)] [(.int (c3 &&& (255 : Int32)))]))
    refine own_go (fun t k => XS.iload X154.here hx rfl (hb hby at_171) rfl k) ?_
    show own_G p e below s (own_Q0 n0) 16 128 (T154.setTop (mkF m 173 #[.val (.int x0), .val (.int x1), .val (.int x2), .val (.int x3), .val (.int x4), .val (.int (4 : Int32)), .val (.int c0), .val (.int c1), .val (.int c2), .val (.int c3), .val (.ref a3), .val (.ref a4)] [(.int c3), (.int (c3 &&& (255 : Int32)))]))
    obtain ⟨_, _, ⟨T155, L155, k155, n155⟩, -, X155, ⟨Lc155, hQ155, l155, y155, z155⟩, st155⟩ := Jvm.LawKit.callS X154 hx (y := (⟨"com/example/pure_match/purematch/search/CodeCursorCodesOfPinLaw", "unsignedOf", "(B)I"⟩ : MethodName)) hown (mvT hZ (hw _ (List.mem_of_getElem? (i := 10) rfl))) (mvT hZ (hw _ (List.mem_of_getElem? (i := 11) rfl))) (mvT hZ (hw _ (List.mem_of_getElem? (i := 12) rfl))) (mvT hZ (hw _ (List.mem_of_getElem? (i := 13) rfl))) (by decide) (backOf (W := 1) (rm3 l Z a0 hw [] c3 T151.heap) hZ (hw _ (List.mem_of_getElem? (i := 13) rfl)) (hw _ (List.mem_of_getElem? (i := 12) rfl)) (by decide) (by decide)) (g := (mkF m 173 #[.val (.int x0), .val (.int x1), .val (.int x2), .val (.int x3), .val (.int x4), .val (.int (4 : Int32)), .val (.int c0), .val (.int c1), .val (.int c2), .val (.int c3), .val (.ref a3), .val (.ref a4)] [(.int c3), (.int (c3 &&& (255 : Int32)))])) rfl (by rw [hml]; rfl) (argsL := [(.int c3)]) (rest := [(.int (c3 &&& (255 : Int32)))]) (lenOf pd3 rfl) rfl (by show 2 * 0 + _ ≤ _; exact Nat.le_of_eq rfl) (hb hby at_173) (fun _ _ => ⟨rfl, e154, (by decide : 2 + 0 ≤ _), (by decide : 8 + 0 ≤ _)⟩)
    dsimp only [Pt.U, Pt.locs, Pt.cells, Pt.slots] at X155 l155 y155 z155 st155 hQ155
    subst l155 y155 z155
    obtain ⟨rfl, rfl, e155⟩ := hQ155
    refine own_go (st155) ?_
    show own_G p e below s (own_Q0 n0) 16 128 (T155.setTop (mkF m 176 #[.val (.int x0), .val (.int x1), .val (.int x2), .val (.int x3), .val (.int x4), .val (.int (4 : Int32)), .val (.int c0), .val (.int c1), .val (.int c2), .val (.int c3), .val (.ref a3), .val (.ref a4)] [(.int (own_uns c3)), (.int (c3 &&& (255 : Int32)))]))
    refine own_go (fun t k => XS.icmpYes X155.here hx rfl (pc0 := 176) (pc' := 181) rfl (hb hby at_176) rfl (XT.ii_eq_t (own_uns_eq m3)) (by decide) (by decide) k) ?_
    show own_G p e below s (own_Q0 n0) 16 128 (T155.setTop (mkF m 181 #[.val (.int x0), .val (.int x1), .val (.int x2), .val (.int x3), .val (.int x4), .val (.int (4 : Int32)), .val (.int c0), .val (.int c1), .val (.int c2), .val (.int c3), .val (.ref a3), .val (.ref a4)] []))
    refine own_go (fun t k => XS.iconst X155.here hx rfl (hb hby at_181) k) ?_
    show own_G p e below s (own_Q0 n0) 16 128 (T155.setTop (mkF m 182 #[.val (.int x0), .val (.int x1), .val (.int x2), .val (.int x3), .val (.int x4), .val (.int (4 : Int32)), .val (.int c0), .val (.int c1), .val (.int c2), .val (.int c3), .val (.ref a3), .val (.ref a4)] [(.int (1 : Int32))]))
    exact own_leave X155 (some (.int (1 : Int32))) (fun h => by rw [Bd.returns] at h; cases h) Bd.notSynchronized (fun fs hr => retN X155 hx (t := .boolean) Bd.returns (by simp) (hb hby at_182) hr) ⟨rfl, (Fr.app (Fr.app (Fr.app (Fr.app (Fr.app N150 N4) (Fr.nil n0)) (Fr.nil n0)) (Fr.nil n0)) (Fr.nil n0))⟩ (by decide) (by decide)
set_option maxRecDepth 65536 in
set_option maxHeartbeats 40000000 in
theorem comes_1 {Post : Tables → Env → Array Value → State → Outcome → State → Prop} (hpost : ∀ tb e args s v u, (limb_1_1.after args s (.returned v) u = true ∧ limb_1_2.after args s (.returned v) u = true ∧ True) → FrameEnd s (.returned v) u (Jvm.fieldLocs frame_1_writes args s ++ Jvm.arrayLocs frame_1_arrays args s ++ Jvm.staticLocs frame_1_statics s) 16 128 → Post tb e args s (.returned v) u) :
    ArmFor flags0 classFile x code maxLocals ret World_1 tables_1 room_1 Calls_1 rest_1 Pre_1 Post := by
  intro l hfl _ _ p e ha hc hk s m args below hf hA hF happ hP
  obtain ⟨hcalls, hrest, hpre⟩ := hP
  obtain ⟨-, -, -, hnamed, -, -, -, hat⟩ := (Spec.applies_iff hf).mp happ
  obtain ⟨hg, hn⟩ := and_e (Cond.before_iff.mp (show (Jvm.Cond.and given_1 narrow_1).before args s = true from hpre))
  obtain ⟨h1, r0⟩ := and_e hg
  obtain ⟨k0, r1⟩ := and_e r0
  obtain ⟨k1, r2⟩ := and_e r1
  obtain ⟨k2, r3⟩ := and_e r2
  obtain ⟨k3, r4⟩ := and_e r3
  obtain ⟨w0, w1, w2, w3, w4, rfl⟩ : ∃ w0 w1 w2 w3 w4 : Value, args = #[w0, w1, w2, w3, w4] := by
    have hs : args.size = 5 := by simpa [Cond.value, given_1] using h1
    obtain ⟨L⟩ := args
    match L, hs with
    | [w0, w1, w2, w3, w4], _ => exact ⟨w0, w1, w2, w3, w4, rfl⟩
  have hw := fun d (hd : d ∈ tables_1) => atoms_spec (ws := Jvm.Cond.code x code maxLocals ret :: tables_1) hat d (List.mem_cons_of_mem _ hd)
  obtain ⟨i0, e0⟩ := is_v k0
  obtain rfl : w0 = (.int i0) := Option.some.inj e0
  obtain ⟨i1, e1⟩ := is_v k1
  obtain rfl : w1 = (.int i1) := Option.some.inj e1
  obtain ⟨i2, e2⟩ := is_v k2
  obtain rfl : w2 = (.int i2) := Option.some.inj e2
  obtain ⟨i3, e3⟩ := is_v k3
  obtain rfl : w3 = (.int i3) := Option.some.inj e3
  obtain ⟨i4, e4⟩ := is_v r4
  obtain rfl : w4 = (.int i4) := Option.some.inj e4
  obtain ⟨n, o, h1, h2, h3, _, L, rfl, ⟨rfl, N⟩, hq⟩ := rm0 l s _ hw tables_1 i0 i1 i2 i3 i4 s.heap s.heap.size (Nat.le_refl _)  p e ha hc hk s m _ below hf ((Spec.applies_iff_loose hf).mp happ).1 ⟨rfl, State.Warmed39.refl s, rfl⟩ trivial
  refine ⟨n, _, h1, h2, h3, hpost _ _ _ _ _ _ ⟨Cond.after_iff.mpr rfl, Cond.after_iff.mpr (eq_i res_at (Term.int_eval (1)) rfl), trivial⟩ ⟨hq.1, hq.2.1, (hq.2.2.sift fun y hy => Or.inr (N y hy)).mono (by decide) (by decide)⟩⟩
theorem main_1_1 : Claimed_1_1 := comes_1 fun _ _ _ _ _ _ h hF => ⟨h.1, hF⟩
theorem main_1_2 : Claimed_1_2 := comes_1 fun _ _ _ _ _ _ h hF => ⟨h.2.1, hF⟩
end Jvm.Pilot.@@N@@
namespace Jvm.Pilot.@@N@@
open Jvm Jvm.ClassFile Sem Op Lib Jvm.Free Jvm.Stand Jvm.Pilot.@@N@@.Jvm.D
/-! MADE BY PROGRAM (witnessworld.py) out of the Statement's table words and the real class files: 12 classes; the members and pool entries that the words name. The judged class is class 1, her method 2. -/
namespace start1
open Jvm.ClassFile
def u (s : String) : CpInfo := .utf8 (stringToUtf16 s)
/-- a pool by its gaps: so many unusable entries, then the entry; so many at the end -/
def gap : Nat → List CpInfo → List CpInfo
  | 0, r => r
  | n + 1, r => .unusable :: gap n r
def poolList (es : List (Nat × CpInfo)) (last : Nat) : List CpInfo := es.foldr (fun e r => gap e.1 (e.2 :: r)) (gap last [])
def pool (es : List (Nat × CpInfo)) (last : Nat) : Array CpInfo := ⟨poolList es last⟩
def fileOf (pool : Array CpInfo) (this : Nat) (attrs : Array Attribute := #[]) (ms : Array MethodInfo := #[]) (fl : Nat := 33) (sup : Nat := 0) (ifs : Array Nat := #[]) (fds : Array FieldInfo := #[]) : ClassFile where
  minorVersion := 0
  majorVersion := 65
  constantPool := pool
  accessFlags := fl
  thisClass := this
  superClass := sup
  interfaces := ifs
  fields := fds
  methods := ms
  attributes := attrs
def plain (name : String) (sup : Option ClassId) : Class where
  name := name
  kind := .ordinary
  loader := none
  accessFlags := 33
  super := sup
  interfaces := #[]
  cf := none
  fields := #[]
  methods := #[]
  instanceTypes := #[]
  staticTypes := #[]
  resolved := #[]
  callSites := []
  init := .initialized
  statics := none
  mirror := none

def pool0 : Array CpInfo := pool [(5, u "<init>"), (0, u "()V"), (1, .class_ 10), (1, u "java/lang/Object")] 113

def k0m0 : Method := { name := "<init>", desc := "()V", sig := { parameters := [], returnType := none }, accessFlags := 1, code := none }
/-- java/lang/Object -/
def k0 : Class := { plain "java/lang/Object" none with
  accessFlags := 33
  interfaces := #[]
  cf := some (fileOf pool0 8 #[] #[{ accessFlags := 1, nameIndex := 5, descriptorIndex := 6, attributes := #[] }] 33 0 #[] #[])
  fields := #[]
  methods := #[k0m0]
  instanceTypes := #[]
  staticTypes := #[]
  resolved := Array.replicate 124 none
  statics := none }

def pool1 : Array CpInfo := pool [(2, .class_ 4), (1, u "java/lang/Object"), (0, u "<init>"), (0, u "()V"), (0, .integer 2147483647), (0, .methodref 9 10), (0, .class_ 11), (0, .nameAndType 12 13), (0, u "com/example/pure_match/purematch/search/CodeCursor"), (0, u "codesOf"), (0, u "([B)[C"), (0, .methodref 15 16), (0, .class_ 17), (0, .nameAndType 18 19), (0, u "com/example/pure_match/purematch/search/CodeCursorCodesOfPinLaw"), (0, u "unsignedOf"), (0, u "(B)I"), (3, u "law"), (0, u "(IIIII)Z")] 6

def k1m0 : Method := { name := "<init>", desc := "()V", sig := { parameters := [], returnType := none }, accessFlags := 1, code := none }
def k1c1 : Code := { maxStack := 2, maxLocals := 2, code := method_2_code, exceptionTable := #[], attributes := #[] }
def k1m1 : Method := { name := "unsignedOf", desc := "(B)I", sig := { parameters := [.byte], returnType := some .int }, accessFlags := 10, code := some k1c1 }
def k1c2 : Code := { maxStack := 3, maxLocals := 12, code := code, exceptionTable := #[], attributes := #[] }
def k1m2 : Method := { name := "law", desc := "(IIIII)Z", sig := { parameters := [.int, .int, .int, .int, .int], returnType := some .boolean }, accessFlags := 9, code := some k1c2 }
/-- com/example/pure_match/purematch/search/CodeCursorCodesOfPinLaw -/
def k1 : Class := { plain "com/example/pure_match/purematch/search/CodeCursorCodesOfPinLaw" (some 0) with
  accessFlags := 49
  interfaces := #[]
  cf := some (fileOf pool1 15 #[] #[{ accessFlags := 1, nameIndex := 5, descriptorIndex := 6, attributes := #[] }, { accessFlags := 10, nameIndex := 18, descriptorIndex := 19, attributes := #[] }, { accessFlags := 9, nameIndex := 23, descriptorIndex := 24, attributes := #[] }] 49 2 #[] #[])
  fields := #[]
  methods := #[k1m0, k1m1, k1m2]
  instanceTypes := #[]
  staticTypes := #[]
  resolved := Array.replicate 31 none
  statics := none }

def pool2 : Array CpInfo := pool [(1, .class_ 2), (0, u "com/example/pure_match/purematch/core/Cursor"), (0, .class_ 4), (0, u "java/lang/Object")] 12

/-- com/example/pure_match/purematch/core/Cursor -/
def k2 : Class := { plain "com/example/pure_match/purematch/core/Cursor" (some 0) with
  accessFlags := 1537
  interfaces := #[]
  cf := some (fileOf pool2 1 #[] #[] 1537 3 #[] #[])
  fields := #[]
  methods := #[]
  instanceTypes := #[]
  staticTypes := #[]
  resolved := Array.replicate 17 none
  statics := none }

def pool3 : Array CpInfo := pool [(2, .class_ 4), (1, u "java/lang/Object"), (3, .class_ 10), (1, u "com/example/pure_match/purematch/search/CodeCursor"), (0, u "pattern"), (0, u "[C"), (2, u "length"), (0, u "I"), (0, .methodref 8 18), (0, .nameAndType 19 20), (0, u "codeOf"), (0, u "(B)C"), (2, u "last"), (0, u "C"), (0, .class_ 26), (0, u "com/example/pure_match/purematch/core/Cursor"), (3, u "codesOf"), (0, u "([B)[C")] 7

def k3c0 : Code := { maxStack := 4, maxLocals := 3, code := prog_15_method_2_code, exceptionTable := #[], attributes := #[] }
def k3m0 : Method := { name := "codesOf", desc := "([B)[C", sig := { parameters := [(.array .byte)], returnType := some (.array .char) }, accessFlags := 8, code := some k3c0 }
def k3c1 : Code := { maxStack := 2, maxLocals := 1, code := prog_15_method_3_code, exceptionTable := #[], attributes := #[] }
def k3m1 : Method := { name := "codeOf", desc := "(B)C", sig := { parameters := [.byte], returnType := some .char }, accessFlags := 8, code := some k3c1 }
/-- com/example/pure_match/purematch/search/CodeCursor -/
def k3 : Class := { plain "com/example/pure_match/purematch/search/CodeCursor" (some 0) with
  accessFlags := 1056
  interfaces := #[2]
  cf := some (fileOf pool3 8 #[] #[{ accessFlags := 8, nameIndex := 30, descriptorIndex := 31, attributes := #[] }, { accessFlags := 8, nameIndex := 19, descriptorIndex := 20, attributes := #[] }] 1056 2 #[25] #[{ accessFlags := 18, nameIndex := 11, descriptorIndex := 12, attributes := #[] }, { accessFlags := 18, nameIndex := 15, descriptorIndex := 16, attributes := #[] }, { accessFlags := 0, nameIndex := 23, descriptorIndex := 24, attributes := #[] }])
  fields := #[{ name := "pattern", type := (.array .char), accessFlags := 18, slot := 0, constantValue := 0 }, { name := "length", type := .int, accessFlags := 18, slot := 1, constantValue := 0 }, { name := "last", type := .char, accessFlags := 0, slot := 2, constantValue := 0 }]
  methods := #[k3m0, k3m1]
  instanceTypes := #[(.array .char), .int, .char]
  staticTypes := #[]
  resolved := Array.replicate 39 none
  statics := none }

def pool4 : Array CpInfo := pool [(1, u "java/lang/Cloneable"), (0, .class_ 1), (0, u "java/lang/Object"), (0, .class_ 3)] 3

/-- java/lang/Cloneable -/
def k4 : Class := { plain "java/lang/Cloneable" (some 0) with
  accessFlags := 1537
  interfaces := #[]
  cf := some (fileOf pool4 2 #[] #[] 1537 4 #[] #[])
  fields := #[]
  methods := #[]
  instanceTypes := #[]
  staticTypes := #[]
  resolved := Array.replicate 8 none
  statics := none }

def pool5 : Array CpInfo := pool [(1, u "java/io/Serializable"), (0, .class_ 1), (0, u "java/lang/Object"), (0, .class_ 3)] 3

/-- java/io/Serializable -/
def k5 : Class := { plain "java/io/Serializable" (some 0) with
  accessFlags := 1537
  interfaces := #[]
  cf := some (fileOf pool5 2 #[] #[] 1537 4 #[] #[])
  fields := #[]
  methods := #[]
  instanceTypes := #[]
  staticTypes := #[]
  resolved := Array.replicate 8 none
  statics := none }

/-- the primitive byte -/
def k6 : Class := { plain "byte" none with kind := .primitive 'B', accessFlags := 0x411 }
/-- [B -/
def k7 : Class := { plain "[B" (some 0) with kind := .array 6 .byte, interfaces := #[4, 5], accessFlags := 1041 }

/-- the primitive char -/
def k8 : Class := { plain "char" none with kind := .primitive 'C', accessFlags := 0x411 }
/-- [C -/
def k9 : Class := { plain "[C" (some 0) with kind := .array 8 .char, interfaces := #[4, 5], accessFlags := 1041 }

/-- the primitive int -/
def k10 : Class := { plain "int" none with kind := .primitive 'I', accessFlags := 0x411 }
/-- [I -/
def k11 : Class := { plain "[I" (some 0) with kind := .array 10 .int, interfaces := #[4, 5], accessFlags := 1041 }

def heap : Heap := #[]
def classes : Array Class := #[k0, k1, k2, k3, k4, k5, k6, k7, k8, k9, k10, k11]
def interned : List (Array UInt16 × Addr) := []
def slotsUsed : Nat := 0
def theMethod : MethodId := ⟨1, 2⟩
def args0 : Array Value := #[.int 1, .int 200, .int 3, .int 4, .int 3]
def aboutOver (below : List Frame) : State where
  vm := { classes := classes, interned := interned.toArray }
  heap := heap
  slotsUsed := slotsUsed
  threads := #[{ frames := .invoking theMethod args0 :: below }]
def below0 : List Frame := [.native { method := ⟨0, 0⟩, args := #[] }]
def about1 : State := aboutOver below0
def p0 : Program := .bare "" "" ""
def e0 : Env := launch0.env 0 0 0
theorem w_frames : about1.frames = Frame.invoking theMethod args0 :: below0 := rfl
set_option maxRecDepth 65536 in
theorem w_args : argsFit about1.vm theMethod args0 = true := by decide +kernel
set_option maxRecDepth 65536 in
theorem w_heap : heapFits about1 = true := by decide +kernel
set_option maxRecDepth 65536 in
theorem w_runnable : about1.curStatus? = some .runnable := by decide +kernel
set_option maxRecDepth 65536 in
theorem w_alone : about1.alone = true := by decide +kernel
set_option maxRecDepth 65536 in
theorem w_named : about1.methodNamed? x = some theMethod := by decide +kernel
set_option maxRecDepth 65536 in
theorem w_hears : about1.hears theMethod below0 = true := by decide +kernel
set_option maxRecDepth 65536 in
theorem w_ripe : about1.ripe theMethod args0 below0 = true := by decide +kernel
theorem w_running : about1.status = .running := rfl
set_option maxRecDepth 65536 in
theorem w_room : about1.hasRoom e0.platform room_1 = true :=
  launch0.hasRoom_least _ room_1 (by decide +kernel) (by decide +kernel) (by decide +kernel) (by decide +kernel) (by decide +kernel) (by decide +kernel)
theorem allAtoms_all (ts : List Jvm.Cond) (a : Array Jvm.Value) (st : Jvm.State) : (allAtoms ts).before a st = ts.all (fun c => c.before a st) := by
  induction ts with
  | nil => rfl
  | cons c t ih =>
    show (Jvm.Cond.and c (allAtoms t)).before a st = _
    rw [Jvm.Cond.before_and, ih, List.all_cons]
def words1 : List Jvm.Cond := Jvm.Cond.code x code maxLocals ret :: tables_1
/-- a 'code' word, met by the world's own term for the bytes: nothing is compared byte by byte -/
theorem code_word {y : MethodName} {bytes : ByteArray} {mx : Nat} {rt : Option FieldType} {a : Array Value} {s : State} {m : MethodId} {meth : Method} {c : Code} (h1 : s.methodNamed? y = some m) (h2 : s.vm.method? m = some meth) (h3 : meth.code = some c) (h4 : c.code = bytes)
    (h5 : (c.maxLocals == mx && c.exceptionTable.isEmpty && decide (c.maxStack ≤ mostOperands) && decide (meth.sig.returnType = rt) && !meth.locks && decide (parseMethodDescriptor y.desc = some meth.sig)) = true) : (Jvm.Cond.code y bytes mx rt).before a s = true := by
  simp only [Bool.and_eq_true, beq_iff_eq, Bool.not_eq_true', decide_eq_true_eq] at h5
  obtain ⟨⟨⟨⟨⟨g1, g2⟩, g3⟩, g4⟩, g5⟩, g6⟩ := h5
  simp [Cond.before, Cond.holds, Cond.value, h1, h2, h3, h4, g1, g2, g3, g4, g5, g6]
def isCode : Jvm.Cond → Bool
  | .code _ _ _ _ => true
  | _ => false
theorem all_split {L : List Jvm.Cond} {P : Jvm.Cond → Bool} (h1 : L.all (fun c => isCode c || P c) = true) (h2 : ∀ c ∈ L.filter isCode, P c = true) : L.all P = true := by
  refine List.all_eq_true.mpr fun c hc => ?_
  have h := List.all_eq_true.mp h1 c hc
  rcases Bool.eq_false_or_eq_true (isCode c) with hi | hi
  · exact h2 c (List.mem_filter.mpr ⟨hc, hi⟩)
  · simpa [hi] using h
set_option maxRecDepth 65536 in
theorem w_c0 : (Jvm.Cond.code x code maxLocals ret).before args0 about1 = true := code_word (m := ⟨1, 2⟩) (meth := k1m2) (c := k1c2) (by decide +kernel) rfl rfl rfl (by decide +kernel)
set_option maxRecDepth 65536 in
theorem w_c1 : (Jvm.Cond.code ({ cls := "com/example/pure_match/purematch/search/CodeCursor", name := "codesOf", desc := "([B)[C" } : Jvm.MethodName) prog_15_method_2_code (3 : Nat) (Option.some (Jvm.ClassFile.FieldType.array Jvm.ClassFile.FieldType.char))).before args0 about1 = true := code_word (m := ⟨3, 0⟩) (meth := k3m0) (c := k3c0) (by decide +kernel) rfl rfl rfl (by decide +kernel)
set_option maxRecDepth 65536 in
theorem w_c2 : (Jvm.Cond.code ({ cls := "com/example/pure_match/purematch/search/CodeCursor", name := "codeOf", desc := "(B)C" } : Jvm.MethodName) prog_15_method_3_code (1 : Nat) (Option.some Jvm.ClassFile.FieldType.char)).before args0 about1 = true := code_word (m := ⟨3, 1⟩) (meth := k3m1) (c := k3c1) (by decide +kernel) rfl rfl rfl (by decide +kernel)
set_option maxRecDepth 65536 in
theorem w_c3 : (Jvm.Cond.code ({ cls := "com/example/pure_match/purematch/search/CodeCursorCodesOfPinLaw", name := "unsignedOf", desc := "(B)I" } : Jvm.MethodName) method_2_code (2 : Nat) (Option.some Jvm.ClassFile.FieldType.int)).before args0 about1 = true := code_word (m := ⟨1, 1⟩) (meth := k1m1) (c := k1c1) (by decide +kernel) rfl rfl rfl (by decide +kernel)
def codes1 : List Jvm.Cond := [Jvm.Cond.code x code maxLocals ret, Jvm.Cond.code ({ cls := "com/example/pure_match/purematch/search/CodeCursor", name := "codesOf", desc := "([B)[C" } : Jvm.MethodName) prog_15_method_2_code (3 : Nat) (Option.some (Jvm.ClassFile.FieldType.array Jvm.ClassFile.FieldType.char)), Jvm.Cond.code ({ cls := "com/example/pure_match/purematch/search/CodeCursor", name := "codeOf", desc := "(B)C" } : Jvm.MethodName) prog_15_method_3_code (1 : Nat) (Option.some Jvm.ClassFile.FieldType.char), Jvm.Cond.code ({ cls := "com/example/pure_match/purematch/search/CodeCursorCodesOfPinLaw", name := "unsignedOf", desc := "(B)I" } : Jvm.MethodName) method_2_code (2 : Nat) (Option.some Jvm.ClassFile.FieldType.int)]
set_option maxRecDepth 65536 in
theorem codes_eq : words1.filter isCode = codes1 := rfl
theorem w_codes : ∀ c ∈ words1.filter isCode, c.before args0 about1 = true := by
  rw [codes_eq]
  intro c hc
  simp only [codes1, List.mem_cons, List.not_mem_nil, or_false] at hc
  rcases hc with rfl | rfl | rfl | rfl
  · exact w_c0
  · exact w_c1
  · exact w_c2
  · exact w_c3
set_option maxRecDepth 65536 in
theorem w_t1 : words1.all (fun c => isCode c || c.before args0 about1) = true := by decide +kernel
theorem w_tables : (allAtoms (Jvm.Cond.code x code maxLocals ret :: tables_1)).before args0 about1 = true := by
  rw [allAtoms_all]
  show words1.all (fun c => c.before args0 about1) = true
  refine all_split ?_ w_codes
  rw [w_t1]
set_option maxRecDepth 65536 in
theorem w_case : (Jvm.Cond.and given_1 narrow_1).before args0 about1 = true := by decide +kernel
theorem w_applies : (headSpec (Jvm.Cond.code x code maxLocals ret :: tables_1) room_1).applies x e0.platform about1 = true :=
  (Spec.applies_iff w_frames).mpr ⟨w_running, w_runnable, w_alone, w_named, w_hears, w_ripe, w_room, w_tables⟩
theorem atStart : AtStart classFile x code maxLocals ret World_1 tables_1 room_1 Calls_1 rest_1 Pre_1 launch0 p0 e0 about1 theMethod args0 below0 :=
  ⟨lists_1, trivial, launch0.admits_env _ _ _, launch0.least_env, fairChoices_fair.cas, fairChoices_fair.clock, w_frames, w_args, w_heap, w_applies, trivial, trivial, w_case⟩
end start1
theorem witness_1 : WitnessClaimed_1 := ⟨start1.p0, start1.e0, start1.about1, start1.theMethod, start1.args0, start1.below0, start1.atStart⟩
end Jvm.Pilot.@@N@@
