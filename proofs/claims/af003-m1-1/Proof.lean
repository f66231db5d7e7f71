import JvmDerived
import JvmDerived.Pilot.@@N@@Statement
import JvmDerived.Pilot.@@N@@Code
set_option linter.unusedVariables false
set_option linter.unusedSimpArgs false
namespace Jvm.RoadKit
open Sem ClassFile Op Lib Jvm.Stand Jvm.Free Jvm.LawKit
section New
variable {p : Program} {l : Launch} {e : Env} {R : Room} {s : State} {m : MethodId} {args : Array Value} {below : List Frame} {meth : Method} {c : Code} {T T' : State} {locs : List Loc} {cells slots cs sl : Nat} {Q : Option Value → Heap → List Loc → Prop}
/-- from T the run ends, and Q holds at the end -/
def Gl (p : Program) (e : Env) (below : List Frame) (s : State) (Q : Option Value → Heap → List Loc → Prop) (cs sl : Nat) (T : State) : Prop :=
  ∃ s₂ o, Steps p.tables e below T s₂ ∧ s₂.status = .running ∧ Ended s₂ below o ∧ ∃ v L, o = .returned v ∧ Q v s₂.heap L ∧ FrameEnd s o s₂ L cs sl
theorem Gl.st (k : ∀ t, Steps p.tables e below T' t → Steps p.tables e below T t) (h : Gl p e below s Q cs sl T') : Gl p e below s Q cs sl T := by
  obtain ⟨a, o, h1, r⟩ := h
  exact ⟨a, o, k _ h1, r⟩
theorem Gl.to (k : Steps p.tables e below T T') (h : Gl p e below s Q cs sl T') : Gl p e below s Q cs sl T := Gl.st (fun _ q => k.trans q) h
theorem Gl.fin (X : Stand p l e R s m args below meth c T locs cells slots) {v : Option Value} (hv : meth.sig.returnType = none → v = none) (hlk : meth.locks = false) (hQ : Q v T.heap locs) (hc : cells ≤ cs) (hs : slots ≤ sl) {S0 : State}
    (k : ∀ fs, (∀ (f : JFrame) (acts : List Action), f.method = m → f.locked = none → f.entered = [] → (doReturn e (T.setTop f) acts v).1 = T.setFrames fs) → Steps p.tables e below S0 (T.setFrames fs)) : Gl p e below s Q cs sl S0 := by
  obtain ⟨fs, hr, hrun, hended, hW, hsame⟩ := X.leave hv hlk
  exact ⟨_, _, k fs hr, hrun, hended, v, locs, rfl, hQ, ⟨_, rfl⟩, hW, hsame.mono hc hs⟩
theorem Gl.retN (X : Stand p l e R s m args below meth c T locs cells slots) (hx : p.tables.exec = Jvm.exec) (hlk : meth.locks = false) {pc : Nat} {Ls : Array Slot} {z : Int32} {t : FieldType} {rest : List Value} (hret : meth.sig.returnType = some t) (ht : t = .boolean ∨ t = .byte ∨ t = .char ∨ t = .short)
    (hd : decode c.code pc = .ok (.ireturn, 1)) (hQ : Q (some (.int (nar t z))) T.heap locs) (hc : cells ≤ cs) (hs : slots ≤ sl) : Gl p e below s Q cs sl (T.setTop (mkF m pc Ls (.int z :: rest))) :=
  Gl.fin X (fun h => by rw [hret] at h; cases h) hlk hQ hc hs fun _ hr => Jvm.RoadKit.retN X hx hret ht hd hr
theorem Gl.retI (X : Stand p l e R s m args below meth c T locs cells slots) (hx : p.tables.exec = Jvm.exec) (hlk : meth.locks = false) {pc : Nat} {Ls : Array Slot} {z : Int32} {rest : List Value} (hret : meth.sig.returnType = some .int)
    (hd : decode c.code pc = .ok (.ireturn, 1)) (hQ : Q (some (.int z)) T.heap locs) (hc : cells ≤ cs) (hs : slots ≤ sl) : Gl p e below s Q cs sl (T.setTop (mkF m pc Ls (.int z :: rest))) :=
  Gl.fin X (fun h => by rw [hret] at h; cases h) hlk hQ hc hs fun _ hr => retOut X hx hret rfl (Or.inl ⟨rfl, Or.inl rfl, z, rfl⟩) hd hr
theorem Gl.retJ (X : Stand p l e R s m args below meth c T locs cells slots) (hx : p.tables.exec = Jvm.exec) (hlk : meth.locks = false) {pc : Nat} {Ls : Array Slot} {z : Int64} {rest : List Value} (hret : meth.sig.returnType = some .long)
    (hd : decode c.code pc = .ok (.lreturn, 1)) (hQ : Q (some (.long z)) T.heap locs) (hc : cells ≤ cs) (hs : slots ≤ sl) : Gl p e below s Q cs sl (T.setTop (mkF m pc Ls (.long z :: rest))) :=
  Gl.fin X (fun h => by rw [hret] at h; cases h) hlk hQ hc hs fun _ hr => retOut X hx hret rfl (Or.inr (Or.inl ⟨rfl, rfl, z, rfl⟩)) hd hr
theorem Gl.retV (X : Stand p l e R s m args below meth c T locs cells slots) (hx : p.tables.exec = Jvm.exec) (hlk : meth.locks = false) {pc : Nat} {Ls : Array Slot} (hret : meth.sig.returnType = none)
    (hd : decode c.code pc = .ok (.return_, 1)) (hQ : Q none T.heap locs) (hc : cells ≤ cs) (hs : slots ≤ sl) : Gl p e below s Q cs sl (T.setTop (mkF m pc Ls [])) :=
  Gl.fin X (fun _ => rfl) hlk hQ hc hs fun _ hr => X.returnOut hx hret hd hr
/-- .. where String constants may have been interned -/
def GlW (p : Program) (e : Env) (below : List Frame) (s : State) (Q : Option Value → Heap → List Loc → Prop) (cs sl : Nat) (T : State) : Prop :=
  ∃ s₂ o, Steps p.tables e below T s₂ ∧ s₂.status = .running ∧ Ended s₂ below o ∧ ∃ v L, o = .returned v ∧ Q v s₂.heap L ∧ ReturnedEndW s o s₂ L cs sl
theorem GlW.st (k : ∀ t, Steps p.tables e below T' t → Steps p.tables e below T t) (h : GlW p e below s Q cs sl T') : GlW p e below s Q cs sl T := by
  obtain ⟨a, o, h1, r⟩ := h
  exact ⟨a, o, k _ h1, r⟩
theorem GlW.to (k : Steps p.tables e below T T') (h : GlW p e below s Q cs sl T') : GlW p e below s Q cs sl T := GlW.st (fun _ q => k.trans q) h
theorem GlW.retN {vm₁ : Vm} (X : Stand p l e R (s.setVm vm₁) m args below meth c T locs cells slots) (hx : p.tables.exec = Jvm.exec) {n : Nat} (hS : s.Since vm₁ n) (hn : n ≤ T.heap.size) (hlk : meth.locks = false) {pc : Nat} {Ls : Array Slot} {z : Int32} {t : FieldType} {rest : List Value} (hret : meth.sig.returnType = some t) (ht : t = .boolean ∨ t = .byte ∨ t = .char ∨ t = .short)
    (hd : decode c.code pc = .ok (.ireturn, 1)) (hQ : Q (some (.int (nar t z))) T.heap locs) (hc : cells ≤ cs) (hs : slots ≤ sl) : GlW p e below s Q cs sl (T.setTop (mkF m pc Ls (.int z :: rest))) := by
  obtain ⟨fs, hr, hrun, hended, h1, h2, h3, h4⟩ := X.leaveW hS hn (v := some (.int (nar t z))) (fun h => by rw [hret] at h; cases h) hlk
  exact ⟨_, _, Jvm.RoadKit.retN X hx hret ht hd hr, hrun, hended, _, locs, rfl, hQ, h1, h2, h3, h4.mono hc hs⟩
theorem lc_t {x y : Int64} (h : x < y) : ifCond.holds .lt (lcmpW x y) = true ∧ ifCond.holds .ge (lcmpW x y) = false ∧ ifCond.holds .gt (lcmpW y x) = true ∧ ifCond.holds .le (lcmpW y x) = false :=
  have a := tlt ((lw_lt x y).mpr h)
  have b := tlt ((lw_gt y x).mpr h)
  ⟨(if0 _ _).trans a.1, (if0 _ _).trans a.2.1, (if0 _ _).trans b.2.2.1, (if0 _ _).trans b.2.2.2⟩
theorem lc_f {x y : Int64} (h : ¬ x < y) : ifCond.holds .lt (lcmpW x y) = false ∧ ifCond.holds .ge (lcmpW x y) = true ∧ ifCond.holds .gt (lcmpW y x) = false ∧ ifCond.holds .le (lcmpW y x) = true :=
  have a := flt (fun q => h ((lw_lt x y).mp q))
  have b := flt (fun q => h ((lw_gt y x).mp q))
  ⟨(if0 _ _).trans a.1, (if0 _ _).trans a.2.1, (if0 _ _).trans b.2.2.1, (if0 _ _).trans b.2.2.2⟩
theorem le_t {x y : Int64} (h : x = y) : ifCond.holds .eq (lcmpW x y) = true ∧ ifCond.holds .ne (lcmpW x y) = false :=
  have a := teq ((lw_eq x y).mpr h)
  ⟨(if0 _ _).trans a.1, (if0 _ _).trans a.2⟩
theorem le_f {x y : Int64} (h : ¬ x = y) : ifCond.holds .eq (lcmpW x y) = false ∧ ifCond.holds .ne (lcmpW x y) = true :=
  have a := feq (fun q => h ((lw_eq x y).mp q))
  ⟨(if0 _ _).trans a.1, (if0 _ _).trans a.2⟩
end New
end Jvm.RoadKit
namespace Jvm.Pilot.@@N@@
open Jvm Jvm.ClassFile Sem Op Lib Jvm.Free Jvm.Stand Jvm.LawKit Jvm.RoadKit Bundle Jvm.Pilot.@@N@@.Jvm.D
def own_draw (p1 : Int32) : Int32 := (if (p1 &&& (7 : Int32)) = (0 : Int32) then (nar .byte (32 : Int32)) else (if (p1 &&& (7 : Int32)) = (1 : Int32) then (nar .byte (9 : Int32)) else (if (p1 &&& (7 : Int32)) = (2 : Int32) then (nar .byte (13 : Int32)) else (if (p1 &&& (7 : Int32)) = (3 : Int32) then (nar .byte (10 : Int32)) else (nar .byte (((p1.toUInt32 >>> ((3 : Int32) &&& 31).toUInt32).toInt32).toInt8.toInt32))))))
theorem d1_0 : decode method_2_code 0 = .ok (.iload_n 0, 1) := by decide +kernel
theorem d1_1 : decode method_2_code 1 = .ok (.bipush 7, 2) := by decide +kernel
theorem d1_3 : decode method_2_code 3 = .ok (.iand, 1) := by decide +kernel
theorem d1_4 : decode method_2_code 4 = .ok (.istore_n 1, 1) := by decide +kernel
theorem d1_5 : decode method_2_code 5 = .ok (.iload_n 1, 1) := by decide +kernel
theorem d1_6 : decode method_2_code 6 = .ok (.ifCond .ne 6, 3) := by decide +kernel
theorem d1_9 : decode method_2_code 9 = .ok (.bipush 32, 2) := by decide +kernel
theorem d1_11 : decode method_2_code 11 = .ok (.ireturn, 1) := by decide +kernel
theorem d1_12 : decode method_2_code 12 = .ok (.iload_n 1, 1) := by decide +kernel
theorem d1_13 : decode method_2_code 13 = .ok (.iconst 1, 1) := by decide +kernel
theorem d1_14 : decode method_2_code 14 = .ok (.if_icmp .ne 6, 3) := by decide +kernel
theorem d1_17 : decode method_2_code 17 = .ok (.bipush 9, 2) := by decide +kernel
theorem d1_19 : decode method_2_code 19 = .ok (.ireturn, 1) := by decide +kernel
theorem d1_20 : decode method_2_code 20 = .ok (.iload_n 1, 1) := by decide +kernel
theorem d1_21 : decode method_2_code 21 = .ok (.iconst 2, 1) := by decide +kernel
theorem d1_22 : decode method_2_code 22 = .ok (.if_icmp .ne 6, 3) := by decide +kernel
theorem d1_25 : decode method_2_code 25 = .ok (.bipush 13, 2) := by decide +kernel
theorem d1_27 : decode method_2_code 27 = .ok (.ireturn, 1) := by decide +kernel
theorem d1_28 : decode method_2_code 28 = .ok (.iload_n 1, 1) := by decide +kernel
theorem d1_29 : decode method_2_code 29 = .ok (.iconst 3, 1) := by decide +kernel
theorem d1_30 : decode method_2_code 30 = .ok (.if_icmp .ne 6, 3) := by decide +kernel
theorem d1_33 : decode method_2_code 33 = .ok (.bipush 10, 2) := by decide +kernel
theorem d1_35 : decode method_2_code 35 = .ok (.ireturn, 1) := by decide +kernel
theorem d1_36 : decode method_2_code 36 = .ok (.iload_n 0, 1) := by decide +kernel
theorem d1_37 : decode method_2_code 37 = .ok (.iconst 3, 1) := by decide +kernel
theorem d1_38 : decode method_2_code 38 = .ok (.iushr, 1) := by decide +kernel
theorem d1_39 : decode method_2_code 39 = .ok (.i2b, 1) := by decide +kernel
theorem d1_40 : decode method_2_code 40 = .ok (.ireturn, 1) := by decide +kernel
theorem pf_0 : plainFor (⟨"com/example/millrace/millrace/ParserSkipSpacePinLaw", "draw", "(I)B"⟩ : MethodName) = true := by decide +kernel
def Q1 (Z : State) (p1 : Int32) (h0 : Heap) (n0 : Nat) (v : Option Value) (h : Heap) (L : List Loc) : Prop := v = some (.int (own_draw p1)) ∧ Fr n0 L ∧ h = h0
theorem ef_1 (m : MethodId) (p1 : Int32) : entryFrame m #[(.int p1)] 2 = mkF m 0 #[.val (.int p1), .unset] [] := by first | (simp [entryFrame, mkF, argsToLocals, Value.category]; done) | rfl
set_option maxRecDepth 65536 in
set_option maxHeartbeats 40000000 in
theorem rm1 (l : Launch) (Z : State) (a0 : Array Value) (hw : ∀ d ∈ tables_1, d.before a0 Z = true) (ws : List Jvm.Cond) (p1 : Int32) (h0 : Heap) (n0 : Nat) :
    MetFree l (⟨"com/example/millrace/millrace/ParserSkipSpacePinLaw", "draw", "(I)B"⟩ : MethodName) (head1 (Jvm.Cond.code (⟨"com/example/millrace/millrace/ParserSkipSpacePinLaw", "draw", "(I)B"⟩ : MethodName) method_2_code 2 (some .byte) :: ws) ({ frames := 0, cells := 0, slots := 0, locals := 0 } : Room)) (fun a U => a = #[(.int p1)] ∧ Z.Warmed39 U.vm ∧ U.heap = h0) (fun _ _ _ _ _ => True) (fun _ U o U' => ∃ v L, o = .returned v ∧ Q1 Z p1 h0 n0 v U'.heap L ∧ FrameEnd U o U' L ({ frames := 0, cells := 0, slots := 0, locals := 0 } : Room).cells ({ frames := 0, cells := 0, slots := 0, locals := 0 } : Room).slots) := by
  refine MetFree.of_bodySF pf_0 hisR ?_
  intro p e s m args below meth c s₁ Bd hml0 hP hK
  obtain ⟨rfl, hZ, hh⟩ := hP
  have hx := Bd.exec
  have hby := Bd.bytes
  have hlk : meth.locks = false := BodyLoose.notSynchronized Bd
  have hml : c.maxLocals = 2 := hml0
  have hown : s.vm.findClass "com/example/millrace/millrace/ParserSkipSpacePinLaw" = some m.cls := findClass_of_methodNamed Bd.named
  have hnm := (name_of_methodNamed Bd.named Bd.method).1
  have X0 : Stand p l e ({ frames := 0, cells := 0, slots := 0, locals := 0 } : Room) s m #[(.int p1)] below meth c s₁ [] 0 0 := Stand.of_body Bd
  have e0 : s₁.heap = h0 := by rw [← hh, Bd.state]; rfl
  have N0 := Fr.nil n0
  show Gl p e below s (Q1 Z p1 h0 n0) ({ frames := 0, cells := 0, slots := 0, locals := 0 } : Room).cells ({ frames := 0, cells := 0, slots := 0, locals := 0 } : Room).slots (s₁.setTop (entryFrame m #[(.int p1)] 2))
  rw [ef_1]
  show Gl _ _ _ _ _ _ _ (s₁.setTop (mkF m 0 #[.val (.int p1), .unset] []))
  refine Gl.st (fun t k => XS.iloadN X0.here hx rfl (hb hby d1_0) rfl  k) ?_
  show Gl _ _ _ _ _ _ _ (s₁.setTop (mkF m 1 #[.val (.int p1), .unset] [(.int p1)]))
  refine Gl.st (fun t k => XS.bipush X0.here hx rfl (hb hby d1_1) k) ?_
  show Gl _ _ _ _ _ _ _ (s₁.setTop (mkF m 3 #[.val (.int p1), .unset] [(.int (7 : Int32)), (.int p1)]))
  refine Gl.st (fun t k => XS.iand X0.here hx rfl (hb hby d1_3) rfl k) ?_
  show Gl _ _ _ _ _ _ _ (s₁.setTop (mkF m 4 #[.val (.int p1), .unset] [(.int (p1 &&& (7 : Int32)))]))
  refine Gl.st (fun t k => XS.istoreN X0.here hx rfl (hb hby d1_4) rfl (l' := #[.val (.int p1), .val (.int (p1 &&& (7 : Int32)))]) rfl k) ?_
  show Gl _ _ _ _ _ _ _ (s₁.setTop (mkF m 5 #[.val (.int p1), .val (.int (p1 &&& (7 : Int32)))] []))
  refine Gl.st (fun t k => XS.iloadN X0.here hx rfl (hb hby d1_5) rfl  k) ?_
  show Gl _ _ _ _ _ _ _ (s₁.setTop (mkF m 6 #[.val (.int p1), .val (.int (p1 &&& (7 : Int32)))] [(.int (p1 &&& (7 : Int32)))]))
  by_cases hc6 : (p1 &&& (7 : Int32)) = (0 : Int32)
  · refine Gl.st (fun t k => XS.ifNo X0.here hx rfl (hb hby d1_6) rfl ((if0 _ _).trans (teq hc6).2) k) ?_
    show Gl _ _ _ _ _ _ _ (s₁.setTop (mkF m 9 #[.val (.int p1), .val (.int (p1 &&& (7 : Int32)))] []))
    refine Gl.st (fun t k => XS.bipush X0.here hx rfl (hb hby d1_9) k) ?_
    show Gl _ _ _ _ _ _ _ (s₁.setTop (mkF m 11 #[.val (.int p1), .val (.int (p1 &&& (7 : Int32)))] [(.int (32 : Int32))]))
    exact Gl.retN X0 hx hlk Bd.returns (by simp) (hb hby d1_11) (⟨congrArg (fun z => some (Value.int z)) (show (nar .byte (32 : Int32)) = own_draw p1 from by simp only [own_draw, if_pos hc6]), N0, e0⟩) (by decide) (by decide)
  · refine Gl.st (fun t k => XS.ifYes X0.here hx rfl (pc0 := 6) (pc' := 12) rfl (hb hby d1_6) rfl ((if0 _ _).trans (feq hc6).2) (by decide) (by decide) k) ?_
    show Gl _ _ _ _ _ _ _ (s₁.setTop (mkF m 12 #[.val (.int p1), .val (.int (p1 &&& (7 : Int32)))] []))
    refine Gl.st (fun t k => XS.iloadN X0.here hx rfl (hb hby d1_12) rfl  k) ?_
    show Gl _ _ _ _ _ _ _ (s₁.setTop (mkF m 13 #[.val (.int p1), .val (.int (p1 &&& (7 : Int32)))] [(.int (p1 &&& (7 : Int32)))]))
    refine Gl.st (fun t k => XS.iconst X0.here hx rfl (hb hby d1_13) k) ?_
    show Gl _ _ _ _ _ _ _ (s₁.setTop (mkF m 14 #[.val (.int p1), .val (.int (p1 &&& (7 : Int32)))] [(.int (1 : Int32)), (.int (p1 &&& (7 : Int32)))]))
    by_cases hc14 : (p1 &&& (7 : Int32)) = (1 : Int32)
    · refine Gl.st (fun t k => XS.icmpNo X0.here hx rfl (hb hby d1_14) rfl (teq hc14).2 k) ?_
      show Gl _ _ _ _ _ _ _ (s₁.setTop (mkF m 17 #[.val (.int p1), .val (.int (p1 &&& (7 : Int32)))] []))
      refine Gl.st (fun t k => XS.bipush X0.here hx rfl (hb hby d1_17) k) ?_
      show Gl _ _ _ _ _ _ _ (s₁.setTop (mkF m 19 #[.val (.int p1), .val (.int (p1 &&& (7 : Int32)))] [(.int (9 : Int32))]))
      exact Gl.retN X0 hx hlk Bd.returns (by simp) (hb hby d1_19) (⟨congrArg (fun z => some (Value.int z)) (show (nar .byte (9 : Int32)) = own_draw p1 from by simp only [own_draw, if_neg hc6, if_pos hc14]), N0, e0⟩) (by decide) (by decide)
    · refine Gl.st (fun t k => XS.icmpYes X0.here hx rfl (pc0 := 14) (pc' := 20) rfl (hb hby d1_14) rfl (feq hc14).2 (by decide) (by decide) k) ?_
      show Gl _ _ _ _ _ _ _ (s₁.setTop (mkF m 20 #[.val (.int p1), .val (.int (p1 &&& (7 : Int32)))] []))
      refine Gl.st (fun t k => XS.iloadN X0.here hx rfl (hb hby d1_20) rfl  k) ?_
      show Gl _ _ _ _ _ _ _ (s₁.setTop (mkF m 21 #[.val (.int p1), .val (.int (p1 &&& (7 : Int32)))] [(.int (p1 &&& (7 : Int32)))]))
      refine Gl.st (fun t k => XS.iconst X0.here hx rfl (hb hby d1_21) k) ?_
      show Gl _ _ _ _ _ _ _ (s₁.setTop (mkF m 22 #[.val (.int p1), .val (.int (p1 &&& (7 : Int32)))] [(.int (2 : Int32)), (.int (p1 &&& (7 : Int32)))]))
      by_cases hc22 : (p1 &&& (7 : Int32)) = (2 : Int32)
      · refine Gl.st (fun t k => XS.icmpNo X0.here hx rfl (hb hby d1_22) rfl (teq hc22).2 k) ?_
        show Gl _ _ _ _ _ _ _ (s₁.setTop (mkF m 25 #[.val (.int p1), .val (.int (p1 &&& (7 : Int32)))] []))
        refine Gl.st (fun t k => XS.bipush X0.here hx rfl (hb hby d1_25) k) ?_
        show Gl _ _ _ _ _ _ _ (s₁.setTop (mkF m 27 #[.val (.int p1), .val (.int (p1 &&& (7 : Int32)))] [(.int (13 : Int32))]))
        exact Gl.retN X0 hx hlk Bd.returns (by simp) (hb hby d1_27) (⟨congrArg (fun z => some (Value.int z)) (show (nar .byte (13 : Int32)) = own_draw p1 from by simp only [own_draw, if_neg hc6, if_neg hc14, if_pos hc22]), N0, e0⟩) (by decide) (by decide)
      · refine Gl.st (fun t k => XS.icmpYes X0.here hx rfl (pc0 := 22) (pc' := 28) rfl (hb hby d1_22) rfl (feq hc22).2 (by decide) (by decide) k) ?_
        show Gl _ _ _ _ _ _ _ (s₁.setTop (mkF m 28 #[.val (.int p1), .val (.int (p1 &&& (7 : Int32)))] []))
        refine Gl.st (fun t k => XS.iloadN X0.here hx rfl (hb hby d1_28) rfl  k) ?_
        show Gl _ _ _ _ _ _ _ (s₁.setTop (mkF m 29 #[.val (.int p1), .val (.int (p1 &&& (7 : Int32)))] [(.int (p1 &&& (7 : Int32)))]))
        refine Gl.st (fun t k => XS.iconst X0.here hx rfl (hb hby d1_29) k) ?_
        show Gl _ _ _ _ _ _ _ (s₁.setTop (mkF m 30 #[.val (.int p1), .val (.int (p1 &&& (7 : Int32)))] [(.int (3 : Int32)), (.int (p1 &&& (7 : Int32)))]))
        by_cases hc30 : (p1 &&& (7 : Int32)) = (3 : Int32)
        · refine Gl.st (fun t k => XS.icmpNo X0.here hx rfl (hb hby d1_30) rfl (teq hc30).2 k) ?_
          show Gl _ _ _ _ _ _ _ (s₁.setTop (mkF m 33 #[.val (.int p1), .val (.int (p1 &&& (7 : Int32)))] []))
          refine Gl.st (fun t k => XS.bipush X0.here hx rfl (hb hby d1_33) k) ?_
          show Gl _ _ _ _ _ _ _ (s₁.setTop (mkF m 35 #[.val (.int p1), .val (.int (p1 &&& (7 : Int32)))] [(.int (10 : Int32))]))
          exact Gl.retN X0 hx hlk Bd.returns (by simp) (hb hby d1_35) (⟨congrArg (fun z => some (Value.int z)) (show (nar .byte (10 : Int32)) = own_draw p1 from by simp only [own_draw, if_neg hc6, if_neg hc14, if_neg hc22, if_pos hc30]), N0, e0⟩) (by decide) (by decide)
        · refine Gl.st (fun t k => XS.icmpYes X0.here hx rfl (pc0 := 30) (pc' := 36) rfl (hb hby d1_30) rfl (feq hc30).2 (by decide) (by decide) k) ?_
          show Gl _ _ _ _ _ _ _ (s₁.setTop (mkF m 36 #[.val (.int p1), .val (.int (p1 &&& (7 : Int32)))] []))
          refine Gl.st (fun t k => XS.iloadN X0.here hx rfl (hb hby d1_36) rfl  k) ?_
          show Gl _ _ _ _ _ _ _ (s₁.setTop (mkF m 37 #[.val (.int p1), .val (.int (p1 &&& (7 : Int32)))] [(.int p1)]))
          refine Gl.st (fun t k => XS.iconst X0.here hx rfl (hb hby d1_37) k) ?_
          show Gl _ _ _ _ _ _ _ (s₁.setTop (mkF m 38 #[.val (.int p1), .val (.int (p1 &&& (7 : Int32)))] [(.int (3 : Int32)), (.int p1)]))
          refine Gl.st (fun t k => XS.iushr X0.here hx rfl (hb hby d1_38) rfl k) ?_
          show Gl _ _ _ _ _ _ _ (s₁.setTop (mkF m 39 #[.val (.int p1), .val (.int (p1 &&& (7 : Int32)))] [(.int ((p1.toUInt32 >>> ((3 : Int32) &&& 31).toUInt32).toInt32))]))
          refine Gl.st (fun t k => XS.i2b X0.here hx rfl (hb hby d1_39) rfl k) ?_
          show Gl _ _ _ _ _ _ _ (s₁.setTop (mkF m 40 #[.val (.int p1), .val (.int (p1 &&& (7 : Int32)))] [(.int (((p1.toUInt32 >>> ((3 : Int32) &&& 31).toUInt32).toInt32).toInt8.toInt32))]))
          exact Gl.retN X0 hx hlk Bd.returns (by simp) (hb hby d1_40) (⟨congrArg (fun z => some (Value.int z)) (show (nar .byte (((p1.toUInt32 >>> ((3 : Int32) &&& 31).toUInt32).toInt32).toInt8.toInt32)) = own_draw p1 from by simp only [own_draw, if_neg hc6, if_neg hc14, if_neg hc22, if_neg hc30]), N0, e0⟩) (by decide) (by decide)
def own_min (p1 : Int32) (p2 : Int32) : Int32 := (if p2 < p1 then p2 else p1)
theorem d2_0 : decode jdk_29_method_69_code 0 = .ok (.iload_n 0, 1) := by decide +kernel
theorem d2_1 : decode jdk_29_method_69_code 1 = .ok (.iload_n 1, 1) := by decide +kernel
theorem d2_2 : decode jdk_29_method_69_code 2 = .ok (.if_icmp .gt 7, 3) := by decide +kernel
theorem d2_5 : decode jdk_29_method_69_code 5 = .ok (.iload_n 0, 1) := by decide +kernel
theorem d2_6 : decode jdk_29_method_69_code 6 = .ok (.goto 4, 3) := by decide +kernel
theorem d2_9 : decode jdk_29_method_69_code 9 = .ok (.iload_n 1, 1) := by decide +kernel
theorem d2_10 : decode jdk_29_method_69_code 10 = .ok (.ireturn, 1) := by decide +kernel
theorem pf_1 : plainFor (⟨"java/lang/Math", "min", "(II)I"⟩ : MethodName) = true := by decide +kernel
def Q2 (Z : State) (p1 : Int32) (p2 : Int32) (h0 : Heap) (n0 : Nat) (v : Option Value) (h : Heap) (L : List Loc) : Prop := v = some (.int (own_min p1 p2)) ∧ Fr n0 L ∧ h = h0
theorem ef_2 (m : MethodId) (p1 : Int32) (p2 : Int32) : entryFrame m #[(.int p1), (.int p2)] 2 = mkF m 0 #[.val (.int p1), .val (.int p2)] [] := by first | (simp [entryFrame, mkF, argsToLocals, Value.category]; done) | rfl
set_option maxRecDepth 65536 in
set_option maxHeartbeats 40000000 in
theorem rm2 (l : Launch) (Z : State) (a0 : Array Value) (hw : ∀ d ∈ tables_1, d.before a0 Z = true) (ws : List Jvm.Cond) (p1 : Int32) (p2 : Int32) (h0 : Heap) (n0 : Nat) :
    MetFree l (⟨"java/lang/Math", "min", "(II)I"⟩ : MethodName) (head1 (Jvm.Cond.code (⟨"java/lang/Math", "min", "(II)I"⟩ : MethodName) jdk_29_method_69_code 2 (some .int) :: ws) ({ frames := 0, cells := 0, slots := 0, locals := 0 } : Room)) (fun a U => a = #[(.int p1), (.int p2)] ∧ Z.Warmed39 U.vm ∧ U.heap = h0) (fun _ _ _ _ _ => True) (fun _ U o U' => ∃ v L, o = .returned v ∧ Q2 Z p1 p2 h0 n0 v U'.heap L ∧ FrameEnd U o U' L ({ frames := 0, cells := 0, slots := 0, locals := 0 } : Room).cells ({ frames := 0, cells := 0, slots := 0, locals := 0 } : Room).slots) := by
  refine MetFree.of_bodySF pf_1 hisR ?_
  intro p e s m args below meth c s₁ Bd hml0 hP hK
  obtain ⟨rfl, hZ, hh⟩ := hP
  have hx := Bd.exec
  have hby := Bd.bytes
  have hlk : meth.locks = false := BodyLoose.notSynchronized Bd
  have hml : c.maxLocals = 2 := hml0
  have hown : s.vm.findClass "java/lang/Math" = some m.cls := findClass_of_methodNamed Bd.named
  have hnm := (name_of_methodNamed Bd.named Bd.method).1
  have X0 : Stand p l e ({ frames := 0, cells := 0, slots := 0, locals := 0 } : Room) s m #[(.int p1), (.int p2)] below meth c s₁ [] 0 0 := Stand.of_body Bd
  have e0 : s₁.heap = h0 := by rw [← hh, Bd.state]; rfl
  have N0 := Fr.nil n0
  show Gl p e below s (Q2 Z p1 p2 h0 n0) ({ frames := 0, cells := 0, slots := 0, locals := 0 } : Room).cells ({ frames := 0, cells := 0, slots := 0, locals := 0 } : Room).slots (s₁.setTop (entryFrame m #[(.int p1), (.int p2)] 2))
  rw [ef_2]
  show Gl _ _ _ _ _ _ _ (s₁.setTop (mkF m 0 #[.val (.int p1), .val (.int p2)] []))
  refine Gl.st (fun t k => XS.iloadN X0.here hx rfl (hb hby d2_0) rfl  k) ?_
  show Gl _ _ _ _ _ _ _ (s₁.setTop (mkF m 1 #[.val (.int p1), .val (.int p2)] [(.int p1)]))
  refine Gl.st (fun t k => XS.iloadN X0.here hx rfl (hb hby d2_1) rfl  k) ?_
  show Gl _ _ _ _ _ _ _ (s₁.setTop (mkF m 2 #[.val (.int p1), .val (.int p2)] [(.int p2), (.int p1)]))
  by_cases hc2 : p2 < p1
  · refine Gl.st (fun t k => XS.icmpYes X0.here hx rfl (pc0 := 2) (pc' := 9) rfl (hb hby d2_2) rfl (tlt hc2).2.2.1 (by decide) (by decide) k) ?_
    show Gl _ _ _ _ _ _ _ (s₁.setTop (mkF m 9 #[.val (.int p1), .val (.int p2)] []))
    refine Gl.st (fun t k => XS.iloadN X0.here hx rfl (hb hby d2_9) rfl  k) ?_
    show Gl _ _ _ _ _ _ _ (s₁.setTop (mkF m 10 #[.val (.int p1), .val (.int p2)] [(.int p2)]))
    exact Gl.retI X0 hx hlk Bd.returns (hb hby d2_10) (⟨congrArg (fun z => some (Value.int z)) (show p2 = own_min p1 p2 from by simp only [own_min, if_pos hc2]), N0, e0⟩) (by decide) (by decide)
  · refine Gl.st (fun t k => XS.icmpNo X0.here hx rfl (hb hby d2_2) rfl (flt hc2).2.2.1 k) ?_
    show Gl _ _ _ _ _ _ _ (s₁.setTop (mkF m 5 #[.val (.int p1), .val (.int p2)] []))
    refine Gl.st (fun t k => XS.iloadN X0.here hx rfl (hb hby d2_5) rfl  k) ?_
    show Gl _ _ _ _ _ _ _ (s₁.setTop (mkF m 6 #[.val (.int p1), .val (.int p2)] [(.int p1)]))
    refine Gl.st (fun t k => XS.goto X0.here hx rfl (pc0 := 6) (pc' := 10) rfl (hb hby d2_6) (by decide) (by decide) k) ?_
    show Gl _ _ _ _ _ _ _ (s₁.setTop (mkF m 10 #[.val (.int p1), .val (.int p2)] [(.int p1)]))
    exact Gl.retI X0 hx hlk Bd.returns (hb hby d2_10) (⟨congrArg (fun z => some (Value.int z)) (show p1 = own_min p1 p2 from by simp only [own_min, if_neg hc2]), N0, e0⟩) (by decide) (by decide)
def own_max (p1 : Int32) (p2 : Int32) : Int32 := (if p1 < p2 then p2 else p1)
theorem d3_0 : decode jdk_29_method_65_code 0 = .ok (.iload_n 0, 1) := by decide +kernel
theorem d3_1 : decode jdk_29_method_65_code 1 = .ok (.iload_n 1, 1) := by decide +kernel
theorem d3_2 : decode jdk_29_method_65_code 2 = .ok (.if_icmp .lt 7, 3) := by decide +kernel
theorem d3_5 : decode jdk_29_method_65_code 5 = .ok (.iload_n 0, 1) := by decide +kernel
theorem d3_6 : decode jdk_29_method_65_code 6 = .ok (.goto 4, 3) := by decide +kernel
theorem d3_9 : decode jdk_29_method_65_code 9 = .ok (.iload_n 1, 1) := by decide +kernel
theorem d3_10 : decode jdk_29_method_65_code 10 = .ok (.ireturn, 1) := by decide +kernel
theorem pf_2 : plainFor (⟨"java/lang/Math", "max", "(II)I"⟩ : MethodName) = true := by decide +kernel
def Q3 (Z : State) (p1 : Int32) (p2 : Int32) (h0 : Heap) (n0 : Nat) (v : Option Value) (h : Heap) (L : List Loc) : Prop := v = some (.int (own_max p1 p2)) ∧ Fr n0 L ∧ h = h0
theorem ef_3 (m : MethodId) (p1 : Int32) (p2 : Int32) : entryFrame m #[(.int p1), (.int p2)] 2 = mkF m 0 #[.val (.int p1), .val (.int p2)] [] := by first | (simp [entryFrame, mkF, argsToLocals, Value.category]; done) | rfl
set_option maxRecDepth 65536 in
set_option maxHeartbeats 40000000 in
theorem rm3 (l : Launch) (Z : State) (a0 : Array Value) (hw : ∀ d ∈ tables_1, d.before a0 Z = true) (ws : List Jvm.Cond) (p1 : Int32) (p2 : Int32) (h0 : Heap) (n0 : Nat) :
    MetFree l (⟨"java/lang/Math", "max", "(II)I"⟩ : MethodName) (head1 (Jvm.Cond.code (⟨"java/lang/Math", "max", "(II)I"⟩ : MethodName) jdk_29_method_65_code 2 (some .int) :: ws) ({ frames := 0, cells := 0, slots := 0, locals := 0 } : Room)) (fun a U => a = #[(.int p1), (.int p2)] ∧ Z.Warmed39 U.vm ∧ U.heap = h0) (fun _ _ _ _ _ => True) (fun _ U o U' => ∃ v L, o = .returned v ∧ Q3 Z p1 p2 h0 n0 v U'.heap L ∧ FrameEnd U o U' L ({ frames := 0, cells := 0, slots := 0, locals := 0 } : Room).cells ({ frames := 0, cells := 0, slots := 0, locals := 0 } : Room).slots) := by
  refine MetFree.of_bodySF pf_2 hisR ?_
  intro p e s m args below meth c s₁ Bd hml0 hP hK
  obtain ⟨rfl, hZ, hh⟩ := hP
  have hx := Bd.exec
  have hby := Bd.bytes
  have hlk : meth.locks = false := BodyLoose.notSynchronized Bd
  have hml : c.maxLocals = 2 := hml0
  have hown : s.vm.findClass "java/lang/Math" = some m.cls := findClass_of_methodNamed Bd.named
  have hnm := (name_of_methodNamed Bd.named Bd.method).1
  have X0 : Stand p l e ({ frames := 0, cells := 0, slots := 0, locals := 0 } : Room) s m #[(.int p1), (.int p2)] below meth c s₁ [] 0 0 := Stand.of_body Bd
  have e0 : s₁.heap = h0 := by rw [← hh, Bd.state]; rfl
  have N0 := Fr.nil n0
  show Gl p e below s (Q3 Z p1 p2 h0 n0) ({ frames := 0, cells := 0, slots := 0, locals := 0 } : Room).cells ({ frames := 0, cells := 0, slots := 0, locals := 0 } : Room).slots (s₁.setTop (entryFrame m #[(.int p1), (.int p2)] 2))
  rw [ef_3]
  show Gl _ _ _ _ _ _ _ (s₁.setTop (mkF m 0 #[.val (.int p1), .val (.int p2)] []))
  refine Gl.st (fun t k => XS.iloadN X0.here hx rfl (hb hby d3_0) rfl  k) ?_
  show Gl _ _ _ _ _ _ _ (s₁.setTop (mkF m 1 #[.val (.int p1), .val (.int p2)] [(.int p1)]))
  refine Gl.st (fun t k => XS.iloadN X0.here hx rfl (hb hby d3_1) rfl  k) ?_
  show Gl _ _ _ _ _ _ _ (s₁.setTop (mkF m 2 #[.val (.int p1), .val (.int p2)] [(.int p2), (.int p1)]))
  by_cases hc2 : p1 < p2
  · refine Gl.st (fun t k => XS.icmpYes X0.here hx rfl (pc0 := 2) (pc' := 9) rfl (hb hby d3_2) rfl (tlt hc2).1 (by decide) (by decide) k) ?_
    show Gl _ _ _ _ _ _ _ (s₁.setTop (mkF m 9 #[.val (.int p1), .val (.int p2)] []))
    refine Gl.st (fun t k => XS.iloadN X0.here hx rfl (hb hby d3_9) rfl  k) ?_
    show Gl _ _ _ _ _ _ _ (s₁.setTop (mkF m 10 #[.val (.int p1), .val (.int p2)] [(.int p2)]))
    exact Gl.retI X0 hx hlk Bd.returns (hb hby d3_10) (⟨congrArg (fun z => some (Value.int z)) (show p2 = own_max p1 p2 from by simp only [own_max, if_pos hc2]), N0, e0⟩) (by decide) (by decide)
  · refine Gl.st (fun t k => XS.icmpNo X0.here hx rfl (hb hby d3_2) rfl (flt hc2).1 k) ?_
    show Gl _ _ _ _ _ _ _ (s₁.setTop (mkF m 5 #[.val (.int p1), .val (.int p2)] []))
    refine Gl.st (fun t k => XS.iloadN X0.here hx rfl (hb hby d3_5) rfl  k) ?_
    show Gl _ _ _ _ _ _ _ (s₁.setTop (mkF m 6 #[.val (.int p1), .val (.int p2)] [(.int p1)]))
    refine Gl.st (fun t k => XS.goto X0.here hx rfl (pc0 := 6) (pc' := 10) rfl (hb hby d3_6) (by decide) (by decide) k) ?_
    show Gl _ _ _ _ _ _ _ (s₁.setTop (mkF m 10 #[.val (.int p1), .val (.int p2)] [(.int p1)]))
    exact Gl.retI X0 hx hlk Bd.returns (hb hby d3_10) (⟨congrArg (fun z => some (Value.int z)) (show p1 = own_max p1 p2 from by simp only [own_max, if_neg hc2]), N0, e0⟩) (by decide) (by decide)
def own_ws (p1 : Int32) : Int32 := (if p1 = (32 : Int32) then (nar .boolean (1 : Int32)) else (if p1 = (9 : Int32) then (nar .boolean (1 : Int32)) else (if p1 = (13 : Int32) then (nar .boolean (1 : Int32)) else (if p1 = (10 : Int32) then (nar .boolean (1 : Int32)) else (nar .boolean (0 : Int32))))))
theorem d11_0 : decode method_3_code 0 = .ok (.iload_n 0, 1) := by decide +kernel
theorem d11_1 : decode method_3_code 1 = .ok (.bipush 32, 2) := by decide +kernel
theorem d11_3 : decode method_3_code 3 = .ok (.if_icmp .eq 21, 3) := by decide +kernel
theorem d11_6 : decode method_3_code 6 = .ok (.iload_n 0, 1) := by decide +kernel
theorem d11_7 : decode method_3_code 7 = .ok (.bipush 9, 2) := by decide +kernel
theorem d11_9 : decode method_3_code 9 = .ok (.if_icmp .eq 15, 3) := by decide +kernel
theorem d11_12 : decode method_3_code 12 = .ok (.iload_n 0, 1) := by decide +kernel
theorem d11_13 : decode method_3_code 13 = .ok (.bipush 13, 2) := by decide +kernel
theorem d11_15 : decode method_3_code 15 = .ok (.if_icmp .eq 9, 3) := by decide +kernel
theorem d11_18 : decode method_3_code 18 = .ok (.iload_n 0, 1) := by decide +kernel
theorem d11_19 : decode method_3_code 19 = .ok (.bipush 10, 2) := by decide +kernel
theorem d11_21 : decode method_3_code 21 = .ok (.if_icmp .ne 7, 3) := by decide +kernel
theorem d11_24 : decode method_3_code 24 = .ok (.iconst 1, 1) := by decide +kernel
theorem d11_25 : decode method_3_code 25 = .ok (.goto 4, 3) := by decide +kernel
theorem d11_28 : decode method_3_code 28 = .ok (.iconst 0, 1) := by decide +kernel
theorem d11_29 : decode method_3_code 29 = .ok (.ireturn, 1) := by decide +kernel
theorem pf_3 : plainFor (⟨"com/example/millrace/millrace/ParserSkipSpacePinLaw", "ws", "(B)Z"⟩ : MethodName) = true := by decide +kernel
def Q11 (Z : State) (p1 : Int32) (h0 : Heap) (n0 : Nat) (v : Option Value) (h : Heap) (L : List Loc) : Prop := v = some (.int (own_ws p1)) ∧ Fr n0 L ∧ h = h0
theorem ef_11 (m : MethodId) (p1 : Int32) : entryFrame m #[(.int p1)] 1 = mkF m 0 #[.val (.int p1)] [] := by first | (simp [entryFrame, mkF, argsToLocals, Value.category]; done) | rfl
set_option maxRecDepth 65536 in
set_option maxHeartbeats 40000000 in
theorem rm11 (l : Launch) (Z : State) (a0 : Array Value) (hw : ∀ d ∈ tables_1, d.before a0 Z = true) (ws : List Jvm.Cond) (p1 : Int32) (h0 : Heap) (n0 : Nat) :
    MetFree l (⟨"com/example/millrace/millrace/ParserSkipSpacePinLaw", "ws", "(B)Z"⟩ : MethodName) (head1 (Jvm.Cond.code (⟨"com/example/millrace/millrace/ParserSkipSpacePinLaw", "ws", "(B)Z"⟩ : MethodName) method_3_code 1 (some .boolean) :: ws) ({ frames := 0, cells := 0, slots := 0, locals := 0 } : Room)) (fun a U => a = #[(.int p1)] ∧ Z.Warmed39 U.vm ∧ U.heap = h0) (fun _ _ _ _ _ => True) (fun _ U o U' => ∃ v L, o = .returned v ∧ Q11 Z p1 h0 n0 v U'.heap L ∧ FrameEnd U o U' L ({ frames := 0, cells := 0, slots := 0, locals := 0 } : Room).cells ({ frames := 0, cells := 0, slots := 0, locals := 0 } : Room).slots) := by
  refine MetFree.of_bodySF pf_3 hisR ?_
  intro p e s m args below meth c s₁ Bd hml0 hP hK
  obtain ⟨rfl, hZ, hh⟩ := hP
  have hx := Bd.exec
  have hby := Bd.bytes
  have hlk : meth.locks = false := BodyLoose.notSynchronized Bd
  have hml : c.maxLocals = 1 := hml0
  have hown : s.vm.findClass "com/example/millrace/millrace/ParserSkipSpacePinLaw" = some m.cls := findClass_of_methodNamed Bd.named
  have hnm := (name_of_methodNamed Bd.named Bd.method).1
  have X0 : Stand p l e ({ frames := 0, cells := 0, slots := 0, locals := 0 } : Room) s m #[(.int p1)] below meth c s₁ [] 0 0 := Stand.of_body Bd
  have e0 : s₁.heap = h0 := by rw [← hh, Bd.state]; rfl
  have N0 := Fr.nil n0
  show Gl p e below s (Q11 Z p1 h0 n0) ({ frames := 0, cells := 0, slots := 0, locals := 0 } : Room).cells ({ frames := 0, cells := 0, slots := 0, locals := 0 } : Room).slots (s₁.setTop (entryFrame m #[(.int p1)] 1))
  rw [ef_11]
  show Gl _ _ _ _ _ _ _ (s₁.setTop (mkF m 0 #[.val (.int p1)] []))
  refine Gl.st (fun t k => XS.iloadN X0.here hx rfl (hb hby d11_0) rfl  k) ?_
  show Gl _ _ _ _ _ _ _ (s₁.setTop (mkF m 1 #[.val (.int p1)] [(.int p1)]))
  refine Gl.st (fun t k => XS.bipush X0.here hx rfl (hb hby d11_1) k) ?_
  show Gl _ _ _ _ _ _ _ (s₁.setTop (mkF m 3 #[.val (.int p1)] [(.int (32 : Int32)), (.int p1)]))
  by_cases hc3 : p1 = (32 : Int32)
  · refine Gl.st (fun t k => XS.icmpYes X0.here hx rfl (pc0 := 3) (pc' := 24) rfl (hb hby d11_3) rfl (teq hc3).1 (by decide) (by decide) k) ?_
    show Gl _ _ _ _ _ _ _ (s₁.setTop (mkF m 24 #[.val (.int p1)] []))
    refine Gl.st (fun t k => XS.iconst X0.here hx rfl (hb hby d11_24) k) ?_
    show Gl _ _ _ _ _ _ _ (s₁.setTop (mkF m 25 #[.val (.int p1)] [(.int (1 : Int32))]))
    refine Gl.st (fun t k => XS.goto X0.here hx rfl (pc0 := 25) (pc' := 29) rfl (hb hby d11_25) (by decide) (by decide) k) ?_
    show Gl _ _ _ _ _ _ _ (s₁.setTop (mkF m 29 #[.val (.int p1)] [(.int (1 : Int32))]))
    exact Gl.retN X0 hx hlk Bd.returns (by simp) (hb hby d11_29) (⟨congrArg (fun z => some (Value.int z)) (show (nar .boolean (1 : Int32)) = own_ws p1 from by simp only [own_ws, if_pos hc3]), N0, e0⟩) (by decide) (by decide)
  · refine Gl.st (fun t k => XS.icmpNo X0.here hx rfl (hb hby d11_3) rfl (feq hc3).1 k) ?_
    show Gl _ _ _ _ _ _ _ (s₁.setTop (mkF m 6 #[.val (.int p1)] []))
    refine Gl.st (fun t k => XS.iloadN X0.here hx rfl (hb hby d11_6) rfl  k) ?_
    show Gl _ _ _ _ _ _ _ (s₁.setTop (mkF m 7 #[.val (.int p1)] [(.int p1)]))
    refine Gl.st (fun t k => XS.bipush X0.here hx rfl (hb hby d11_7) k) ?_
    show Gl _ _ _ _ _ _ _ (s₁.setTop (mkF m 9 #[.val (.int p1)] [(.int (9 : Int32)), (.int p1)]))
    by_cases hc9 : p1 = (9 : Int32)
    · refine Gl.st (fun t k => XS.icmpYes X0.here hx rfl (pc0 := 9) (pc' := 24) rfl (hb hby d11_9) rfl (teq hc9).1 (by decide) (by decide) k) ?_
      show Gl _ _ _ _ _ _ _ (s₁.setTop (mkF m 24 #[.val (.int p1)] []))
      refine Gl.st (fun t k => XS.iconst X0.here hx rfl (hb hby d11_24) k) ?_
      show Gl _ _ _ _ _ _ _ (s₁.setTop (mkF m 25 #[.val (.int p1)] [(.int (1 : Int32))]))
      refine Gl.st (fun t k => XS.goto X0.here hx rfl (pc0 := 25) (pc' := 29) rfl (hb hby d11_25) (by decide) (by decide) k) ?_
      show Gl _ _ _ _ _ _ _ (s₁.setTop (mkF m 29 #[.val (.int p1)] [(.int (1 : Int32))]))
      exact Gl.retN X0 hx hlk Bd.returns (by simp) (hb hby d11_29) (⟨congrArg (fun z => some (Value.int z)) (show (nar .boolean (1 : Int32)) = own_ws p1 from by simp only [own_ws, if_neg hc3, if_pos hc9]), N0, e0⟩) (by decide) (by decide)
    · refine Gl.st (fun t k => XS.icmpNo X0.here hx rfl (hb hby d11_9) rfl (feq hc9).1 k) ?_
      show Gl _ _ _ _ _ _ _ (s₁.setTop (mkF m 12 #[.val (.int p1)] []))
      refine Gl.st (fun t k => XS.iloadN X0.here hx rfl (hb hby d11_12) rfl  k) ?_
      show Gl _ _ _ _ _ _ _ (s₁.setTop (mkF m 13 #[.val (.int p1)] [(.int p1)]))
      refine Gl.st (fun t k => XS.bipush X0.here hx rfl (hb hby d11_13) k) ?_
      show Gl _ _ _ _ _ _ _ (s₁.setTop (mkF m 15 #[.val (.int p1)] [(.int (13 : Int32)), (.int p1)]))
      by_cases hc15 : p1 = (13 : Int32)
      · refine Gl.st (fun t k => XS.icmpYes X0.here hx rfl (pc0 := 15) (pc' := 24) rfl (hb hby d11_15) rfl (teq hc15).1 (by decide) (by decide) k) ?_
        show Gl _ _ _ _ _ _ _ (s₁.setTop (mkF m 24 #[.val (.int p1)] []))
        refine Gl.st (fun t k => XS.iconst X0.here hx rfl (hb hby d11_24) k) ?_
        show Gl _ _ _ _ _ _ _ (s₁.setTop (mkF m 25 #[.val (.int p1)] [(.int (1 : Int32))]))
        refine Gl.st (fun t k => XS.goto X0.here hx rfl (pc0 := 25) (pc' := 29) rfl (hb hby d11_25) (by decide) (by decide) k) ?_
        show Gl _ _ _ _ _ _ _ (s₁.setTop (mkF m 29 #[.val (.int p1)] [(.int (1 : Int32))]))
        exact Gl.retN X0 hx hlk Bd.returns (by simp) (hb hby d11_29) (⟨congrArg (fun z => some (Value.int z)) (show (nar .boolean (1 : Int32)) = own_ws p1 from by simp only [own_ws, if_neg hc3, if_neg hc9, if_pos hc15]), N0, e0⟩) (by decide) (by decide)
      · refine Gl.st (fun t k => XS.icmpNo X0.here hx rfl (hb hby d11_15) rfl (feq hc15).1 k) ?_
        show Gl _ _ _ _ _ _ _ (s₁.setTop (mkF m 18 #[.val (.int p1)] []))
        refine Gl.st (fun t k => XS.iloadN X0.here hx rfl (hb hby d11_18) rfl  k) ?_
        show Gl _ _ _ _ _ _ _ (s₁.setTop (mkF m 19 #[.val (.int p1)] [(.int p1)]))
        refine Gl.st (fun t k => XS.bipush X0.here hx rfl (hb hby d11_19) k) ?_
        show Gl _ _ _ _ _ _ _ (s₁.setTop (mkF m 21 #[.val (.int p1)] [(.int (10 : Int32)), (.int p1)]))
        by_cases hc21 : p1 = (10 : Int32)
        · refine Gl.st (fun t k => XS.icmpNo X0.here hx rfl (hb hby d11_21) rfl (teq hc21).2 k) ?_
          show Gl _ _ _ _ _ _ _ (s₁.setTop (mkF m 24 #[.val (.int p1)] []))
          refine Gl.st (fun t k => XS.iconst X0.here hx rfl (hb hby d11_24) k) ?_
          show Gl _ _ _ _ _ _ _ (s₁.setTop (mkF m 25 #[.val (.int p1)] [(.int (1 : Int32))]))
          refine Gl.st (fun t k => XS.goto X0.here hx rfl (pc0 := 25) (pc' := 29) rfl (hb hby d11_25) (by decide) (by decide) k) ?_
          show Gl _ _ _ _ _ _ _ (s₁.setTop (mkF m 29 #[.val (.int p1)] [(.int (1 : Int32))]))
          exact Gl.retN X0 hx hlk Bd.returns (by simp) (hb hby d11_29) (⟨congrArg (fun z => some (Value.int z)) (show (nar .boolean (1 : Int32)) = own_ws p1 from by simp only [own_ws, if_neg hc3, if_neg hc9, if_neg hc15, if_pos hc21]), N0, e0⟩) (by decide) (by decide)
        · refine Gl.st (fun t k => XS.icmpYes X0.here hx rfl (pc0 := 21) (pc' := 28) rfl (hb hby d11_21) rfl (feq hc21).2 (by decide) (by decide) k) ?_
          show Gl _ _ _ _ _ _ _ (s₁.setTop (mkF m 28 #[.val (.int p1)] []))
          refine Gl.st (fun t k => XS.iconst X0.here hx rfl (hb hby d11_28) k) ?_
          show Gl _ _ _ _ _ _ _ (s₁.setTop (mkF m 29 #[.val (.int p1)] [(.int (0 : Int32))]))
          exact Gl.retN X0 hx hlk Bd.returns (by simp) (hb hby d11_29) (⟨congrArg (fun z => some (Value.int z)) (show (nar .boolean (0 : Int32)) = own_ws p1 from by simp only [own_ws, if_neg hc3, if_neg hc9, if_neg hc15, if_neg hc21]), N0, e0⟩) (by decide) (by decide)
def own_brk (p1 : Int32) : Int32 := (if p1 = (13 : Int32) then (nar .boolean (1 : Int32)) else (if p1 = (10 : Int32) then (nar .boolean (1 : Int32)) else (nar .boolean (0 : Int32))))
theorem d12_0 : decode method_4_code 0 = .ok (.iload_n 0, 1) := by decide +kernel
theorem d12_1 : decode method_4_code 1 = .ok (.bipush 13, 2) := by decide +kernel
theorem d12_3 : decode method_4_code 3 = .ok (.if_icmp .eq 9, 3) := by decide +kernel
theorem d12_6 : decode method_4_code 6 = .ok (.iload_n 0, 1) := by decide +kernel
theorem d12_7 : decode method_4_code 7 = .ok (.bipush 10, 2) := by decide +kernel
theorem d12_9 : decode method_4_code 9 = .ok (.if_icmp .ne 7, 3) := by decide +kernel
theorem d12_12 : decode method_4_code 12 = .ok (.iconst 1, 1) := by decide +kernel
theorem d12_13 : decode method_4_code 13 = .ok (.goto 4, 3) := by decide +kernel
theorem d12_16 : decode method_4_code 16 = .ok (.iconst 0, 1) := by decide +kernel
theorem d12_17 : decode method_4_code 17 = .ok (.ireturn, 1) := by decide +kernel
theorem pf_4 : plainFor (⟨"com/example/millrace/millrace/ParserSkipSpacePinLaw", "brk", "(B)Z"⟩ : MethodName) = true := by decide +kernel
def Q12 (Z : State) (p1 : Int32) (h0 : Heap) (n0 : Nat) (v : Option Value) (h : Heap) (L : List Loc) : Prop := v = some (.int (own_brk p1)) ∧ Fr n0 L ∧ h = h0
theorem ef_12 (m : MethodId) (p1 : Int32) : entryFrame m #[(.int p1)] 1 = mkF m 0 #[.val (.int p1)] [] := by first | (simp [entryFrame, mkF, argsToLocals, Value.category]; done) | rfl
set_option maxRecDepth 65536 in
set_option maxHeartbeats 40000000 in
theorem rm12 (l : Launch) (Z : State) (a0 : Array Value) (hw : ∀ d ∈ tables_1, d.before a0 Z = true) (ws : List Jvm.Cond) (p1 : Int32) (h0 : Heap) (n0 : Nat) :
    MetFree l (⟨"com/example/millrace/millrace/ParserSkipSpacePinLaw", "brk", "(B)Z"⟩ : MethodName) (head1 (Jvm.Cond.code (⟨"com/example/millrace/millrace/ParserSkipSpacePinLaw", "brk", "(B)Z"⟩ : MethodName) method_4_code 1 (some .boolean) :: ws) ({ frames := 0, cells := 0, slots := 0, locals := 0 } : Room)) (fun a U => a = #[(.int p1)] ∧ Z.Warmed39 U.vm ∧ U.heap = h0) (fun _ _ _ _ _ => True) (fun _ U o U' => ∃ v L, o = .returned v ∧ Q12 Z p1 h0 n0 v U'.heap L ∧ FrameEnd U o U' L ({ frames := 0, cells := 0, slots := 0, locals := 0 } : Room).cells ({ frames := 0, cells := 0, slots := 0, locals := 0 } : Room).slots) := by
  refine MetFree.of_bodySF pf_4 hisR ?_
  intro p e s m args below meth c s₁ Bd hml0 hP hK
  obtain ⟨rfl, hZ, hh⟩ := hP
  have hx := Bd.exec
  have hby := Bd.bytes
  have hlk : meth.locks = false := BodyLoose.notSynchronized Bd
  have hml : c.maxLocals = 1 := hml0
  have hown : s.vm.findClass "com/example/millrace/millrace/ParserSkipSpacePinLaw" = some m.cls := findClass_of_methodNamed Bd.named
  have hnm := (name_of_methodNamed Bd.named Bd.method).1
  have X0 : Stand p l e ({ frames := 0, cells := 0, slots := 0, locals := 0 } : Room) s m #[(.int p1)] below meth c s₁ [] 0 0 := Stand.of_body Bd
  have e0 : s₁.heap = h0 := by rw [← hh, Bd.state]; rfl
  have N0 := Fr.nil n0
  show Gl p e below s (Q12 Z p1 h0 n0) ({ frames := 0, cells := 0, slots := 0, locals := 0 } : Room).cells ({ frames := 0, cells := 0, slots := 0, locals := 0 } : Room).slots (s₁.setTop (entryFrame m #[(.int p1)] 1))
  rw [ef_12]
  show Gl _ _ _ _ _ _ _ (s₁.setTop (mkF m 0 #[.val (.int p1)] []))
  refine Gl.st (fun t k => XS.iloadN X0.here hx rfl (hb hby d12_0) rfl  k) ?_
  show Gl _ _ _ _ _ _ _ (s₁.setTop (mkF m 1 #[.val (.int p1)] [(.int p1)]))
  refine Gl.st (fun t k => XS.bipush X0.here hx rfl (hb hby d12_1) k) ?_
  show Gl _ _ _ _ _ _ _ (s₁.setTop (mkF m 3 #[.val (.int p1)] [(.int (13 : Int32)), (.int p1)]))
  by_cases hc3 : p1 = (13 : Int32)
  · refine Gl.st (fun t k => XS.icmpYes X0.here hx rfl (pc0 := 3) (pc' := 12) rfl (hb hby d12_3) rfl (teq hc3).1 (by decide) (by decide) k) ?_
    show Gl _ _ _ _ _ _ _ (s₁.setTop (mkF m 12 #[.val (.int p1)] []))
    refine Gl.st (fun t k => XS.iconst X0.here hx rfl (hb hby d12_12) k) ?_
    show Gl _ _ _ _ _ _ _ (s₁.setTop (mkF m 13 #[.val (.int p1)] [(.int (1 : Int32))]))
    refine Gl.st (fun t k => XS.goto X0.here hx rfl (pc0 := 13) (pc' := 17) rfl (hb hby d12_13) (by decide) (by decide) k) ?_
    show Gl _ _ _ _ _ _ _ (s₁.setTop (mkF m 17 #[.val (.int p1)] [(.int (1 : Int32))]))
    exact Gl.retN X0 hx hlk Bd.returns (by simp) (hb hby d12_17) (⟨congrArg (fun z => some (Value.int z)) (show (nar .boolean (1 : Int32)) = own_brk p1 from by simp only [own_brk, if_pos hc3]), N0, e0⟩) (by decide) (by decide)
  · refine Gl.st (fun t k => XS.icmpNo X0.here hx rfl (hb hby d12_3) rfl (feq hc3).1 k) ?_
    show Gl _ _ _ _ _ _ _ (s₁.setTop (mkF m 6 #[.val (.int p1)] []))
    refine Gl.st (fun t k => XS.iloadN X0.here hx rfl (hb hby d12_6) rfl  k) ?_
    show Gl _ _ _ _ _ _ _ (s₁.setTop (mkF m 7 #[.val (.int p1)] [(.int p1)]))
    refine Gl.st (fun t k => XS.bipush X0.here hx rfl (hb hby d12_7) k) ?_
    show Gl _ _ _ _ _ _ _ (s₁.setTop (mkF m 9 #[.val (.int p1)] [(.int (10 : Int32)), (.int p1)]))
    by_cases hc9 : p1 = (10 : Int32)
    · refine Gl.st (fun t k => XS.icmpNo X0.here hx rfl (hb hby d12_9) rfl (teq hc9).2 k) ?_
      show Gl _ _ _ _ _ _ _ (s₁.setTop (mkF m 12 #[.val (.int p1)] []))
      refine Gl.st (fun t k => XS.iconst X0.here hx rfl (hb hby d12_12) k) ?_
      show Gl _ _ _ _ _ _ _ (s₁.setTop (mkF m 13 #[.val (.int p1)] [(.int (1 : Int32))]))
      refine Gl.st (fun t k => XS.goto X0.here hx rfl (pc0 := 13) (pc' := 17) rfl (hb hby d12_13) (by decide) (by decide) k) ?_
      show Gl _ _ _ _ _ _ _ (s₁.setTop (mkF m 17 #[.val (.int p1)] [(.int (1 : Int32))]))
      exact Gl.retN X0 hx hlk Bd.returns (by simp) (hb hby d12_17) (⟨congrArg (fun z => some (Value.int z)) (show (nar .boolean (1 : Int32)) = own_brk p1 from by simp only [own_brk, if_neg hc3, if_pos hc9]), N0, e0⟩) (by decide) (by decide)
    · refine Gl.st (fun t k => XS.icmpYes X0.here hx rfl (pc0 := 9) (pc' := 16) rfl (hb hby d12_9) rfl (feq hc9).2 (by decide) (by decide) k) ?_
      show Gl _ _ _ _ _ _ _ (s₁.setTop (mkF m 16 #[.val (.int p1)] []))
      refine Gl.st (fun t k => XS.iconst X0.here hx rfl (hb hby d12_16) k) ?_
      show Gl _ _ _ _ _ _ _ (s₁.setTop (mkF m 17 #[.val (.int p1)] [(.int (0 : Int32))]))
      exact Gl.retN X0 hx hlk Bd.returns (by simp) (hb hby d12_17) (⟨congrArg (fun z => some (Value.int z)) (show (nar .boolean (0 : Int32)) = own_brk p1 from by simp only [own_brk, if_neg hc3, if_neg hc9]), N0, e0⟩) (by decide) (by decide)
theorem pd_0 : parseMethodDescriptor "(B)Z" = some ⟨[.byte], some .boolean⟩ := by decide +kernel
def own_stop3 (p3 : Int32) (p4 : Int32) (p5 : Int32) (w0 : Int32) (w1 : Int32) (w2 : Int32) (w3 : Int32) : Int32 := (if (3 : Int32) < p3 then p5 else (if (3 : Int32) < p4 then (if (own_ws w3) = (0 : Int32) then (3 : Int32) else p5) else p5))
theorem d4_0 : decode method_5_code 0 = .ok (.iload_n 1, 1) := by decide +kernel
theorem d4_1 : decode method_5_code 1 = .ok (.iload_n 2, 1) := by decide +kernel
theorem d4_2 : decode method_5_code 2 = .ok (.if_icmp .lt 21, 3) := by decide +kernel
theorem d4_5 : decode method_5_code 5 = .ok (.iload_n 1, 1) := by decide +kernel
theorem d4_6 : decode method_5_code 6 = .ok (.iload_n 3, 1) := by decide +kernel
theorem d4_7 : decode method_5_code 7 = .ok (.if_icmp .ge 16, 3) := by decide +kernel
theorem d4_10 : decode method_5_code 10 = .ok (.aload_n 0, 1) := by decide +kernel
theorem d4_11 : decode method_5_code 11 = .ok (.iload_n 1, 1) := by decide +kernel
theorem d4_12 : decode method_5_code 12 = .ok (.baload, 1) := by decide +kernel
theorem d4_13 : decode method_5_code 13 = .ok (.invokestatic 7, 3) := by decide +kernel
theorem d4_16 : decode method_5_code 16 = .ok (.ifCond .ne 7, 3) := by decide +kernel
theorem d4_19 : decode method_5_code 19 = .ok (.iload_n 1, 1) := by decide +kernel
theorem d4_20 : decode method_5_code 20 = .ok (.goto 5, 3) := by decide +kernel
theorem d4_23 : decode method_5_code 23 = .ok (.iload 4, 2) := by decide +kernel
theorem d4_25 : decode method_5_code 25 = .ok (.ireturn, 1) := by decide +kernel
theorem pf_5 : plainFor (⟨"com/example/millrace/millrace/ParserSkipSpacePinLaw", "stopAt", "([BIIII)I"⟩ : MethodName) = true := by decide +kernel
def Q4v3 (Z : State) (a1 : Addr) (p3 : Int32) (p4 : Int32) (p5 : Int32) (ck : ClassId) (w0 : Int32) (w1 : Int32) (w2 : Int32) (w3 : Int32) (h0 : Heap) (n0 : Nat) (v : Option Value) (h : Heap) (L : List Loc) : Prop := v = some (.int (own_stop3 p3 p4 p5 w0 w1 w2 w3)) ∧ Fr n0 L ∧ h = h0
theorem ef_4v3 (m : MethodId) (a1 : Addr) (p3 : Int32) (p4 : Int32) (p5 : Int32) : entryFrame m #[(.ref a1), (.int (3 : Int32)), (.int p3), (.int p4), (.int p5)] 5 = mkF m 0 #[.val (.ref a1), .val (.int (3 : Int32)), .val (.int p3), .val (.int p4), .val (.int p5)] [] := by first | (simp [entryFrame, mkF, argsToLocals, Value.category]; done) | rfl
set_option maxRecDepth 65536 in
set_option maxHeartbeats 40000000 in
theorem rm4v3 (l : Launch) (Z : State) (a0 : Array Value) (hw : ∀ d ∈ tables_1, d.before a0 Z = true) (ws : List Jvm.Cond) (a1 : Addr) (p3 : Int32) (p4 : Int32) (p5 : Int32) (ck : ClassId) (w0 : Int32) (w1 : Int32) (w2 : Int32) (w3 : Int32) (h0 : Heap) (n0 : Nat) (Va : Arv Z h0 a1 ck .byte (4 : Int32) [(.int w0), (.int w1), (.int w2), (.int w3)] (.int (0 : Int32))) :
    MetFree l (⟨"com/example/millrace/millrace/ParserSkipSpacePinLaw", "stopAt", "([BIIII)I"⟩ : MethodName) (head1 (Jvm.Cond.code (⟨"com/example/millrace/millrace/ParserSkipSpacePinLaw", "stopAt", "([BIIII)I"⟩ : MethodName) method_5_code 5 (some .int) :: ws) ({ frames := 1, cells := 0, slots := 0, locals := 12 } : Room)) (fun a U => a = #[(.ref a1), (.int (3 : Int32)), (.int p3), (.int p4), (.int p5)] ∧ Z.Warmed39 U.vm ∧ U.heap = h0) (fun _ _ _ _ _ => True) (fun _ U o U' => ∃ v L, o = .returned v ∧ Q4v3 Z a1 p3 p4 p5 ck w0 w1 w2 w3 h0 n0 v U'.heap L ∧ FrameEnd U o U' L ({ frames := 1, cells := 0, slots := 0, locals := 12 } : Room).cells ({ frames := 1, cells := 0, slots := 0, locals := 12 } : Room).slots) := by
  refine MetFree.of_bodySF pf_5 hisR ?_
  intro p e s m args below meth c s₁ Bd hml0 hP hK
  obtain ⟨rfl, hZ, hh⟩ := hP
  have hx := Bd.exec
  have hby := Bd.bytes
  have hlk : meth.locks = false := BodyLoose.notSynchronized Bd
  have hml : c.maxLocals = 5 := hml0
  have hown : s.vm.findClass "com/example/millrace/millrace/ParserSkipSpacePinLaw" = some m.cls := findClass_of_methodNamed Bd.named
  have hnm := (name_of_methodNamed Bd.named Bd.method).1
  have X0 : Stand p l e ({ frames := 1, cells := 0, slots := 0, locals := 12 } : Room) s m #[(.ref a1), (.int (3 : Int32)), (.int p3), (.int p4), (.int p5)] below meth c s₁ [] 0 0 := Stand.of_body Bd
  have e0 : s₁.heap = h0 := by rw [← hh, Bd.state]; rfl
  have N0 := Fr.nil n0
  show Gl p e below s (Q4v3 Z a1 p3 p4 p5 ck w0 w1 w2 w3 h0 n0) ({ frames := 1, cells := 0, slots := 0, locals := 12 } : Room).cells ({ frames := 1, cells := 0, slots := 0, locals := 12 } : Room).slots (s₁.setTop (entryFrame m #[(.ref a1), (.int (3 : Int32)), (.int p3), (.int p4), (.int p5)] 5))
  rw [ef_4v3]
  show Gl _ _ _ _ _ _ _ (s₁.setTop (mkF m 0 #[.val (.ref a1), .val (.int (3 : Int32)), .val (.int p3), .val (.int p4), .val (.int p5)] []))
  refine Gl.st (fun t k => XS.iloadN X0.here hx rfl (hb hby d4_0) rfl  k) ?_
  show Gl _ _ _ _ _ _ _ (s₁.setTop (mkF m 1 #[.val (.ref a1), .val (.int (3 : Int32)), .val (.int p3), .val (.int p4), .val (.int p5)] [(.int (3 : Int32))]))
  refine Gl.st (fun t k => XS.iloadN X0.here hx rfl (hb hby d4_1) rfl  k) ?_
  show Gl _ _ _ _ _ _ _ (s₁.setTop (mkF m 2 #[.val (.ref a1), .val (.int (3 : Int32)), .val (.int p3), .val (.int p4), .val (.int p5)] [(.int p3), (.int (3 : Int32))]))
  by_cases hc2 : (3 : Int32) < p3
  · refine Gl.st (fun t k => XS.icmpYes X0.here hx rfl (pc0 := 2) (pc' := 23) rfl (hb hby d4_2) rfl (tlt hc2).1 (by decide) (by decide) k) ?_
    show Gl _ _ _ _ _ _ _ (s₁.setTop (mkF m 23 #[.val (.ref a1), .val (.int (3 : Int32)), .val (.int p3), .val (.int p4), .val (.int p5)] []))
    refine Gl.st (fun t k => XS.iload X0.here hx rfl (hb hby d4_23) rfl  k) ?_
    show Gl _ _ _ _ _ _ _ (s₁.setTop (mkF m 25 #[.val (.ref a1), .val (.int (3 : Int32)), .val (.int p3), .val (.int p4), .val (.int p5)] [(.int p5)]))
    exact Gl.retI X0 hx hlk Bd.returns (hb hby d4_25) (⟨congrArg (fun z => some (Value.int z)) (show p5 = (own_stop3 p3 p4 p5 w0 w1 w2 w3) from by simp only [own_stop3, if_pos hc2]), N0, e0⟩) (by decide) (by decide)
  · refine Gl.st (fun t k => XS.icmpNo X0.here hx rfl (hb hby d4_2) rfl (flt hc2).1 k) ?_
    show Gl _ _ _ _ _ _ _ (s₁.setTop (mkF m 5 #[.val (.ref a1), .val (.int (3 : Int32)), .val (.int p3), .val (.int p4), .val (.int p5)] []))
    refine Gl.st (fun t k => XS.iloadN X0.here hx rfl (hb hby d4_5) rfl  k) ?_
    show Gl _ _ _ _ _ _ _ (s₁.setTop (mkF m 6 #[.val (.ref a1), .val (.int (3 : Int32)), .val (.int p3), .val (.int p4), .val (.int p5)] [(.int (3 : Int32))]))
    refine Gl.st (fun t k => XS.iloadN X0.here hx rfl (hb hby d4_6) rfl  k) ?_
    show Gl _ _ _ _ _ _ _ (s₁.setTop (mkF m 7 #[.val (.ref a1), .val (.int (3 : Int32)), .val (.int p3), .val (.int p4), .val (.int p5)] [(.int p4), (.int (3 : Int32))]))
    by_cases hc7 : (3 : Int32) < p4
    · refine Gl.st (fun t k => XS.icmpNo X0.here hx rfl (hb hby d4_7) rfl (tlt hc7).2.1 k) ?_
      show Gl _ _ _ _ _ _ _ (s₁.setTop (mkF m 10 #[.val (.ref a1), .val (.int (3 : Int32)), .val (.int p3), .val (.int p4), .val (.int p5)] []))
      refine Gl.st (fun t k => XS.aloadN X0.here hx rfl (hb hby d4_10) rfl rfl k) ?_
      show Gl _ _ _ _ _ _ _ (s₁.setTop (mkF m 11 #[.val (.ref a1), .val (.int (3 : Int32)), .val (.int p3), .val (.int p4), .val (.int p5)] [(.ref a1)]))
      refine Gl.st (fun t k => XS.iloadN X0.here hx rfl (hb hby d4_11) rfl  k) ?_
      show Gl _ _ _ _ _ _ _ (s₁.setTop (mkF m 12 #[.val (.ref a1), .val (.int (3 : Int32)), .val (.int p3), .val (.int p4), .val (.int p5)] [(.int (3 : Int32)), (.ref a1)]))
      have Vx1 := Va
      obtain ⟨cl1, Ar1, qk1, S1, M1, H1, G1⟩ := Vx1
      have hin1 : ¬ ((3 : Int32) < 0 ∨ cl1.slots.size ≤ ((3 : Int32)).toNatClampNeg) := inb_of S1 ⟨by decide, by decide⟩
      have hat1 : cl1.slots[((3 : Int32)).toNatClampNeg]? = some (.int w3) := H1.at hin1 rfl
      refine Gl.st (X0.baloadBytes hx (j := (3 : Int32)) (v := (.int w3)) (by rw [e0]; exact Ar1.1) (State.isArrayOf_alike hZ.alike Ar1.2.1) Ar1.2.2 hin1 hat1 (g := (mkF m 12 #[.val (.ref a1), .val (.int (3 : Int32)), .val (.int p3), .val (.int p4), .val (.int p5)] [(.int (3 : Int32)), (.ref a1)])) rfl rfl (hb hby d4_12)) ?_
      show Gl _ _ _ _ _ _ _ (s₁.setTop (mkF m 13 #[.val (.ref a1), .val (.int (3 : Int32)), .val (.int p3), .val (.int p4), .val (.int p5)] [(.int w3)]))
      obtain ⟨_, _, ⟨T2, L2, k2, n2⟩, -, X2, ⟨Lc2, hQ2, l2, y2, z2⟩, st2⟩ := Jvm.LawKit.callS X0 hx (y := (⟨"com/example/millrace/millrace/ParserSkipSpacePinLaw", "ws", "(B)Z"⟩ : MethodName)) hown (mvT hZ (hw _ (List.mem_of_getElem? (i := 52) rfl))) (mvT hZ (hw _ (List.mem_of_getElem? (i := 53) rfl))) (mvT hZ (hw _ (List.mem_of_getElem? (i := 3) rfl))) (mvT hZ (hw _ (List.mem_of_getElem? (i := 54) rfl))) (by decide) (backOf (W := 0) (rm11 l Z a0 hw [] w3 h0 n0) hZ (hw _ (List.mem_of_getElem? (i := 54) rfl)) (hw _ (List.mem_of_getElem? (i := 3) rfl)) (by decide) (by decide)) (g := (mkF m 13 #[.val (.ref a1), .val (.int (3 : Int32)), .val (.int p3), .val (.int p4), .val (.int p5)] [(.int w3)])) rfl (by rw [hml]; rfl) (argsL := [(.int w3)]) (rest := []) (lenOf pd_0 rfl) rfl (by show 2 * 0 + _ ≤ _; exact Nat.le_of_eq rfl) (hb hby d4_13) (fun _ _ => ⟨rfl, e0, (by decide : 0 + 0 ≤ _), (by decide : 0 + 0 ≤ _)⟩)
      dsimp only [Pt.U, Pt.locs, Pt.cells, Pt.slots] at X2 l2 y2 z2 st2 hQ2
      rw [y2, z2] at X2
      obtain ⟨rfl, N2q, e2⟩ := hQ2
      have N2 : Fr n0 L2 := by rw [l2]; exact Fr.app N0 N2q
      refine Gl.st st2 ?_
      show Gl _ _ _ _ _ _ _ (T2.setTop (mkF m 16 #[.val (.ref a1), .val (.int (3 : Int32)), .val (.int p3), .val (.int p4), .val (.int p5)] [(.int (own_ws w3))]))
      by_cases hc16 : (own_ws w3) = (0 : Int32)
      · refine Gl.st (fun t k => XS.ifNo X2.here hx rfl (hb hby d4_16) rfl ((if0 _ _).trans (teq hc16).2) k) ?_
        show Gl _ _ _ _ _ _ _ (T2.setTop (mkF m 19 #[.val (.ref a1), .val (.int (3 : Int32)), .val (.int p3), .val (.int p4), .val (.int p5)] []))
        refine Gl.st (fun t k => XS.iloadN X2.here hx rfl (hb hby d4_19) rfl  k) ?_
        show Gl _ _ _ _ _ _ _ (T2.setTop (mkF m 20 #[.val (.ref a1), .val (.int (3 : Int32)), .val (.int p3), .val (.int p4), .val (.int p5)] [(.int (3 : Int32))]))
        refine Gl.st (fun t k => XS.goto X2.here hx rfl (pc0 := 20) (pc' := 25) rfl (hb hby d4_20) (by decide) (by decide) k) ?_
        show Gl _ _ _ _ _ _ _ (T2.setTop (mkF m 25 #[.val (.ref a1), .val (.int (3 : Int32)), .val (.int p3), .val (.int p4), .val (.int p5)] [(.int (3 : Int32))]))
        exact Gl.retI X2 hx hlk Bd.returns (hb hby d4_25) (⟨congrArg (fun z => some (Value.int z)) (show (3 : Int32) = (own_stop3 p3 p4 p5 w0 w1 w2 w3) from by simp only [own_stop3, if_neg hc2, if_pos hc7, if_pos hc16]), N2, e2⟩) (by decide) (by decide)
      · refine Gl.st (fun t k => XS.ifYes X2.here hx rfl (pc0 := 16) (pc' := 23) rfl (hb hby d4_16) rfl ((if0 _ _).trans (feq hc16).2) (by decide) (by decide) k) ?_
        show Gl _ _ _ _ _ _ _ (T2.setTop (mkF m 23 #[.val (.ref a1), .val (.int (3 : Int32)), .val (.int p3), .val (.int p4), .val (.int p5)] []))
        refine Gl.st (fun t k => XS.iload X2.here hx rfl (hb hby d4_23) rfl  k) ?_
        show Gl _ _ _ _ _ _ _ (T2.setTop (mkF m 25 #[.val (.ref a1), .val (.int (3 : Int32)), .val (.int p3), .val (.int p4), .val (.int p5)] [(.int p5)]))
        exact Gl.retI X2 hx hlk Bd.returns (hb hby d4_25) (⟨congrArg (fun z => some (Value.int z)) (show p5 = (own_stop3 p3 p4 p5 w0 w1 w2 w3) from by simp only [own_stop3, if_neg hc2, if_pos hc7, if_neg hc16]), N2, e2⟩) (by decide) (by decide)
    · refine Gl.st (fun t k => XS.icmpYes X0.here hx rfl (pc0 := 7) (pc' := 23) rfl (hb hby d4_7) rfl (flt hc7).2.1 (by decide) (by decide) k) ?_
      show Gl _ _ _ _ _ _ _ (s₁.setTop (mkF m 23 #[.val (.ref a1), .val (.int (3 : Int32)), .val (.int p3), .val (.int p4), .val (.int p5)] []))
      refine Gl.st (fun t k => XS.iload X0.here hx rfl (hb hby d4_23) rfl  k) ?_
      show Gl _ _ _ _ _ _ _ (s₁.setTop (mkF m 25 #[.val (.ref a1), .val (.int (3 : Int32)), .val (.int p3), .val (.int p4), .val (.int p5)] [(.int p5)]))
      exact Gl.retI X0 hx hlk Bd.returns (hb hby d4_25) (⟨congrArg (fun z => some (Value.int z)) (show p5 = (own_stop3 p3 p4 p5 w0 w1 w2 w3) from by simp only [own_stop3, if_neg hc2, if_neg hc7]), N0, e0⟩) (by decide) (by decide)
def own_stop2 (p3 : Int32) (p4 : Int32) (p5 : Int32) (w0 : Int32) (w1 : Int32) (w2 : Int32) (w3 : Int32) : Int32 := (if (2 : Int32) < p3 then p5 else (if (2 : Int32) < p4 then (if (own_ws w2) = (0 : Int32) then (2 : Int32) else p5) else p5))
def Q4v2 (Z : State) (a1 : Addr) (p3 : Int32) (p4 : Int32) (p5 : Int32) (ck : ClassId) (w0 : Int32) (w1 : Int32) (w2 : Int32) (w3 : Int32) (h0 : Heap) (n0 : Nat) (v : Option Value) (h : Heap) (L : List Loc) : Prop := v = some (.int (own_stop2 p3 p4 p5 w0 w1 w2 w3)) ∧ Fr n0 L ∧ h = h0
theorem ef_4v2 (m : MethodId) (a1 : Addr) (p3 : Int32) (p4 : Int32) (p5 : Int32) : entryFrame m #[(.ref a1), (.int (2 : Int32)), (.int p3), (.int p4), (.int p5)] 5 = mkF m 0 #[.val (.ref a1), .val (.int (2 : Int32)), .val (.int p3), .val (.int p4), .val (.int p5)] [] := by first | (simp [entryFrame, mkF, argsToLocals, Value.category]; done) | rfl
set_option maxRecDepth 65536 in
set_option maxHeartbeats 40000000 in
theorem rm4v2 (l : Launch) (Z : State) (a0 : Array Value) (hw : ∀ d ∈ tables_1, d.before a0 Z = true) (ws : List Jvm.Cond) (a1 : Addr) (p3 : Int32) (p4 : Int32) (p5 : Int32) (ck : ClassId) (w0 : Int32) (w1 : Int32) (w2 : Int32) (w3 : Int32) (h0 : Heap) (n0 : Nat) (Va : Arv Z h0 a1 ck .byte (4 : Int32) [(.int w0), (.int w1), (.int w2), (.int w3)] (.int (0 : Int32))) :
    MetFree l (⟨"com/example/millrace/millrace/ParserSkipSpacePinLaw", "stopAt", "([BIIII)I"⟩ : MethodName) (head1 (Jvm.Cond.code (⟨"com/example/millrace/millrace/ParserSkipSpacePinLaw", "stopAt", "([BIIII)I"⟩ : MethodName) method_5_code 5 (some .int) :: ws) ({ frames := 1, cells := 0, slots := 0, locals := 12 } : Room)) (fun a U => a = #[(.ref a1), (.int (2 : Int32)), (.int p3), (.int p4), (.int p5)] ∧ Z.Warmed39 U.vm ∧ U.heap = h0) (fun _ _ _ _ _ => True) (fun _ U o U' => ∃ v L, o = .returned v ∧ Q4v2 Z a1 p3 p4 p5 ck w0 w1 w2 w3 h0 n0 v U'.heap L ∧ FrameEnd U o U' L ({ frames := 1, cells := 0, slots := 0, locals := 12 } : Room).cells ({ frames := 1, cells := 0, slots := 0, locals := 12 } : Room).slots) := by
  refine MetFree.of_bodySF pf_5 hisR ?_
  intro p e s m args below meth c s₁ Bd hml0 hP hK
  obtain ⟨rfl, hZ, hh⟩ := hP
  have hx := Bd.exec
  have hby := Bd.bytes
  have hlk : meth.locks = false := BodyLoose.notSynchronized Bd
  have hml : c.maxLocals = 5 := hml0
  have hown : s.vm.findClass "com/example/millrace/millrace/ParserSkipSpacePinLaw" = some m.cls := findClass_of_methodNamed Bd.named
  have hnm := (name_of_methodNamed Bd.named Bd.method).1
  have X0 : Stand p l e ({ frames := 1, cells := 0, slots := 0, locals := 12 } : Room) s m #[(.ref a1), (.int (2 : Int32)), (.int p3), (.int p4), (.int p5)] below meth c s₁ [] 0 0 := Stand.of_body Bd
  have e0 : s₁.heap = h0 := by rw [← hh, Bd.state]; rfl
  have N0 := Fr.nil n0
  show Gl p e below s (Q4v2 Z a1 p3 p4 p5 ck w0 w1 w2 w3 h0 n0) ({ frames := 1, cells := 0, slots := 0, locals := 12 } : Room).cells ({ frames := 1, cells := 0, slots := 0, locals := 12 } : Room).slots (s₁.setTop (entryFrame m #[(.ref a1), (.int (2 : Int32)), (.int p3), (.int p4), (.int p5)] 5))
  rw [ef_4v2]
  show Gl _ _ _ _ _ _ _ (s₁.setTop (mkF m 0 #[.val (.ref a1), .val (.int (2 : Int32)), .val (.int p3), .val (.int p4), .val (.int p5)] []))
  refine Gl.st (fun t k => XS.iloadN X0.here hx rfl (hb hby d4_0) rfl  k) ?_
  show Gl _ _ _ _ _ _ _ (s₁.setTop (mkF m 1 #[.val (.ref a1), .val (.int (2 : Int32)), .val (.int p3), .val (.int p4), .val (.int p5)] [(.int (2 : Int32))]))
  refine Gl.st (fun t k => XS.iloadN X0.here hx rfl (hb hby d4_1) rfl  k) ?_
  show Gl _ _ _ _ _ _ _ (s₁.setTop (mkF m 2 #[.val (.ref a1), .val (.int (2 : Int32)), .val (.int p3), .val (.int p4), .val (.int p5)] [(.int p3), (.int (2 : Int32))]))
  by_cases hc2 : (2 : Int32) < p3
  · refine Gl.st (fun t k => XS.icmpYes X0.here hx rfl (pc0 := 2) (pc' := 23) rfl (hb hby d4_2) rfl (tlt hc2).1 (by decide) (by decide) k) ?_
    show Gl _ _ _ _ _ _ _ (s₁.setTop (mkF m 23 #[.val (.ref a1), .val (.int (2 : Int32)), .val (.int p3), .val (.int p4), .val (.int p5)] []))
    refine Gl.st (fun t k => XS.iload X0.here hx rfl (hb hby d4_23) rfl  k) ?_
    show Gl _ _ _ _ _ _ _ (s₁.setTop (mkF m 25 #[.val (.ref a1), .val (.int (2 : Int32)), .val (.int p3), .val (.int p4), .val (.int p5)] [(.int p5)]))
    exact Gl.retI X0 hx hlk Bd.returns (hb hby d4_25) (⟨congrArg (fun z => some (Value.int z)) (show p5 = (own_stop2 p3 p4 p5 w0 w1 w2 w3) from by simp only [own_stop2, if_pos hc2]), N0, e0⟩) (by decide) (by decide)
  · refine Gl.st (fun t k => XS.icmpNo X0.here hx rfl (hb hby d4_2) rfl (flt hc2).1 k) ?_
    show Gl _ _ _ _ _ _ _ (s₁.setTop (mkF m 5 #[.val (.ref a1), .val (.int (2 : Int32)), .val (.int p3), .val (.int p4), .val (.int p5)] []))
    refine Gl.st (fun t k => XS.iloadN X0.here hx rfl (hb hby d4_5) rfl  k) ?_
    show Gl _ _ _ _ _ _ _ (s₁.setTop (mkF m 6 #[.val (.ref a1), .val (.int (2 : Int32)), .val (.int p3), .val (.int p4), .val (.int p5)] [(.int (2 : Int32))]))
    refine Gl.st (fun t k => XS.iloadN X0.here hx rfl (hb hby d4_6) rfl  k) ?_
    show Gl _ _ _ _ _ _ _ (s₁.setTop (mkF m 7 #[.val (.ref a1), .val (.int (2 : Int32)), .val (.int p3), .val (.int p4), .val (.int p5)] [(.int p4), (.int (2 : Int32))]))
    by_cases hc7 : (2 : Int32) < p4
    · refine Gl.st (fun t k => XS.icmpNo X0.here hx rfl (hb hby d4_7) rfl (tlt hc7).2.1 k) ?_
      show Gl _ _ _ _ _ _ _ (s₁.setTop (mkF m 10 #[.val (.ref a1), .val (.int (2 : Int32)), .val (.int p3), .val (.int p4), .val (.int p5)] []))
      refine Gl.st (fun t k => XS.aloadN X0.here hx rfl (hb hby d4_10) rfl rfl k) ?_
      show Gl _ _ _ _ _ _ _ (s₁.setTop (mkF m 11 #[.val (.ref a1), .val (.int (2 : Int32)), .val (.int p3), .val (.int p4), .val (.int p5)] [(.ref a1)]))
      refine Gl.st (fun t k => XS.iloadN X0.here hx rfl (hb hby d4_11) rfl  k) ?_
      show Gl _ _ _ _ _ _ _ (s₁.setTop (mkF m 12 #[.val (.ref a1), .val (.int (2 : Int32)), .val (.int p3), .val (.int p4), .val (.int p5)] [(.int (2 : Int32)), (.ref a1)]))
      have Vx1 := Va
      obtain ⟨cl1, Ar1, qk1, S1, M1, H1, G1⟩ := Vx1
      have hin1 : ¬ ((2 : Int32) < 0 ∨ cl1.slots.size ≤ ((2 : Int32)).toNatClampNeg) := inb_of S1 ⟨by decide, by decide⟩
      have hat1 : cl1.slots[((2 : Int32)).toNatClampNeg]? = some (.int w2) := H1.at hin1 rfl
      refine Gl.st (X0.baloadBytes hx (j := (2 : Int32)) (v := (.int w2)) (by rw [e0]; exact Ar1.1) (State.isArrayOf_alike hZ.alike Ar1.2.1) Ar1.2.2 hin1 hat1 (g := (mkF m 12 #[.val (.ref a1), .val (.int (2 : Int32)), .val (.int p3), .val (.int p4), .val (.int p5)] [(.int (2 : Int32)), (.ref a1)])) rfl rfl (hb hby d4_12)) ?_
      show Gl _ _ _ _ _ _ _ (s₁.setTop (mkF m 13 #[.val (.ref a1), .val (.int (2 : Int32)), .val (.int p3), .val (.int p4), .val (.int p5)] [(.int w2)]))
      obtain ⟨_, _, ⟨T2, L2, k2, n2⟩, -, X2, ⟨Lc2, hQ2, l2, y2, z2⟩, st2⟩ := Jvm.LawKit.callS X0 hx (y := (⟨"com/example/millrace/millrace/ParserSkipSpacePinLaw", "ws", "(B)Z"⟩ : MethodName)) hown (mvT hZ (hw _ (List.mem_of_getElem? (i := 52) rfl))) (mvT hZ (hw _ (List.mem_of_getElem? (i := 53) rfl))) (mvT hZ (hw _ (List.mem_of_getElem? (i := 3) rfl))) (mvT hZ (hw _ (List.mem_of_getElem? (i := 54) rfl))) (by decide) (backOf (W := 0) (rm11 l Z a0 hw [] w2 h0 n0) hZ (hw _ (List.mem_of_getElem? (i := 54) rfl)) (hw _ (List.mem_of_getElem? (i := 3) rfl)) (by decide) (by decide)) (g := (mkF m 13 #[.val (.ref a1), .val (.int (2 : Int32)), .val (.int p3), .val (.int p4), .val (.int p5)] [(.int w2)])) rfl (by rw [hml]; rfl) (argsL := [(.int w2)]) (rest := []) (lenOf pd_0 rfl) rfl (by show 2 * 0 + _ ≤ _; exact Nat.le_of_eq rfl) (hb hby d4_13) (fun _ _ => ⟨rfl, e0, (by decide : 0 + 0 ≤ _), (by decide : 0 + 0 ≤ _)⟩)
      dsimp only [Pt.U, Pt.locs, Pt.cells, Pt.slots] at X2 l2 y2 z2 st2 hQ2
      rw [y2, z2] at X2
      obtain ⟨rfl, N2q, e2⟩ := hQ2
      have N2 : Fr n0 L2 := by rw [l2]; exact Fr.app N0 N2q
      refine Gl.st st2 ?_
      show Gl _ _ _ _ _ _ _ (T2.setTop (mkF m 16 #[.val (.ref a1), .val (.int (2 : Int32)), .val (.int p3), .val (.int p4), .val (.int p5)] [(.int (own_ws w2))]))
      by_cases hc16 : (own_ws w2) = (0 : Int32)
      · refine Gl.st (fun t k => XS.ifNo X2.here hx rfl (hb hby d4_16) rfl ((if0 _ _).trans (teq hc16).2) k) ?_
        show Gl _ _ _ _ _ _ _ (T2.setTop (mkF m 19 #[.val (.ref a1), .val (.int (2 : Int32)), .val (.int p3), .val (.int p4), .val (.int p5)] []))
        refine Gl.st (fun t k => XS.iloadN X2.here hx rfl (hb hby d4_19) rfl  k) ?_
        show Gl _ _ _ _ _ _ _ (T2.setTop (mkF m 20 #[.val (.ref a1), .val (.int (2 : Int32)), .val (.int p3), .val (.int p4), .val (.int p5)] [(.int (2 : Int32))]))
        refine Gl.st (fun t k => XS.goto X2.here hx rfl (pc0 := 20) (pc' := 25) rfl (hb hby d4_20) (by decide) (by decide) k) ?_
        show Gl _ _ _ _ _ _ _ (T2.setTop (mkF m 25 #[.val (.ref a1), .val (.int (2 : Int32)), .val (.int p3), .val (.int p4), .val (.int p5)] [(.int (2 : Int32))]))
        exact Gl.retI X2 hx hlk Bd.returns (hb hby d4_25) (⟨congrArg (fun z => some (Value.int z)) (show (2 : Int32) = (own_stop2 p3 p4 p5 w0 w1 w2 w3) from by simp only [own_stop2, if_neg hc2, if_pos hc7, if_pos hc16]), N2, e2⟩) (by decide) (by decide)
      · refine Gl.st (fun t k => XS.ifYes X2.here hx rfl (pc0 := 16) (pc' := 23) rfl (hb hby d4_16) rfl ((if0 _ _).trans (feq hc16).2) (by decide) (by decide) k) ?_
        show Gl _ _ _ _ _ _ _ (T2.setTop (mkF m 23 #[.val (.ref a1), .val (.int (2 : Int32)), .val (.int p3), .val (.int p4), .val (.int p5)] []))
        refine Gl.st (fun t k => XS.iload X2.here hx rfl (hb hby d4_23) rfl  k) ?_
        show Gl _ _ _ _ _ _ _ (T2.setTop (mkF m 25 #[.val (.ref a1), .val (.int (2 : Int32)), .val (.int p3), .val (.int p4), .val (.int p5)] [(.int p5)]))
        exact Gl.retI X2 hx hlk Bd.returns (hb hby d4_25) (⟨congrArg (fun z => some (Value.int z)) (show p5 = (own_stop2 p3 p4 p5 w0 w1 w2 w3) from by simp only [own_stop2, if_neg hc2, if_pos hc7, if_neg hc16]), N2, e2⟩) (by decide) (by decide)
    · refine Gl.st (fun t k => XS.icmpYes X0.here hx rfl (pc0 := 7) (pc' := 23) rfl (hb hby d4_7) rfl (flt hc7).2.1 (by decide) (by decide) k) ?_
      show Gl _ _ _ _ _ _ _ (s₁.setTop (mkF m 23 #[.val (.ref a1), .val (.int (2 : Int32)), .val (.int p3), .val (.int p4), .val (.int p5)] []))
      refine Gl.st (fun t k => XS.iload X0.here hx rfl (hb hby d4_23) rfl  k) ?_
      show Gl _ _ _ _ _ _ _ (s₁.setTop (mkF m 25 #[.val (.ref a1), .val (.int (2 : Int32)), .val (.int p3), .val (.int p4), .val (.int p5)] [(.int p5)]))
      exact Gl.retI X0 hx hlk Bd.returns (hb hby d4_25) (⟨congrArg (fun z => some (Value.int z)) (show p5 = (own_stop2 p3 p4 p5 w0 w1 w2 w3) from by simp only [own_stop2, if_neg hc2, if_neg hc7]), N0, e0⟩) (by decide) (by decide)
def own_stop1 (p3 : Int32) (p4 : Int32) (p5 : Int32) (w0 : Int32) (w1 : Int32) (w2 : Int32) (w3 : Int32) : Int32 := (if (1 : Int32) < p3 then p5 else (if (1 : Int32) < p4 then (if (own_ws w1) = (0 : Int32) then (1 : Int32) else p5) else p5))
def Q4v1 (Z : State) (a1 : Addr) (p3 : Int32) (p4 : Int32) (p5 : Int32) (ck : ClassId) (w0 : Int32) (w1 : Int32) (w2 : Int32) (w3 : Int32) (h0 : Heap) (n0 : Nat) (v : Option Value) (h : Heap) (L : List Loc) : Prop := v = some (.int (own_stop1 p3 p4 p5 w0 w1 w2 w3)) ∧ Fr n0 L ∧ h = h0
theorem ef_4v1 (m : MethodId) (a1 : Addr) (p3 : Int32) (p4 : Int32) (p5 : Int32) : entryFrame m #[(.ref a1), (.int (1 : Int32)), (.int p3), (.int p4), (.int p5)] 5 = mkF m 0 #[.val (.ref a1), .val (.int (1 : Int32)), .val (.int p3), .val (.int p4), .val (.int p5)] [] := by first | (simp [entryFrame, mkF, argsToLocals, Value.category]; done) | rfl
set_option maxRecDepth 65536 in
set_option maxHeartbeats 40000000 in
theorem rm4v1 (l : Launch) (Z : State) (a0 : Array Value) (hw : ∀ d ∈ tables_1, d.before a0 Z = true) (ws : List Jvm.Cond) (a1 : Addr) (p3 : Int32) (p4 : Int32) (p5 : Int32) (ck : ClassId) (w0 : Int32) (w1 : Int32) (w2 : Int32) (w3 : Int32) (h0 : Heap) (n0 : Nat) (Va : Arv Z h0 a1 ck .byte (4 : Int32) [(.int w0), (.int w1), (.int w2), (.int w3)] (.int (0 : Int32))) :
    MetFree l (⟨"com/example/millrace/millrace/ParserSkipSpacePinLaw", "stopAt", "([BIIII)I"⟩ : MethodName) (head1 (Jvm.Cond.code (⟨"com/example/millrace/millrace/ParserSkipSpacePinLaw", "stopAt", "([BIIII)I"⟩ : MethodName) method_5_code 5 (some .int) :: ws) ({ frames := 1, cells := 0, slots := 0, locals := 12 } : Room)) (fun a U => a = #[(.ref a1), (.int (1 : Int32)), (.int p3), (.int p4), (.int p5)] ∧ Z.Warmed39 U.vm ∧ U.heap = h0) (fun _ _ _ _ _ => True) (fun _ U o U' => ∃ v L, o = .returned v ∧ Q4v1 Z a1 p3 p4 p5 ck w0 w1 w2 w3 h0 n0 v U'.heap L ∧ FrameEnd U o U' L ({ frames := 1, cells := 0, slots := 0, locals := 12 } : Room).cells ({ frames := 1, cells := 0, slots := 0, locals := 12 } : Room).slots) := by
  refine MetFree.of_bodySF pf_5 hisR ?_
  intro p e s m args below meth c s₁ Bd hml0 hP hK
  obtain ⟨rfl, hZ, hh⟩ := hP
  have hx := Bd.exec
  have hby := Bd.bytes
  have hlk : meth.locks = false := BodyLoose.notSynchronized Bd
  have hml : c.maxLocals = 5 := hml0
  have hown : s.vm.findClass "com/example/millrace/millrace/ParserSkipSpacePinLaw" = some m.cls := findClass_of_methodNamed Bd.named
  have hnm := (name_of_methodNamed Bd.named Bd.method).1
  have X0 : Stand p l e ({ frames := 1, cells := 0, slots := 0, locals := 12 } : Room) s m #[(.ref a1), (.int (1 : Int32)), (.int p3), (.int p4), (.int p5)] below meth c s₁ [] 0 0 := Stand.of_body Bd
  have e0 : s₁.heap = h0 := by rw [← hh, Bd.state]; rfl
  have N0 := Fr.nil n0
  show Gl p e below s (Q4v1 Z a1 p3 p4 p5 ck w0 w1 w2 w3 h0 n0) ({ frames := 1, cells := 0, slots := 0, locals := 12 } : Room).cells ({ frames := 1, cells := 0, slots := 0, locals := 12 } : Room).slots (s₁.setTop (entryFrame m #[(.ref a1), (.int (1 : Int32)), (.int p3), (.int p4), (.int p5)] 5))
  rw [ef_4v1]
  show Gl _ _ _ _ _ _ _ (s₁.setTop (mkF m 0 #[.val (.ref a1), .val (.int (1 : Int32)), .val (.int p3), .val (.int p4), .val (.int p5)] []))
  refine Gl.st (fun t k => XS.iloadN X0.here hx rfl (hb hby d4_0) rfl  k) ?_
  show Gl _ _ _ _ _ _ _ (s₁.setTop (mkF m 1 #[.val (.ref a1), .val (.int (1 : Int32)), .val (.int p3), .val (.int p4), .val (.int p5)] [(.int (1 : Int32))]))
  refine Gl.st (fun t k => XS.iloadN X0.here hx rfl (hb hby d4_1) rfl  k) ?_
  show Gl _ _ _ _ _ _ _ (s₁.setTop (mkF m 2 #[.val (.ref a1), .val (.int (1 : Int32)), .val (.int p3), .val (.int p4), .val (.int p5)] [(.int p3), (.int (1 : Int32))]))
  by_cases hc2 : (1 : Int32) < p3
  · refine Gl.st (fun t k => XS.icmpYes X0.here hx rfl (pc0 := 2) (pc' := 23) rfl (hb hby d4_2) rfl (tlt hc2).1 (by decide) (by decide) k) ?_
    show Gl _ _ _ _ _ _ _ (s₁.setTop (mkF m 23 #[.val (.ref a1), .val (.int (1 : Int32)), .val (.int p3), .val (.int p4), .val (.int p5)] []))
    refine Gl.st (fun t k => XS.iload X0.here hx rfl (hb hby d4_23) rfl  k) ?_
    show Gl _ _ _ _ _ _ _ (s₁.setTop (mkF m 25 #[.val (.ref a1), .val (.int (1 : Int32)), .val (.int p3), .val (.int p4), .val (.int p5)] [(.int p5)]))
    exact Gl.retI X0 hx hlk Bd.returns (hb hby d4_25) (⟨congrArg (fun z => some (Value.int z)) (show p5 = (own_stop1 p3 p4 p5 w0 w1 w2 w3) from by simp only [own_stop1, if_pos hc2]), N0, e0⟩) (by decide) (by decide)
  · refine Gl.st (fun t k => XS.icmpNo X0.here hx rfl (hb hby d4_2) rfl (flt hc2).1 k) ?_
    show Gl _ _ _ _ _ _ _ (s₁.setTop (mkF m 5 #[.val (.ref a1), .val (.int (1 : Int32)), .val (.int p3), .val (.int p4), .val (.int p5)] []))
    refine Gl.st (fun t k => XS.iloadN X0.here hx rfl (hb hby d4_5) rfl  k) ?_
    show Gl _ _ _ _ _ _ _ (s₁.setTop (mkF m 6 #[.val (.ref a1), .val (.int (1 : Int32)), .val (.int p3), .val (.int p4), .val (.int p5)] [(.int (1 : Int32))]))
    refine Gl.st (fun t k => XS.iloadN X0.here hx rfl (hb hby d4_6) rfl  k) ?_
    show Gl _ _ _ _ _ _ _ (s₁.setTop (mkF m 7 #[.val (.ref a1), .val (.int (1 : Int32)), .val (.int p3), .val (.int p4), .val (.int p5)] [(.int p4), (.int (1 : Int32))]))
    by_cases hc7 : (1 : Int32) < p4
    · refine Gl.st (fun t k => XS.icmpNo X0.here hx rfl (hb hby d4_7) rfl (tlt hc7).2.1 k) ?_
      show Gl _ _ _ _ _ _ _ (s₁.setTop (mkF m 10 #[.val (.ref a1), .val (.int (1 : Int32)), .val (.int p3), .val (.int p4), .val (.int p5)] []))
      refine Gl.st (fun t k => XS.aloadN X0.here hx rfl (hb hby d4_10) rfl rfl k) ?_
      show Gl _ _ _ _ _ _ _ (s₁.setTop (mkF m 11 #[.val (.ref a1), .val (.int (1 : Int32)), .val (.int p3), .val (.int p4), .val (.int p5)] [(.ref a1)]))
      refine Gl.st (fun t k => XS.iloadN X0.here hx rfl (hb hby d4_11) rfl  k) ?_
      show Gl _ _ _ _ _ _ _ (s₁.setTop (mkF m 12 #[.val (.ref a1), .val (.int (1 : Int32)), .val (.int p3), .val (.int p4), .val (.int p5)] [(.int (1 : Int32)), (.ref a1)]))
      have Vx1 := Va
      obtain ⟨cl1, Ar1, qk1, S1, M1, H1, G1⟩ := Vx1
      have hin1 : ¬ ((1 : Int32) < 0 ∨ cl1.slots.size ≤ ((1 : Int32)).toNatClampNeg) := inb_of S1 ⟨by decide, by decide⟩
      have hat1 : cl1.slots[((1 : Int32)).toNatClampNeg]? = some (.int w1) := H1.at hin1 rfl
      refine Gl.st (X0.baloadBytes hx (j := (1 : Int32)) (v := (.int w1)) (by rw [e0]; exact Ar1.1) (State.isArrayOf_alike hZ.alike Ar1.2.1) Ar1.2.2 hin1 hat1 (g := (mkF m 12 #[.val (.ref a1), .val (.int (1 : Int32)), .val (.int p3), .val (.int p4), .val (.int p5)] [(.int (1 : Int32)), (.ref a1)])) rfl rfl (hb hby d4_12)) ?_
      show Gl _ _ _ _ _ _ _ (s₁.setTop (mkF m 13 #[.val (.ref a1), .val (.int (1 : Int32)), .val (.int p3), .val (.int p4), .val (.int p5)] [(.int w1)]))
      obtain ⟨_, _, ⟨T2, L2, k2, n2⟩, -, X2, ⟨Lc2, hQ2, l2, y2, z2⟩, st2⟩ := Jvm.LawKit.callS X0 hx (y := (⟨"com/example/millrace/millrace/ParserSkipSpacePinLaw", "ws", "(B)Z"⟩ : MethodName)) hown (mvT hZ (hw _ (List.mem_of_getElem? (i := 52) rfl))) (mvT hZ (hw _ (List.mem_of_getElem? (i := 53) rfl))) (mvT hZ (hw _ (List.mem_of_getElem? (i := 3) rfl))) (mvT hZ (hw _ (List.mem_of_getElem? (i := 54) rfl))) (by decide) (backOf (W := 0) (rm11 l Z a0 hw [] w1 h0 n0) hZ (hw _ (List.mem_of_getElem? (i := 54) rfl)) (hw _ (List.mem_of_getElem? (i := 3) rfl)) (by decide) (by decide)) (g := (mkF m 13 #[.val (.ref a1), .val (.int (1 : Int32)), .val (.int p3), .val (.int p4), .val (.int p5)] [(.int w1)])) rfl (by rw [hml]; rfl) (argsL := [(.int w1)]) (rest := []) (lenOf pd_0 rfl) rfl (by show 2 * 0 + _ ≤ _; exact Nat.le_of_eq rfl) (hb hby d4_13) (fun _ _ => ⟨rfl, e0, (by decide : 0 + 0 ≤ _), (by decide : 0 + 0 ≤ _)⟩)
      dsimp only [Pt.U, Pt.locs, Pt.cells, Pt.slots] at X2 l2 y2 z2 st2 hQ2
      rw [y2, z2] at X2
      obtain ⟨rfl, N2q, e2⟩ := hQ2
      have N2 : Fr n0 L2 := by rw [l2]; exact Fr.app N0 N2q
      refine Gl.st st2 ?_
      show Gl _ _ _ _ _ _ _ (T2.setTop (mkF m 16 #[.val (.ref a1), .val (.int (1 : Int32)), .val (.int p3), .val (.int p4), .val (.int p5)] [(.int (own_ws w1))]))
      by_cases hc16 : (own_ws w1) = (0 : Int32)
      · refine Gl.st (fun t k => XS.ifNo X2.here hx rfl (hb hby d4_16) rfl ((if0 _ _).trans (teq hc16).2) k) ?_
        show Gl _ _ _ _ _ _ _ (T2.setTop (mkF m 19 #[.val (.ref a1), .val (.int (1 : Int32)), .val (.int p3), .val (.int p4), .val (.int p5)] []))
        refine Gl.st (fun t k => XS.iloadN X2.here hx rfl (hb hby d4_19) rfl  k) ?_
        show Gl _ _ _ _ _ _ _ (T2.setTop (mkF m 20 #[.val (.ref a1), .val (.int (1 : Int32)), .val (.int p3), .val (.int p4), .val (.int p5)] [(.int (1 : Int32))]))
        refine Gl.st (fun t k => XS.goto X2.here hx rfl (pc0 := 20) (pc' := 25) rfl (hb hby d4_20) (by decide) (by decide) k) ?_
        show Gl _ _ _ _ _ _ _ (T2.setTop (mkF m 25 #[.val (.ref a1), .val (.int (1 : Int32)), .val (.int p3), .val (.int p4), .val (.int p5)] [(.int (1 : Int32))]))
        exact Gl.retI X2 hx hlk Bd.returns (hb hby d4_25) (⟨congrArg (fun z => some (Value.int z)) (show (1 : Int32) = (own_stop1 p3 p4 p5 w0 w1 w2 w3) from by simp only [own_stop1, if_neg hc2, if_pos hc7, if_pos hc16]), N2, e2⟩) (by decide) (by decide)
      · refine Gl.st (fun t k => XS.ifYes X2.here hx rfl (pc0 := 16) (pc' := 23) rfl (hb hby d4_16) rfl ((if0 _ _).trans (feq hc16).2) (by decide) (by decide) k) ?_
        show Gl _ _ _ _ _ _ _ (T2.setTop (mkF m 23 #[.val (.ref a1), .val (.int (1 : Int32)), .val (.int p3), .val (.int p4), .val (.int p5)] []))
        refine Gl.st (fun t k => XS.iload X2.here hx rfl (hb hby d4_23) rfl  k) ?_
        show Gl _ _ _ _ _ _ _ (T2.setTop (mkF m 25 #[.val (.ref a1), .val (.int (1 : Int32)), .val (.int p3), .val (.int p4), .val (.int p5)] [(.int p5)]))
        exact Gl.retI X2 hx hlk Bd.returns (hb hby d4_25) (⟨congrArg (fun z => some (Value.int z)) (show p5 = (own_stop1 p3 p4 p5 w0 w1 w2 w3) from by simp only [own_stop1, if_neg hc2, if_pos hc7, if_neg hc16]), N2, e2⟩) (by decide) (by decide)
    · refine Gl.st (fun t k => XS.icmpYes X0.here hx rfl (pc0 := 7) (pc' := 23) rfl (hb hby d4_7) rfl (flt hc7).2.1 (by decide) (by decide) k) ?_
      show Gl _ _ _ _ _ _ _ (s₁.setTop (mkF m 23 #[.val (.ref a1), .val (.int (1 : Int32)), .val (.int p3), .val (.int p4), .val (.int p5)] []))
      refine Gl.st (fun t k => XS.iload X0.here hx rfl (hb hby d4_23) rfl  k) ?_
      show Gl _ _ _ _ _ _ _ (s₁.setTop (mkF m 25 #[.val (.ref a1), .val (.int (1 : Int32)), .val (.int p3), .val (.int p4), .val (.int p5)] [(.int p5)]))
      exact Gl.retI X0 hx hlk Bd.returns (hb hby d4_25) (⟨congrArg (fun z => some (Value.int z)) (show p5 = (own_stop1 p3 p4 p5 w0 w1 w2 w3) from by simp only [own_stop1, if_neg hc2, if_neg hc7]), N0, e0⟩) (by decide) (by decide)
def own_stop0 (p3 : Int32) (p4 : Int32) (p5 : Int32) (w0 : Int32) (w1 : Int32) (w2 : Int32) (w3 : Int32) : Int32 := (if (0 : Int32) < p3 then p5 else (if (0 : Int32) < p4 then (if (own_ws w0) = (0 : Int32) then (0 : Int32) else p5) else p5))
def Q4v0 (Z : State) (a1 : Addr) (p3 : Int32) (p4 : Int32) (p5 : Int32) (ck : ClassId) (w0 : Int32) (w1 : Int32) (w2 : Int32) (w3 : Int32) (h0 : Heap) (n0 : Nat) (v : Option Value) (h : Heap) (L : List Loc) : Prop := v = some (.int (own_stop0 p3 p4 p5 w0 w1 w2 w3)) ∧ Fr n0 L ∧ h = h0
theorem ef_4v0 (m : MethodId) (a1 : Addr) (p3 : Int32) (p4 : Int32) (p5 : Int32) : entryFrame m #[(.ref a1), (.int (0 : Int32)), (.int p3), (.int p4), (.int p5)] 5 = mkF m 0 #[.val (.ref a1), .val (.int (0 : Int32)), .val (.int p3), .val (.int p4), .val (.int p5)] [] := by first | (simp [entryFrame, mkF, argsToLocals, Value.category]; done) | rfl
set_option maxRecDepth 65536 in
set_option maxHeartbeats 40000000 in
theorem rm4v0 (l : Launch) (Z : State) (a0 : Array Value) (hw : ∀ d ∈ tables_1, d.before a0 Z = true) (ws : List Jvm.Cond) (a1 : Addr) (p3 : Int32) (p4 : Int32) (p5 : Int32) (ck : ClassId) (w0 : Int32) (w1 : Int32) (w2 : Int32) (w3 : Int32) (h0 : Heap) (n0 : Nat) (Va : Arv Z h0 a1 ck .byte (4 : Int32) [(.int w0), (.int w1), (.int w2), (.int w3)] (.int (0 : Int32))) :
    MetFree l (⟨"com/example/millrace/millrace/ParserSkipSpacePinLaw", "stopAt", "([BIIII)I"⟩ : MethodName) (head1 (Jvm.Cond.code (⟨"com/example/millrace/millrace/ParserSkipSpacePinLaw", "stopAt", "([BIIII)I"⟩ : MethodName) method_5_code 5 (some .int) :: ws) ({ frames := 1, cells := 0, slots := 0, locals := 12 } : Room)) (fun a U => a = #[(.ref a1), (.int (0 : Int32)), (.int p3), (.int p4), (.int p5)] ∧ Z.Warmed39 U.vm ∧ U.heap = h0) (fun _ _ _ _ _ => True) (fun _ U o U' => ∃ v L, o = .returned v ∧ Q4v0 Z a1 p3 p4 p5 ck w0 w1 w2 w3 h0 n0 v U'.heap L ∧ FrameEnd U o U' L ({ frames := 1, cells := 0, slots := 0, locals := 12 } : Room).cells ({ frames := 1, cells := 0, slots := 0, locals := 12 } : Room).slots) := by
  refine MetFree.of_bodySF pf_5 hisR ?_
  intro p e s m args below meth c s₁ Bd hml0 hP hK
  obtain ⟨rfl, hZ, hh⟩ := hP
  have hx := Bd.exec
  have hby := Bd.bytes
  have hlk : meth.locks = false := BodyLoose.notSynchronized Bd
  have hml : c.maxLocals = 5 := hml0
  have hown : s.vm.findClass "com/example/millrace/millrace/ParserSkipSpacePinLaw" = some m.cls := findClass_of_methodNamed Bd.named
  have hnm := (name_of_methodNamed Bd.named Bd.method).1
  have X0 : Stand p l e ({ frames := 1, cells := 0, slots := 0, locals := 12 } : Room) s m #[(.ref a1), (.int (0 : Int32)), (.int p3), (.int p4), (.int p5)] below meth c s₁ [] 0 0 := Stand.of_body Bd
  have e0 : s₁.heap = h0 := by rw [← hh, Bd.state]; rfl
  have N0 := Fr.nil n0
  show Gl p e below s (Q4v0 Z a1 p3 p4 p5 ck w0 w1 w2 w3 h0 n0) ({ frames := 1, cells := 0, slots := 0, locals := 12 } : Room).cells ({ frames := 1, cells := 0, slots := 0, locals := 12 } : Room).slots (s₁.setTop (entryFrame m #[(.ref a1), (.int (0 : Int32)), (.int p3), (.int p4), (.int p5)] 5))
  rw [ef_4v0]
  show Gl _ _ _ _ _ _ _ (s₁.setTop (mkF m 0 #[.val (.ref a1), .val (.int (0 : Int32)), .val (.int p3), .val (.int p4), .val (.int p5)] []))
  refine Gl.st (fun t k => XS.iloadN X0.here hx rfl (hb hby d4_0) rfl  k) ?_
  show Gl _ _ _ _ _ _ _ (s₁.setTop (mkF m 1 #[.val (.ref a1), .val (.int (0 : Int32)), .val (.int p3), .val (.int p4), .val (.int p5)] [(.int (0 : Int32))]))
  refine Gl.st (fun t k => XS.iloadN X0.here hx rfl (hb hby d4_1) rfl  k) ?_
  show Gl _ _ _ _ _ _ _ (s₁.setTop (mkF m 2 #[.val (.ref a1), .val (.int (0 : Int32)), .val (.int p3), .val (.int p4), .val (.int p5)] [(.int p3), (.int (0 : Int32))]))
  by_cases hc2 : (0 : Int32) < p3
  · refine Gl.st (fun t k => XS.icmpYes X0.here hx rfl (pc0 := 2) (pc' := 23) rfl (hb hby d4_2) rfl (tlt hc2).1 (by decide) (by decide) k) ?_
    show Gl _ _ _ _ _ _ _ (s₁.setTop (mkF m 23 #[.val (.ref a1), .val (.int (0 : Int32)), .val (.int p3), .val (.int p4), .val (.int p5)] []))
    refine Gl.st (fun t k => XS.iload X0.here hx rfl (hb hby d4_23) rfl  k) ?_
    show Gl _ _ _ _ _ _ _ (s₁.setTop (mkF m 25 #[.val (.ref a1), .val (.int (0 : Int32)), .val (.int p3), .val (.int p4), .val (.int p5)] [(.int p5)]))
    exact Gl.retI X0 hx hlk Bd.returns (hb hby d4_25) (⟨congrArg (fun z => some (Value.int z)) (show p5 = (own_stop0 p3 p4 p5 w0 w1 w2 w3) from by simp only [own_stop0, if_pos hc2]), N0, e0⟩) (by decide) (by decide)
  · refine Gl.st (fun t k => XS.icmpNo X0.here hx rfl (hb hby d4_2) rfl (flt hc2).1 k) ?_
    show Gl _ _ _ _ _ _ _ (s₁.setTop (mkF m 5 #[.val (.ref a1), .val (.int (0 : Int32)), .val (.int p3), .val (.int p4), .val (.int p5)] []))
    refine Gl.st (fun t k => XS.iloadN X0.here hx rfl (hb hby d4_5) rfl  k) ?_
    show Gl _ _ _ _ _ _ _ (s₁.setTop (mkF m 6 #[.val (.ref a1), .val (.int (0 : Int32)), .val (.int p3), .val (.int p4), .val (.int p5)] [(.int (0 : Int32))]))
    refine Gl.st (fun t k => XS.iloadN X0.here hx rfl (hb hby d4_6) rfl  k) ?_
    show Gl _ _ _ _ _ _ _ (s₁.setTop (mkF m 7 #[.val (.ref a1), .val (.int (0 : Int32)), .val (.int p3), .val (.int p4), .val (.int p5)] [(.int p4), (.int (0 : Int32))]))
    by_cases hc7 : (0 : Int32) < p4
    · refine Gl.st (fun t k => XS.icmpNo X0.here hx rfl (hb hby d4_7) rfl (tlt hc7).2.1 k) ?_
      show Gl _ _ _ _ _ _ _ (s₁.setTop (mkF m 10 #[.val (.ref a1), .val (.int (0 : Int32)), .val (.int p3), .val (.int p4), .val (.int p5)] []))
      refine Gl.st (fun t k => XS.aloadN X0.here hx rfl (hb hby d4_10) rfl rfl k) ?_
      show Gl _ _ _ _ _ _ _ (s₁.setTop (mkF m 11 #[.val (.ref a1), .val (.int (0 : Int32)), .val (.int p3), .val (.int p4), .val (.int p5)] [(.ref a1)]))
      refine Gl.st (fun t k => XS.iloadN X0.here hx rfl (hb hby d4_11) rfl  k) ?_
      show Gl _ _ _ _ _ _ _ (s₁.setTop (mkF m 12 #[.val (.ref a1), .val (.int (0 : Int32)), .val (.int p3), .val (.int p4), .val (.int p5)] [(.int (0 : Int32)), (.ref a1)]))
      have Vx1 := Va
      obtain ⟨cl1, Ar1, qk1, S1, M1, H1, G1⟩ := Vx1
      have hin1 : ¬ ((0 : Int32) < 0 ∨ cl1.slots.size ≤ ((0 : Int32)).toNatClampNeg) := inb_of S1 ⟨by decide, by decide⟩
      have hat1 : cl1.slots[((0 : Int32)).toNatClampNeg]? = some (.int w0) := H1.at hin1 rfl
      refine Gl.st (X0.baloadBytes hx (j := (0 : Int32)) (v := (.int w0)) (by rw [e0]; exact Ar1.1) (State.isArrayOf_alike hZ.alike Ar1.2.1) Ar1.2.2 hin1 hat1 (g := (mkF m 12 #[.val (.ref a1), .val (.int (0 : Int32)), .val (.int p3), .val (.int p4), .val (.int p5)] [(.int (0 : Int32)), (.ref a1)])) rfl rfl (hb hby d4_12)) ?_
      show Gl _ _ _ _ _ _ _ (s₁.setTop (mkF m 13 #[.val (.ref a1), .val (.int (0 : Int32)), .val (.int p3), .val (.int p4), .val (.int p5)] [(.int w0)]))
      obtain ⟨_, _, ⟨T2, L2, k2, n2⟩, -, X2, ⟨Lc2, hQ2, l2, y2, z2⟩, st2⟩ := Jvm.LawKit.callS X0 hx (y := (⟨"com/example/millrace/millrace/ParserSkipSpacePinLaw", "ws", "(B)Z"⟩ : MethodName)) hown (mvT hZ (hw _ (List.mem_of_getElem? (i := 52) rfl))) (mvT hZ (hw _ (List.mem_of_getElem? (i := 53) rfl))) (mvT hZ (hw _ (List.mem_of_getElem? (i := 3) rfl))) (mvT hZ (hw _ (List.mem_of_getElem? (i := 54) rfl))) (by decide) (backOf (W := 0) (rm11 l Z a0 hw [] w0 h0 n0) hZ (hw _ (List.mem_of_getElem? (i := 54) rfl)) (hw _ (List.mem_of_getElem? (i := 3) rfl)) (by decide) (by decide)) (g := (mkF m 13 #[.val (.ref a1), .val (.int (0 : Int32)), .val (.int p3), .val (.int p4), .val (.int p5)] [(.int w0)])) rfl (by rw [hml]; rfl) (argsL := [(.int w0)]) (rest := []) (lenOf pd_0 rfl) rfl (by show 2 * 0 + _ ≤ _; exact Nat.le_of_eq rfl) (hb hby d4_13) (fun _ _ => ⟨rfl, e0, (by decide : 0 + 0 ≤ _), (by decide : 0 + 0 ≤ _)⟩)
      dsimp only [Pt.U, Pt.locs, Pt.cells, Pt.slots] at X2 l2 y2 z2 st2 hQ2
      rw [y2, z2] at X2
      obtain ⟨rfl, N2q, e2⟩ := hQ2
      have N2 : Fr n0 L2 := by rw [l2]; exact Fr.app N0 N2q
      refine Gl.st st2 ?_
      show Gl _ _ _ _ _ _ _ (T2.setTop (mkF m 16 #[.val (.ref a1), .val (.int (0 : Int32)), .val (.int p3), .val (.int p4), .val (.int p5)] [(.int (own_ws w0))]))
      by_cases hc16 : (own_ws w0) = (0 : Int32)
      · refine Gl.st (fun t k => XS.ifNo X2.here hx rfl (hb hby d4_16) rfl ((if0 _ _).trans (teq hc16).2) k) ?_
        show Gl _ _ _ _ _ _ _ (T2.setTop (mkF m 19 #[.val (.ref a1), .val (.int (0 : Int32)), .val (.int p3), .val (.int p4), .val (.int p5)] []))
        refine Gl.st (fun t k => XS.iloadN X2.here hx rfl (hb hby d4_19) rfl  k) ?_
        show Gl _ _ _ _ _ _ _ (T2.setTop (mkF m 20 #[.val (.ref a1), .val (.int (0 : Int32)), .val (.int p3), .val (.int p4), .val (.int p5)] [(.int (0 : Int32))]))
        refine Gl.st (fun t k => XS.goto X2.here hx rfl (pc0 := 20) (pc' := 25) rfl (hb hby d4_20) (by decide) (by decide) k) ?_
        show Gl _ _ _ _ _ _ _ (T2.setTop (mkF m 25 #[.val (.ref a1), .val (.int (0 : Int32)), .val (.int p3), .val (.int p4), .val (.int p5)] [(.int (0 : Int32))]))
        exact Gl.retI X2 hx hlk Bd.returns (hb hby d4_25) (⟨congrArg (fun z => some (Value.int z)) (show (0 : Int32) = (own_stop0 p3 p4 p5 w0 w1 w2 w3) from by simp only [own_stop0, if_neg hc2, if_pos hc7, if_pos hc16]), N2, e2⟩) (by decide) (by decide)
      · refine Gl.st (fun t k => XS.ifYes X2.here hx rfl (pc0 := 16) (pc' := 23) rfl (hb hby d4_16) rfl ((if0 _ _).trans (feq hc16).2) (by decide) (by decide) k) ?_
        show Gl _ _ _ _ _ _ _ (T2.setTop (mkF m 23 #[.val (.ref a1), .val (.int (0 : Int32)), .val (.int p3), .val (.int p4), .val (.int p5)] []))
        refine Gl.st (fun t k => XS.iload X2.here hx rfl (hb hby d4_23) rfl  k) ?_
        show Gl _ _ _ _ _ _ _ (T2.setTop (mkF m 25 #[.val (.ref a1), .val (.int (0 : Int32)), .val (.int p3), .val (.int p4), .val (.int p5)] [(.int p5)]))
        exact Gl.retI X2 hx hlk Bd.returns (hb hby d4_25) (⟨congrArg (fun z => some (Value.int z)) (show p5 = (own_stop0 p3 p4 p5 w0 w1 w2 w3) from by simp only [own_stop0, if_neg hc2, if_pos hc7, if_neg hc16]), N2, e2⟩) (by decide) (by decide)
    · refine Gl.st (fun t k => XS.icmpYes X0.here hx rfl (pc0 := 7) (pc' := 23) rfl (hb hby d4_7) rfl (flt hc7).2.1 (by decide) (by decide) k) ?_
      show Gl _ _ _ _ _ _ _ (s₁.setTop (mkF m 23 #[.val (.ref a1), .val (.int (0 : Int32)), .val (.int p3), .val (.int p4), .val (.int p5)] []))
      refine Gl.st (fun t k => XS.iload X0.here hx rfl (hb hby d4_23) rfl  k) ?_
      show Gl _ _ _ _ _ _ _ (s₁.setTop (mkF m 25 #[.val (.ref a1), .val (.int (0 : Int32)), .val (.int p3), .val (.int p4), .val (.int p5)] [(.int p5)]))
      exact Gl.retI X0 hx hlk Bd.returns (hb hby d4_25) (⟨congrArg (fun z => some (Value.int z)) (show p5 = (own_stop0 p3 p4 p5 w0 w1 w2 w3) from by simp only [own_stop0, if_neg hc2, if_neg hc7]), N0, e0⟩) (by decide) (by decide)
def own_break0 (p3 : Int32) (p4 : Int32) (w0 : Int32) (w1 : Int32) (w2 : Int32) (w3 : Int32) : Int32 := (if (0 : Int32) < p3 then (0 : Int32) else (if (0 : Int32) < p4 then (if (own_brk w0) = (0 : Int32) then (0 : Int32) else (1 : Int32)) else (0 : Int32)))
theorem d5_0 : decode method_6_code 0 = .ok (.iload_n 1, 1) := by decide +kernel
theorem d5_1 : decode method_6_code 1 = .ok (.iload_n 2, 1) := by decide +kernel
theorem d5_2 : decode method_6_code 2 = .ok (.if_icmp .lt 21, 3) := by decide +kernel
theorem d5_5 : decode method_6_code 5 = .ok (.iload_n 1, 1) := by decide +kernel
theorem d5_6 : decode method_6_code 6 = .ok (.iload_n 3, 1) := by decide +kernel
theorem d5_7 : decode method_6_code 7 = .ok (.if_icmp .ge 16, 3) := by decide +kernel
theorem d5_10 : decode method_6_code 10 = .ok (.aload_n 0, 1) := by decide +kernel
theorem d5_11 : decode method_6_code 11 = .ok (.iload_n 1, 1) := by decide +kernel
theorem d5_12 : decode method_6_code 12 = .ok (.baload, 1) := by decide +kernel
theorem d5_13 : decode method_6_code 13 = .ok (.invokestatic 13, 3) := by decide +kernel
theorem d5_16 : decode method_6_code 16 = .ok (.ifCond .eq 7, 3) := by decide +kernel
theorem d5_19 : decode method_6_code 19 = .ok (.iconst 1, 1) := by decide +kernel
theorem d5_20 : decode method_6_code 20 = .ok (.goto 4, 3) := by decide +kernel
theorem d5_23 : decode method_6_code 23 = .ok (.iconst 0, 1) := by decide +kernel
theorem d5_24 : decode method_6_code 24 = .ok (.ireturn, 1) := by decide +kernel
theorem pf_6 : plainFor (⟨"com/example/millrace/millrace/ParserSkipSpacePinLaw", "breakAt", "([BIII)I"⟩ : MethodName) = true := by decide +kernel
def Q5v0 (Z : State) (a1 : Addr) (p3 : Int32) (p4 : Int32) (ck : ClassId) (w0 : Int32) (w1 : Int32) (w2 : Int32) (w3 : Int32) (h0 : Heap) (n0 : Nat) (v : Option Value) (h : Heap) (L : List Loc) : Prop := v = some (.int (own_break0 p3 p4 w0 w1 w2 w3)) ∧ Fr n0 L ∧ h = h0
theorem ef_5v0 (m : MethodId) (a1 : Addr) (p3 : Int32) (p4 : Int32) : entryFrame m #[(.ref a1), (.int (0 : Int32)), (.int p3), (.int p4)] 4 = mkF m 0 #[.val (.ref a1), .val (.int (0 : Int32)), .val (.int p3), .val (.int p4)] [] := by first | (simp [entryFrame, mkF, argsToLocals, Value.category]; done) | rfl
set_option maxRecDepth 65536 in
set_option maxHeartbeats 40000000 in
theorem rm5v0 (l : Launch) (Z : State) (a0 : Array Value) (hw : ∀ d ∈ tables_1, d.before a0 Z = true) (ws : List Jvm.Cond) (a1 : Addr) (p3 : Int32) (p4 : Int32) (ck : ClassId) (w0 : Int32) (w1 : Int32) (w2 : Int32) (w3 : Int32) (h0 : Heap) (n0 : Nat) (Va : Arv Z h0 a1 ck .byte (4 : Int32) [(.int w0), (.int w1), (.int w2), (.int w3)] (.int (0 : Int32))) :
    MetFree l (⟨"com/example/millrace/millrace/ParserSkipSpacePinLaw", "breakAt", "([BIII)I"⟩ : MethodName) (head1 (Jvm.Cond.code (⟨"com/example/millrace/millrace/ParserSkipSpacePinLaw", "breakAt", "([BIII)I"⟩ : MethodName) method_6_code 4 (some .int) :: ws) ({ frames := 1, cells := 0, slots := 0, locals := 12 } : Room)) (fun a U => a = #[(.ref a1), (.int (0 : Int32)), (.int p3), (.int p4)] ∧ Z.Warmed39 U.vm ∧ U.heap = h0) (fun _ _ _ _ _ => True) (fun _ U o U' => ∃ v L, o = .returned v ∧ Q5v0 Z a1 p3 p4 ck w0 w1 w2 w3 h0 n0 v U'.heap L ∧ FrameEnd U o U' L ({ frames := 1, cells := 0, slots := 0, locals := 12 } : Room).cells ({ frames := 1, cells := 0, slots := 0, locals := 12 } : Room).slots) := by
  refine MetFree.of_bodySF pf_6 hisR ?_
  intro p e s m args below meth c s₁ Bd hml0 hP hK
  obtain ⟨rfl, hZ, hh⟩ := hP
  have hx := Bd.exec
  have hby := Bd.bytes
  have hlk : meth.locks = false := BodyLoose.notSynchronized Bd
  have hml : c.maxLocals = 4 := hml0
  have hown : s.vm.findClass "com/example/millrace/millrace/ParserSkipSpacePinLaw" = some m.cls := findClass_of_methodNamed Bd.named
  have hnm := (name_of_methodNamed Bd.named Bd.method).1
  have X0 : Stand p l e ({ frames := 1, cells := 0, slots := 0, locals := 12 } : Room) s m #[(.ref a1), (.int (0 : Int32)), (.int p3), (.int p4)] below meth c s₁ [] 0 0 := Stand.of_body Bd
  have e0 : s₁.heap = h0 := by rw [← hh, Bd.state]; rfl
  have N0 := Fr.nil n0
  show Gl p e below s (Q5v0 Z a1 p3 p4 ck w0 w1 w2 w3 h0 n0) ({ frames := 1, cells := 0, slots := 0, locals := 12 } : Room).cells ({ frames := 1, cells := 0, slots := 0, locals := 12 } : Room).slots (s₁.setTop (entryFrame m #[(.ref a1), (.int (0 : Int32)), (.int p3), (.int p4)] 4))
  rw [ef_5v0]
  show Gl _ _ _ _ _ _ _ (s₁.setTop (mkF m 0 #[.val (.ref a1), .val (.int (0 : Int32)), .val (.int p3), .val (.int p4)] []))
  refine Gl.st (fun t k => XS.iloadN X0.here hx rfl (hb hby d5_0) rfl  k) ?_
  show Gl _ _ _ _ _ _ _ (s₁.setTop (mkF m 1 #[.val (.ref a1), .val (.int (0 : Int32)), .val (.int p3), .val (.int p4)] [(.int (0 : Int32))]))
  refine Gl.st (fun t k => XS.iloadN X0.here hx rfl (hb hby d5_1) rfl  k) ?_
  show Gl _ _ _ _ _ _ _ (s₁.setTop (mkF m 2 #[.val (.ref a1), .val (.int (0 : Int32)), .val (.int p3), .val (.int p4)] [(.int p3), (.int (0 : Int32))]))
  by_cases hc2 : (0 : Int32) < p3
  · refine Gl.st (fun t k => XS.icmpYes X0.here hx rfl (pc0 := 2) (pc' := 23) rfl (hb hby d5_2) rfl (tlt hc2).1 (by decide) (by decide) k) ?_
    show Gl _ _ _ _ _ _ _ (s₁.setTop (mkF m 23 #[.val (.ref a1), .val (.int (0 : Int32)), .val (.int p3), .val (.int p4)] []))
    refine Gl.st (fun t k => XS.iconst X0.here hx rfl (hb hby d5_23) k) ?_
    show Gl _ _ _ _ _ _ _ (s₁.setTop (mkF m 24 #[.val (.ref a1), .val (.int (0 : Int32)), .val (.int p3), .val (.int p4)] [(.int (0 : Int32))]))
    exact Gl.retI X0 hx hlk Bd.returns (hb hby d5_24) (⟨congrArg (fun z => some (Value.int z)) (show (0 : Int32) = (own_break0 p3 p4 w0 w1 w2 w3) from by simp only [own_break0, if_pos hc2]), N0, e0⟩) (by decide) (by decide)
  · refine Gl.st (fun t k => XS.icmpNo X0.here hx rfl (hb hby d5_2) rfl (flt hc2).1 k) ?_
    show Gl _ _ _ _ _ _ _ (s₁.setTop (mkF m 5 #[.val (.ref a1), .val (.int (0 : Int32)), .val (.int p3), .val (.int p4)] []))
    refine Gl.st (fun t k => XS.iloadN X0.here hx rfl (hb hby d5_5) rfl  k) ?_
    show Gl _ _ _ _ _ _ _ (s₁.setTop (mkF m 6 #[.val (.ref a1), .val (.int (0 : Int32)), .val (.int p3), .val (.int p4)] [(.int (0 : Int32))]))
    refine Gl.st (fun t k => XS.iloadN X0.here hx rfl (hb hby d5_6) rfl  k) ?_
    show Gl _ _ _ _ _ _ _ (s₁.setTop (mkF m 7 #[.val (.ref a1), .val (.int (0 : Int32)), .val (.int p3), .val (.int p4)] [(.int p4), (.int (0 : Int32))]))
    by_cases hc7 : (0 : Int32) < p4
    · refine Gl.st (fun t k => XS.icmpNo X0.here hx rfl (hb hby d5_7) rfl (tlt hc7).2.1 k) ?_
      show Gl _ _ _ _ _ _ _ (s₁.setTop (mkF m 10 #[.val (.ref a1), .val (.int (0 : Int32)), .val (.int p3), .val (.int p4)] []))
      refine Gl.st (fun t k => XS.aloadN X0.here hx rfl (hb hby d5_10) rfl rfl k) ?_
      show Gl _ _ _ _ _ _ _ (s₁.setTop (mkF m 11 #[.val (.ref a1), .val (.int (0 : Int32)), .val (.int p3), .val (.int p4)] [(.ref a1)]))
      refine Gl.st (fun t k => XS.iloadN X0.here hx rfl (hb hby d5_11) rfl  k) ?_
      show Gl _ _ _ _ _ _ _ (s₁.setTop (mkF m 12 #[.val (.ref a1), .val (.int (0 : Int32)), .val (.int p3), .val (.int p4)] [(.int (0 : Int32)), (.ref a1)]))
      have Vx1 := Va
      obtain ⟨cl1, Ar1, qk1, S1, M1, H1, G1⟩ := Vx1
      have hin1 : ¬ ((0 : Int32) < 0 ∨ cl1.slots.size ≤ ((0 : Int32)).toNatClampNeg) := inb_of S1 ⟨by decide, by decide⟩
      have hat1 : cl1.slots[((0 : Int32)).toNatClampNeg]? = some (.int w0) := H1.at hin1 rfl
      refine Gl.st (X0.baloadBytes hx (j := (0 : Int32)) (v := (.int w0)) (by rw [e0]; exact Ar1.1) (State.isArrayOf_alike hZ.alike Ar1.2.1) Ar1.2.2 hin1 hat1 (g := (mkF m 12 #[.val (.ref a1), .val (.int (0 : Int32)), .val (.int p3), .val (.int p4)] [(.int (0 : Int32)), (.ref a1)])) rfl rfl (hb hby d5_12)) ?_
      show Gl _ _ _ _ _ _ _ (s₁.setTop (mkF m 13 #[.val (.ref a1), .val (.int (0 : Int32)), .val (.int p3), .val (.int p4)] [(.int w0)]))
      obtain ⟨_, _, ⟨T2, L2, k2, n2⟩, -, X2, ⟨Lc2, hQ2, l2, y2, z2⟩, st2⟩ := Jvm.LawKit.callS X0 hx (y := (⟨"com/example/millrace/millrace/ParserSkipSpacePinLaw", "brk", "(B)Z"⟩ : MethodName)) hown (mvT hZ (hw _ (List.mem_of_getElem? (i := 55) rfl))) (mvT hZ (hw _ (List.mem_of_getElem? (i := 56) rfl))) (mvT hZ (hw _ (List.mem_of_getElem? (i := 3) rfl))) (mvT hZ (hw _ (List.mem_of_getElem? (i := 57) rfl))) (by decide) (backOf (W := 0) (rm12 l Z a0 hw [] w0 h0 n0) hZ (hw _ (List.mem_of_getElem? (i := 57) rfl)) (hw _ (List.mem_of_getElem? (i := 3) rfl)) (by decide) (by decide)) (g := (mkF m 13 #[.val (.ref a1), .val (.int (0 : Int32)), .val (.int p3), .val (.int p4)] [(.int w0)])) rfl (by rw [hml]; rfl) (argsL := [(.int w0)]) (rest := []) (lenOf pd_0 rfl) rfl (by show 2 * 0 + _ ≤ _; exact Nat.le_of_eq rfl) (hb hby d5_13) (fun _ _ => ⟨rfl, e0, (by decide : 0 + 0 ≤ _), (by decide : 0 + 0 ≤ _)⟩)
      dsimp only [Pt.U, Pt.locs, Pt.cells, Pt.slots] at X2 l2 y2 z2 st2 hQ2
      rw [y2, z2] at X2
      obtain ⟨rfl, N2q, e2⟩ := hQ2
      have N2 : Fr n0 L2 := by rw [l2]; exact Fr.app N0 N2q
      refine Gl.st st2 ?_
      show Gl _ _ _ _ _ _ _ (T2.setTop (mkF m 16 #[.val (.ref a1), .val (.int (0 : Int32)), .val (.int p3), .val (.int p4)] [(.int (own_brk w0))]))
      by_cases hc16 : (own_brk w0) = (0 : Int32)
      · refine Gl.st (fun t k => XS.ifYes X2.here hx rfl (pc0 := 16) (pc' := 23) rfl (hb hby d5_16) rfl ((if0 _ _).trans (teq hc16).1) (by decide) (by decide) k) ?_
        show Gl _ _ _ _ _ _ _ (T2.setTop (mkF m 23 #[.val (.ref a1), .val (.int (0 : Int32)), .val (.int p3), .val (.int p4)] []))
        refine Gl.st (fun t k => XS.iconst X2.here hx rfl (hb hby d5_23) k) ?_
        show Gl _ _ _ _ _ _ _ (T2.setTop (mkF m 24 #[.val (.ref a1), .val (.int (0 : Int32)), .val (.int p3), .val (.int p4)] [(.int (0 : Int32))]))
        exact Gl.retI X2 hx hlk Bd.returns (hb hby d5_24) (⟨congrArg (fun z => some (Value.int z)) (show (0 : Int32) = (own_break0 p3 p4 w0 w1 w2 w3) from by simp only [own_break0, if_neg hc2, if_pos hc7, if_pos hc16]), N2, e2⟩) (by decide) (by decide)
      · refine Gl.st (fun t k => XS.ifNo X2.here hx rfl (hb hby d5_16) rfl ((if0 _ _).trans (feq hc16).1) k) ?_
        show Gl _ _ _ _ _ _ _ (T2.setTop (mkF m 19 #[.val (.ref a1), .val (.int (0 : Int32)), .val (.int p3), .val (.int p4)] []))
        refine Gl.st (fun t k => XS.iconst X2.here hx rfl (hb hby d5_19) k) ?_
        show Gl _ _ _ _ _ _ _ (T2.setTop (mkF m 20 #[.val (.ref a1), .val (.int (0 : Int32)), .val (.int p3), .val (.int p4)] [(.int (1 : Int32))]))
        refine Gl.st (fun t k => XS.goto X2.here hx rfl (pc0 := 20) (pc' := 24) rfl (hb hby d5_20) (by decide) (by decide) k) ?_
        show Gl _ _ _ _ _ _ _ (T2.setTop (mkF m 24 #[.val (.ref a1), .val (.int (0 : Int32)), .val (.int p3), .val (.int p4)] [(.int (1 : Int32))]))
        exact Gl.retI X2 hx hlk Bd.returns (hb hby d5_24) (⟨congrArg (fun z => some (Value.int z)) (show (1 : Int32) = (own_break0 p3 p4 w0 w1 w2 w3) from by simp only [own_break0, if_neg hc2, if_pos hc7, if_neg hc16]), N2, e2⟩) (by decide) (by decide)
    · refine Gl.st (fun t k => XS.icmpYes X0.here hx rfl (pc0 := 7) (pc' := 23) rfl (hb hby d5_7) rfl (flt hc7).2.1 (by decide) (by decide) k) ?_
      show Gl _ _ _ _ _ _ _ (s₁.setTop (mkF m 23 #[.val (.ref a1), .val (.int (0 : Int32)), .val (.int p3), .val (.int p4)] []))
      refine Gl.st (fun t k => XS.iconst X0.here hx rfl (hb hby d5_23) k) ?_
      show Gl _ _ _ _ _ _ _ (s₁.setTop (mkF m 24 #[.val (.ref a1), .val (.int (0 : Int32)), .val (.int p3), .val (.int p4)] [(.int (0 : Int32))]))
      exact Gl.retI X0 hx hlk Bd.returns (hb hby d5_24) (⟨congrArg (fun z => some (Value.int z)) (show (0 : Int32) = (own_break0 p3 p4 w0 w1 w2 w3) from by simp only [own_break0, if_neg hc2, if_neg hc7]), N0, e0⟩) (by decide) (by decide)
def own_break1 (p3 : Int32) (p4 : Int32) (w0 : Int32) (w1 : Int32) (w2 : Int32) (w3 : Int32) : Int32 := (if (1 : Int32) < p3 then (0 : Int32) else (if (1 : Int32) < p4 then (if (own_brk w1) = (0 : Int32) then (0 : Int32) else (1 : Int32)) else (0 : Int32)))
def Q5v1 (Z : State) (a1 : Addr) (p3 : Int32) (p4 : Int32) (ck : ClassId) (w0 : Int32) (w1 : Int32) (w2 : Int32) (w3 : Int32) (h0 : Heap) (n0 : Nat) (v : Option Value) (h : Heap) (L : List Loc) : Prop := v = some (.int (own_break1 p3 p4 w0 w1 w2 w3)) ∧ Fr n0 L ∧ h = h0
theorem ef_5v1 (m : MethodId) (a1 : Addr) (p3 : Int32) (p4 : Int32) : entryFrame m #[(.ref a1), (.int (1 : Int32)), (.int p3), (.int p4)] 4 = mkF m 0 #[.val (.ref a1), .val (.int (1 : Int32)), .val (.int p3), .val (.int p4)] [] := by first | (simp [entryFrame, mkF, argsToLocals, Value.category]; done) | rfl
set_option maxRecDepth 65536 in
set_option maxHeartbeats 40000000 in
theorem rm5v1 (l : Launch) (Z : State) (a0 : Array Value) (hw : ∀ d ∈ tables_1, d.before a0 Z = true) (ws : List Jvm.Cond) (a1 : Addr) (p3 : Int32) (p4 : Int32) (ck : ClassId) (w0 : Int32) (w1 : Int32) (w2 : Int32) (w3 : Int32) (h0 : Heap) (n0 : Nat) (Va : Arv Z h0 a1 ck .byte (4 : Int32) [(.int w0), (.int w1), (.int w2), (.int w3)] (.int (0 : Int32))) :
    MetFree l (⟨"com/example/millrace/millrace/ParserSkipSpacePinLaw", "breakAt", "([BIII)I"⟩ : MethodName) (head1 (Jvm.Cond.code (⟨"com/example/millrace/millrace/ParserSkipSpacePinLaw", "breakAt", "([BIII)I"⟩ : MethodName) method_6_code 4 (some .int) :: ws) ({ frames := 1, cells := 0, slots := 0, locals := 12 } : Room)) (fun a U => a = #[(.ref a1), (.int (1 : Int32)), (.int p3), (.int p4)] ∧ Z.Warmed39 U.vm ∧ U.heap = h0) (fun _ _ _ _ _ => True) (fun _ U o U' => ∃ v L, o = .returned v ∧ Q5v1 Z a1 p3 p4 ck w0 w1 w2 w3 h0 n0 v U'.heap L ∧ FrameEnd U o U' L ({ frames := 1, cells := 0, slots := 0, locals := 12 } : Room).cells ({ frames := 1, cells := 0, slots := 0, locals := 12 } : Room).slots) := by
  refine MetFree.of_bodySF pf_6 hisR ?_
  intro p e s m args below meth c s₁ Bd hml0 hP hK
  obtain ⟨rfl, hZ, hh⟩ := hP
  have hx := Bd.exec
  have hby := Bd.bytes
  have hlk : meth.locks = false := BodyLoose.notSynchronized Bd
  have hml : c.maxLocals = 4 := hml0
  have hown : s.vm.findClass "com/example/millrace/millrace/ParserSkipSpacePinLaw" = some m.cls := findClass_of_methodNamed Bd.named
  have hnm := (name_of_methodNamed Bd.named Bd.method).1
  have X0 : Stand p l e ({ frames := 1, cells := 0, slots := 0, locals := 12 } : Room) s m #[(.ref a1), (.int (1 : Int32)), (.int p3), (.int p4)] below meth c s₁ [] 0 0 := Stand.of_body Bd
  have e0 : s₁.heap = h0 := by rw [← hh, Bd.state]; rfl
  have N0 := Fr.nil n0
  show Gl p e below s (Q5v1 Z a1 p3 p4 ck w0 w1 w2 w3 h0 n0) ({ frames := 1, cells := 0, slots := 0, locals := 12 } : Room).cells ({ frames := 1, cells := 0, slots := 0, locals := 12 } : Room).slots (s₁.setTop (entryFrame m #[(.ref a1), (.int (1 : Int32)), (.int p3), (.int p4)] 4))
  rw [ef_5v1]
  show Gl _ _ _ _ _ _ _ (s₁.setTop (mkF m 0 #[.val (.ref a1), .val (.int (1 : Int32)), .val (.int p3), .val (.int p4)] []))
  refine Gl.st (fun t k => XS.iloadN X0.here hx rfl (hb hby d5_0) rfl  k) ?_
  show Gl _ _ _ _ _ _ _ (s₁.setTop (mkF m 1 #[.val (.ref a1), .val (.int (1 : Int32)), .val (.int p3), .val (.int p4)] [(.int (1 : Int32))]))
  refine Gl.st (fun t k => XS.iloadN X0.here hx rfl (hb hby d5_1) rfl  k) ?_
  show Gl _ _ _ _ _ _ _ (s₁.setTop (mkF m 2 #[.val (.ref a1), .val (.int (1 : Int32)), .val (.int p3), .val (.int p4)] [(.int p3), (.int (1 : Int32))]))
  by_cases hc2 : (1 : Int32) < p3
  · refine Gl.st (fun t k => XS.icmpYes X0.here hx rfl (pc0 := 2) (pc' := 23) rfl (hb hby d5_2) rfl (tlt hc2).1 (by decide) (by decide) k) ?_
    show Gl _ _ _ _ _ _ _ (s₁.setTop (mkF m 23 #[.val (.ref a1), .val (.int (1 : Int32)), .val (.int p3), .val (.int p4)] []))
    refine Gl.st (fun t k => XS.iconst X0.here hx rfl (hb hby d5_23) k) ?_
    show Gl _ _ _ _ _ _ _ (s₁.setTop (mkF m 24 #[.val (.ref a1), .val (.int (1 : Int32)), .val (.int p3), .val (.int p4)] [(.int (0 : Int32))]))
    exact Gl.retI X0 hx hlk Bd.returns (hb hby d5_24) (⟨congrArg (fun z => some (Value.int z)) (show (0 : Int32) = (own_break1 p3 p4 w0 w1 w2 w3) from by simp only [own_break1, if_pos hc2]), N0, e0⟩) (by decide) (by decide)
  · refine Gl.st (fun t k => XS.icmpNo X0.here hx rfl (hb hby d5_2) rfl (flt hc2).1 k) ?_
    show Gl _ _ _ _ _ _ _ (s₁.setTop (mkF m 5 #[.val (.ref a1), .val (.int (1 : Int32)), .val (.int p3), .val (.int p4)] []))
    refine Gl.st (fun t k => XS.iloadN X0.here hx rfl (hb hby d5_5) rfl  k) ?_
    show Gl _ _ _ _ _ _ _ (s₁.setTop (mkF m 6 #[.val (.ref a1), .val (.int (1 : Int32)), .val (.int p3), .val (.int p4)] [(.int (1 : Int32))]))
    refine Gl.st (fun t k => XS.iloadN X0.here hx rfl (hb hby d5_6) rfl  k) ?_
    show Gl _ _ _ _ _ _ _ (s₁.setTop (mkF m 7 #[.val (.ref a1), .val (.int (1 : Int32)), .val (.int p3), .val (.int p4)] [(.int p4), (.int (1 : Int32))]))
    by_cases hc7 : (1 : Int32) < p4
    · refine Gl.st (fun t k => XS.icmpNo X0.here hx rfl (hb hby d5_7) rfl (tlt hc7).2.1 k) ?_
      show Gl _ _ _ _ _ _ _ (s₁.setTop (mkF m 10 #[.val (.ref a1), .val (.int (1 : Int32)), .val (.int p3), .val (.int p4)] []))
      refine Gl.st (fun t k => XS.aloadN X0.here hx rfl (hb hby d5_10) rfl rfl k) ?_
      show Gl _ _ _ _ _ _ _ (s₁.setTop (mkF m 11 #[.val (.ref a1), .val (.int (1 : Int32)), .val (.int p3), .val (.int p4)] [(.ref a1)]))
      refine Gl.st (fun t k => XS.iloadN X0.here hx rfl (hb hby d5_11) rfl  k) ?_
      show Gl _ _ _ _ _ _ _ (s₁.setTop (mkF m 12 #[.val (.ref a1), .val (.int (1 : Int32)), .val (.int p3), .val (.int p4)] [(.int (1 : Int32)), (.ref a1)]))
      have Vx1 := Va
      obtain ⟨cl1, Ar1, qk1, S1, M1, H1, G1⟩ := Vx1
      have hin1 : ¬ ((1 : Int32) < 0 ∨ cl1.slots.size ≤ ((1 : Int32)).toNatClampNeg) := inb_of S1 ⟨by decide, by decide⟩
      have hat1 : cl1.slots[((1 : Int32)).toNatClampNeg]? = some (.int w1) := H1.at hin1 rfl
      refine Gl.st (X0.baloadBytes hx (j := (1 : Int32)) (v := (.int w1)) (by rw [e0]; exact Ar1.1) (State.isArrayOf_alike hZ.alike Ar1.2.1) Ar1.2.2 hin1 hat1 (g := (mkF m 12 #[.val (.ref a1), .val (.int (1 : Int32)), .val (.int p3), .val (.int p4)] [(.int (1 : Int32)), (.ref a1)])) rfl rfl (hb hby d5_12)) ?_
      show Gl _ _ _ _ _ _ _ (s₁.setTop (mkF m 13 #[.val (.ref a1), .val (.int (1 : Int32)), .val (.int p3), .val (.int p4)] [(.int w1)]))
      obtain ⟨_, _, ⟨T2, L2, k2, n2⟩, -, X2, ⟨Lc2, hQ2, l2, y2, z2⟩, st2⟩ := Jvm.LawKit.callS X0 hx (y := (⟨"com/example/millrace/millrace/ParserSkipSpacePinLaw", "brk", "(B)Z"⟩ : MethodName)) hown (mvT hZ (hw _ (List.mem_of_getElem? (i := 55) rfl))) (mvT hZ (hw _ (List.mem_of_getElem? (i := 56) rfl))) (mvT hZ (hw _ (List.mem_of_getElem? (i := 3) rfl))) (mvT hZ (hw _ (List.mem_of_getElem? (i := 57) rfl))) (by decide) (backOf (W := 0) (rm12 l Z a0 hw [] w1 h0 n0) hZ (hw _ (List.mem_of_getElem? (i := 57) rfl)) (hw _ (List.mem_of_getElem? (i := 3) rfl)) (by decide) (by decide)) (g := (mkF m 13 #[.val (.ref a1), .val (.int (1 : Int32)), .val (.int p3), .val (.int p4)] [(.int w1)])) rfl (by rw [hml]; rfl) (argsL := [(.int w1)]) (rest := []) (lenOf pd_0 rfl) rfl (by show 2 * 0 + _ ≤ _; exact Nat.le_of_eq rfl) (hb hby d5_13) (fun _ _ => ⟨rfl, e0, (by decide : 0 + 0 ≤ _), (by decide : 0 + 0 ≤ _)⟩)
      dsimp only [Pt.U, Pt.locs, Pt.cells, Pt.slots] at X2 l2 y2 z2 st2 hQ2
      rw [y2, z2] at X2
      obtain ⟨rfl, N2q, e2⟩ := hQ2
      have N2 : Fr n0 L2 := by rw [l2]; exact Fr.app N0 N2q
      refine Gl.st st2 ?_
      show Gl _ _ _ _ _ _ _ (T2.setTop (mkF m 16 #[.val (.ref a1), .val (.int (1 : Int32)), .val (.int p3), .val (.int p4)] [(.int (own_brk w1))]))
      by_cases hc16 : (own_brk w1) = (0 : Int32)
      · refine Gl.st (fun t k => XS.ifYes X2.here hx rfl (pc0 := 16) (pc' := 23) rfl (hb hby d5_16) rfl ((if0 _ _).trans (teq hc16).1) (by decide) (by decide) k) ?_
        show Gl _ _ _ _ _ _ _ (T2.setTop (mkF m 23 #[.val (.ref a1), .val (.int (1 : Int32)), .val (.int p3), .val (.int p4)] []))
        refine Gl.st (fun t k => XS.iconst X2.here hx rfl (hb hby d5_23) k) ?_
        show Gl _ _ _ _ _ _ _ (T2.setTop (mkF m 24 #[.val (.ref a1), .val (.int (1 : Int32)), .val (.int p3), .val (.int p4)] [(.int (0 : Int32))]))
        exact Gl.retI X2 hx hlk Bd.returns (hb hby d5_24) (⟨congrArg (fun z => some (Value.int z)) (show (0 : Int32) = (own_break1 p3 p4 w0 w1 w2 w3) from by simp only [own_break1, if_neg hc2, if_pos hc7, if_pos hc16]), N2, e2⟩) (by decide) (by decide)
      · refine Gl.st (fun t k => XS.ifNo X2.here hx rfl (hb hby d5_16) rfl ((if0 _ _).trans (feq hc16).1) k) ?_
        show Gl _ _ _ _ _ _ _ (T2.setTop (mkF m 19 #[.val (.ref a1), .val (.int (1 : Int32)), .val (.int p3), .val (.int p4)] []))
        refine Gl.st (fun t k => XS.iconst X2.here hx rfl (hb hby d5_19) k) ?_
        show Gl _ _ _ _ _ _ _ (T2.setTop (mkF m 20 #[.val (.ref a1), .val (.int (1 : Int32)), .val (.int p3), .val (.int p4)] [(.int (1 : Int32))]))
        refine Gl.st (fun t k => XS.goto X2.here hx rfl (pc0 := 20) (pc' := 24) rfl (hb hby d5_20) (by decide) (by decide) k) ?_
        show Gl _ _ _ _ _ _ _ (T2.setTop (mkF m 24 #[.val (.ref a1), .val (.int (1 : Int32)), .val (.int p3), .val (.int p4)] [(.int (1 : Int32))]))
        exact Gl.retI X2 hx hlk Bd.returns (hb hby d5_24) (⟨congrArg (fun z => some (Value.int z)) (show (1 : Int32) = (own_break1 p3 p4 w0 w1 w2 w3) from by simp only [own_break1, if_neg hc2, if_pos hc7, if_neg hc16]), N2, e2⟩) (by decide) (by decide)
    · refine Gl.st (fun t k => XS.icmpYes X0.here hx rfl (pc0 := 7) (pc' := 23) rfl (hb hby d5_7) rfl (flt hc7).2.1 (by decide) (by decide) k) ?_
      show Gl _ _ _ _ _ _ _ (s₁.setTop (mkF m 23 #[.val (.ref a1), .val (.int (1 : Int32)), .val (.int p3), .val (.int p4)] []))
      refine Gl.st (fun t k => XS.iconst X0.here hx rfl (hb hby d5_23) k) ?_
      show Gl _ _ _ _ _ _ _ (s₁.setTop (mkF m 24 #[.val (.ref a1), .val (.int (1 : Int32)), .val (.int p3), .val (.int p4)] [(.int (0 : Int32))]))
      exact Gl.retI X0 hx hlk Bd.returns (hb hby d5_24) (⟨congrArg (fun z => some (Value.int z)) (show (0 : Int32) = (own_break1 p3 p4 w0 w1 w2 w3) from by simp only [own_break1, if_neg hc2, if_neg hc7]), N0, e0⟩) (by decide) (by decide)
def own_break2 (p3 : Int32) (p4 : Int32) (w0 : Int32) (w1 : Int32) (w2 : Int32) (w3 : Int32) : Int32 := (if (2 : Int32) < p3 then (0 : Int32) else (if (2 : Int32) < p4 then (if (own_brk w2) = (0 : Int32) then (0 : Int32) else (1 : Int32)) else (0 : Int32)))
def Q5v2 (Z : State) (a1 : Addr) (p3 : Int32) (p4 : Int32) (ck : ClassId) (w0 : Int32) (w1 : Int32) (w2 : Int32) (w3 : Int32) (h0 : Heap) (n0 : Nat) (v : Option Value) (h : Heap) (L : List Loc) : Prop := v = some (.int (own_break2 p3 p4 w0 w1 w2 w3)) ∧ Fr n0 L ∧ h = h0
theorem ef_5v2 (m : MethodId) (a1 : Addr) (p3 : Int32) (p4 : Int32) : entryFrame m #[(.ref a1), (.int (2 : Int32)), (.int p3), (.int p4)] 4 = mkF m 0 #[.val (.ref a1), .val (.int (2 : Int32)), .val (.int p3), .val (.int p4)] [] := by first | (simp [entryFrame, mkF, argsToLocals, Value.category]; done) | rfl
set_option maxRecDepth 65536 in
set_option maxHeartbeats 40000000 in
theorem rm5v2 (l : Launch) (Z : State) (a0 : Array Value) (hw : ∀ d ∈ tables_1, d.before a0 Z = true) (ws : List Jvm.Cond) (a1 : Addr) (p3 : Int32) (p4 : Int32) (ck : ClassId) (w0 : Int32) (w1 : Int32) (w2 : Int32) (w3 : Int32) (h0 : Heap) (n0 : Nat) (Va : Arv Z h0 a1 ck .byte (4 : Int32) [(.int w0), (.int w1), (.int w2), (.int w3)] (.int (0 : Int32))) :
    MetFree l (⟨"com/example/millrace/millrace/ParserSkipSpacePinLaw", "breakAt", "([BIII)I"⟩ : MethodName) (head1 (Jvm.Cond.code (⟨"com/example/millrace/millrace/ParserSkipSpacePinLaw", "breakAt", "([BIII)I"⟩ : MethodName) method_6_code 4 (some .int) :: ws) ({ frames := 1, cells := 0, slots := 0, locals := 12 } : Room)) (fun a U => a = #[(.ref a1), (.int (2 : Int32)), (.int p3), (.int p4)] ∧ Z.Warmed39 U.vm ∧ U.heap = h0) (fun _ _ _ _ _ => True) (fun _ U o U' => ∃ v L, o = .returned v ∧ Q5v2 Z a1 p3 p4 ck w0 w1 w2 w3 h0 n0 v U'.heap L ∧ FrameEnd U o U' L ({ frames := 1, cells := 0, slots := 0, locals := 12 } : Room).cells ({ frames := 1, cells := 0, slots := 0, locals := 12 } : Room).slots) := by
  refine MetFree.of_bodySF pf_6 hisR ?_
  intro p e s m args below meth c s₁ Bd hml0 hP hK
  obtain ⟨rfl, hZ, hh⟩ := hP
  have hx := Bd.exec
  have hby := Bd.bytes
  have hlk : meth.locks = false := BodyLoose.notSynchronized Bd
  have hml : c.maxLocals = 4 := hml0
  have hown : s.vm.findClass "com/example/millrace/millrace/ParserSkipSpacePinLaw" = some m.cls := findClass_of_methodNamed Bd.named
  have hnm := (name_of_methodNamed Bd.named Bd.method).1
  have X0 : Stand p l e ({ frames := 1, cells := 0, slots := 0, locals := 12 } : Room) s m #[(.ref a1), (.int (2 : Int32)), (.int p3), (.int p4)] below meth c s₁ [] 0 0 := Stand.of_body Bd
  have e0 : s₁.heap = h0 := by rw [← hh, Bd.state]; rfl
  have N0 := Fr.nil n0
  show Gl p e below s (Q5v2 Z a1 p3 p4 ck w0 w1 w2 w3 h0 n0) ({ frames := 1, cells := 0, slots := 0, locals := 12 } : Room).cells ({ frames := 1, cells := 0, slots := 0, locals := 12 } : Room).slots (s₁.setTop (entryFrame m #[(.ref a1), (.int (2 : Int32)), (.int p3), (.int p4)] 4))
  rw [ef_5v2]
  show Gl _ _ _ _ _ _ _ (s₁.setTop (mkF m 0 #[.val (.ref a1), .val (.int (2 : Int32)), .val (.int p3), .val (.int p4)] []))
  refine Gl.st (fun t k => XS.iloadN X0.here hx rfl (hb hby d5_0) rfl  k) ?_
  show Gl _ _ _ _ _ _ _ (s₁.setTop (mkF m 1 #[.val (.ref a1), .val (.int (2 : Int32)), .val (.int p3), .val (.int p4)] [(.int (2 : Int32))]))
  refine Gl.st (fun t k => XS.iloadN X0.here hx rfl (hb hby d5_1) rfl  k) ?_
  show Gl _ _ _ _ _ _ _ (s₁.setTop (mkF m 2 #[.val (.ref a1), .val (.int (2 : Int32)), .val (.int p3), .val (.int p4)] [(.int p3), (.int (2 : Int32))]))
  by_cases hc2 : (2 : Int32) < p3
  · refine Gl.st (fun t k => XS.icmpYes X0.here hx rfl (pc0 := 2) (pc' := 23) rfl (hb hby d5_2) rfl (tlt hc2).1 (by decide) (by decide) k) ?_
    show Gl _ _ _ _ _ _ _ (s₁.setTop (mkF m 23 #[.val (.ref a1), .val (.int (2 : Int32)), .val (.int p3), .val (.int p4)] []))
    refine Gl.st (fun t k => XS.iconst X0.here hx rfl (hb hby d5_23) k) ?_
    show Gl _ _ _ _ _ _ _ (s₁.setTop (mkF m 24 #[.val (.ref a1), .val (.int (2 : Int32)), .val (.int p3), .val (.int p4)] [(.int (0 : Int32))]))
    exact Gl.retI X0 hx hlk Bd.returns (hb hby d5_24) (⟨congrArg (fun z => some (Value.int z)) (show (0 : Int32) = (own_break2 p3 p4 w0 w1 w2 w3) from by simp only [own_break2, if_pos hc2]), N0, e0⟩) (by decide) (by decide)
  · refine Gl.st (fun t k => XS.icmpNo X0.here hx rfl (hb hby d5_2) rfl (flt hc2).1 k) ?_
    show Gl _ _ _ _ _ _ _ (s₁.setTop (mkF m 5 #[.val (.ref a1), .val (.int (2 : Int32)), .val (.int p3), .val (.int p4)] []))
    refine Gl.st (fun t k => XS.iloadN X0.here hx rfl (hb hby d5_5) rfl  k) ?_
    show Gl _ _ _ _ _ _ _ (s₁.setTop (mkF m 6 #[.val (.ref a1), .val (.int (2 : Int32)), .val (.int p3), .val (.int p4)] [(.int (2 : Int32))]))
    refine Gl.st (fun t k => XS.iloadN X0.here hx rfl (hb hby d5_6) rfl  k) ?_
    show Gl _ _ _ _ _ _ _ (s₁.setTop (mkF m 7 #[.val (.ref a1), .val (.int (2 : Int32)), .val (.int p3), .val (.int p4)] [(.int p4), (.int (2 : Int32))]))
    by_cases hc7 : (2 : Int32) < p4
    · refine Gl.st (fun t k => XS.icmpNo X0.here hx rfl (hb hby d5_7) rfl (tlt hc7).2.1 k) ?_
      show Gl _ _ _ _ _ _ _ (s₁.setTop (mkF m 10 #[.val (.ref a1), .val (.int (2 : Int32)), .val (.int p3), .val (.int p4)] []))
      refine Gl.st (fun t k => XS.aloadN X0.here hx rfl (hb hby d5_10) rfl rfl k) ?_
      show Gl _ _ _ _ _ _ _ (s₁.setTop (mkF m 11 #[.val (.ref a1), .val (.int (2 : Int32)), .val (.int p3), .val (.int p4)] [(.ref a1)]))
      refine Gl.st (fun t k => XS.iloadN X0.here hx rfl (hb hby d5_11) rfl  k) ?_
      show Gl _ _ _ _ _ _ _ (s₁.setTop (mkF m 12 #[.val (.ref a1), .val (.int (2 : Int32)), .val (.int p3), .val (.int p4)] [(.int (2 : Int32)), (.ref a1)]))
      have Vx1 := Va
      obtain ⟨cl1, Ar1, qk1, S1, M1, H1, G1⟩ := Vx1
      have hin1 : ¬ ((2 : Int32) < 0 ∨ cl1.slots.size ≤ ((2 : Int32)).toNatClampNeg) := inb_of S1 ⟨by decide, by decide⟩
      have hat1 : cl1.slots[((2 : Int32)).toNatClampNeg]? = some (.int w2) := H1.at hin1 rfl
      refine Gl.st (X0.baloadBytes hx (j := (2 : Int32)) (v := (.int w2)) (by rw [e0]; exact Ar1.1) (State.isArrayOf_alike hZ.alike Ar1.2.1) Ar1.2.2 hin1 hat1 (g := (mkF m 12 #[.val (.ref a1), .val (.int (2 : Int32)), .val (.int p3), .val (.int p4)] [(.int (2 : Int32)), (.ref a1)])) rfl rfl (hb hby d5_12)) ?_
      show Gl _ _ _ _ _ _ _ (s₁.setTop (mkF m 13 #[.val (.ref a1), .val (.int (2 : Int32)), .val (.int p3), .val (.int p4)] [(.int w2)]))
      obtain ⟨_, _, ⟨T2, L2, k2, n2⟩, -, X2, ⟨Lc2, hQ2, l2, y2, z2⟩, st2⟩ := Jvm.LawKit.callS X0 hx (y := (⟨"com/example/millrace/millrace/ParserSkipSpacePinLaw", "brk", "(B)Z"⟩ : MethodName)) hown (mvT hZ (hw _ (List.mem_of_getElem? (i := 55) rfl))) (mvT hZ (hw _ (List.mem_of_getElem? (i := 56) rfl))) (mvT hZ (hw _ (List.mem_of_getElem? (i := 3) rfl))) (mvT hZ (hw _ (List.mem_of_getElem? (i := 57) rfl))) (by decide) (backOf (W := 0) (rm12 l Z a0 hw [] w2 h0 n0) hZ (hw _ (List.mem_of_getElem? (i := 57) rfl)) (hw _ (List.mem_of_getElem? (i := 3) rfl)) (by decide) (by decide)) (g := (mkF m 13 #[.val (.ref a1), .val (.int (2 : Int32)), .val (.int p3), .val (.int p4)] [(.int w2)])) rfl (by rw [hml]; rfl) (argsL := [(.int w2)]) (rest := []) (lenOf pd_0 rfl) rfl (by show 2 * 0 + _ ≤ _; exact Nat.le_of_eq rfl) (hb hby d5_13) (fun _ _ => ⟨rfl, e0, (by decide : 0 + 0 ≤ _), (by decide : 0 + 0 ≤ _)⟩)
      dsimp only [Pt.U, Pt.locs, Pt.cells, Pt.slots] at X2 l2 y2 z2 st2 hQ2
      rw [y2, z2] at X2
      obtain ⟨rfl, N2q, e2⟩ := hQ2
      have N2 : Fr n0 L2 := by rw [l2]; exact Fr.app N0 N2q
      refine Gl.st st2 ?_
      show Gl _ _ _ _ _ _ _ (T2.setTop (mkF m 16 #[.val (.ref a1), .val (.int (2 : Int32)), .val (.int p3), .val (.int p4)] [(.int (own_brk w2))]))
      by_cases hc16 : (own_brk w2) = (0 : Int32)
      · refine Gl.st (fun t k => XS.ifYes X2.here hx rfl (pc0 := 16) (pc' := 23) rfl (hb hby d5_16) rfl ((if0 _ _).trans (teq hc16).1) (by decide) (by decide) k) ?_
        show Gl _ _ _ _ _ _ _ (T2.setTop (mkF m 23 #[.val (.ref a1), .val (.int (2 : Int32)), .val (.int p3), .val (.int p4)] []))
        refine Gl.st (fun t k => XS.iconst X2.here hx rfl (hb hby d5_23) k) ?_
        show Gl _ _ _ _ _ _ _ (T2.setTop (mkF m 24 #[.val (.ref a1), .val (.int (2 : Int32)), .val (.int p3), .val (.int p4)] [(.int (0 : Int32))]))
        exact Gl.retI X2 hx hlk Bd.returns (hb hby d5_24) (⟨congrArg (fun z => some (Value.int z)) (show (0 : Int32) = (own_break2 p3 p4 w0 w1 w2 w3) from by simp only [own_break2, if_neg hc2, if_pos hc7, if_pos hc16]), N2, e2⟩) (by decide) (by decide)
      · refine Gl.st (fun t k => XS.ifNo X2.here hx rfl (hb hby d5_16) rfl ((if0 _ _).trans (feq hc16).1) k) ?_
        show Gl _ _ _ _ _ _ _ (T2.setTop (mkF m 19 #[.val (.ref a1), .val (.int (2 : Int32)), .val (.int p3), .val (.int p4)] []))
        refine Gl.st (fun t k => XS.iconst X2.here hx rfl (hb hby d5_19) k) ?_
        show Gl _ _ _ _ _ _ _ (T2.setTop (mkF m 20 #[.val (.ref a1), .val (.int (2 : Int32)), .val (.int p3), .val (.int p4)] [(.int (1 : Int32))]))
        refine Gl.st (fun t k => XS.goto X2.here hx rfl (pc0 := 20) (pc' := 24) rfl (hb hby d5_20) (by decide) (by decide) k) ?_
        show Gl _ _ _ _ _ _ _ (T2.setTop (mkF m 24 #[.val (.ref a1), .val (.int (2 : Int32)), .val (.int p3), .val (.int p4)] [(.int (1 : Int32))]))
        exact Gl.retI X2 hx hlk Bd.returns (hb hby d5_24) (⟨congrArg (fun z => some (Value.int z)) (show (1 : Int32) = (own_break2 p3 p4 w0 w1 w2 w3) from by simp only [own_break2, if_neg hc2, if_pos hc7, if_neg hc16]), N2, e2⟩) (by decide) (by decide)
    · refine Gl.st (fun t k => XS.icmpYes X0.here hx rfl (pc0 := 7) (pc' := 23) rfl (hb hby d5_7) rfl (flt hc7).2.1 (by decide) (by decide) k) ?_
      show Gl _ _ _ _ _ _ _ (s₁.setTop (mkF m 23 #[.val (.ref a1), .val (.int (2 : Int32)), .val (.int p3), .val (.int p4)] []))
      refine Gl.st (fun t k => XS.iconst X0.here hx rfl (hb hby d5_23) k) ?_
      show Gl _ _ _ _ _ _ _ (s₁.setTop (mkF m 24 #[.val (.ref a1), .val (.int (2 : Int32)), .val (.int p3), .val (.int p4)] [(.int (0 : Int32))]))
      exact Gl.retI X0 hx hlk Bd.returns (hb hby d5_24) (⟨congrArg (fun z => some (Value.int z)) (show (0 : Int32) = (own_break2 p3 p4 w0 w1 w2 w3) from by simp only [own_break2, if_neg hc2, if_neg hc7]), N0, e0⟩) (by decide) (by decide)
def own_break3 (p3 : Int32) (p4 : Int32) (w0 : Int32) (w1 : Int32) (w2 : Int32) (w3 : Int32) : Int32 := (if (3 : Int32) < p3 then (0 : Int32) else (if (3 : Int32) < p4 then (if (own_brk w3) = (0 : Int32) then (0 : Int32) else (1 : Int32)) else (0 : Int32)))
def Q5v3 (Z : State) (a1 : Addr) (p3 : Int32) (p4 : Int32) (ck : ClassId) (w0 : Int32) (w1 : Int32) (w2 : Int32) (w3 : Int32) (h0 : Heap) (n0 : Nat) (v : Option Value) (h : Heap) (L : List Loc) : Prop := v = some (.int (own_break3 p3 p4 w0 w1 w2 w3)) ∧ Fr n0 L ∧ h = h0
theorem ef_5v3 (m : MethodId) (a1 : Addr) (p3 : Int32) (p4 : Int32) : entryFrame m #[(.ref a1), (.int (3 : Int32)), (.int p3), (.int p4)] 4 = mkF m 0 #[.val (.ref a1), .val (.int (3 : Int32)), .val (.int p3), .val (.int p4)] [] := by first | (simp [entryFrame, mkF, argsToLocals, Value.category]; done) | rfl
set_option maxRecDepth 65536 in
set_option maxHeartbeats 40000000 in
theorem rm5v3 (l : Launch) (Z : State) (a0 : Array Value) (hw : ∀ d ∈ tables_1, d.before a0 Z = true) (ws : List Jvm.Cond) (a1 : Addr) (p3 : Int32) (p4 : Int32) (ck : ClassId) (w0 : Int32) (w1 : Int32) (w2 : Int32) (w3 : Int32) (h0 : Heap) (n0 : Nat) (Va : Arv Z h0 a1 ck .byte (4 : Int32) [(.int w0), (.int w1), (.int w2), (.int w3)] (.int (0 : Int32))) :
    MetFree l (⟨"com/example/millrace/millrace/ParserSkipSpacePinLaw", "breakAt", "([BIII)I"⟩ : MethodName) (head1 (Jvm.Cond.code (⟨"com/example/millrace/millrace/ParserSkipSpacePinLaw", "breakAt", "([BIII)I"⟩ : MethodName) method_6_code 4 (some .int) :: ws) ({ frames := 1, cells := 0, slots := 0, locals := 12 } : Room)) (fun a U => a = #[(.ref a1), (.int (3 : Int32)), (.int p3), (.int p4)] ∧ Z.Warmed39 U.vm ∧ U.heap = h0) (fun _ _ _ _ _ => True) (fun _ U o U' => ∃ v L, o = .returned v ∧ Q5v3 Z a1 p3 p4 ck w0 w1 w2 w3 h0 n0 v U'.heap L ∧ FrameEnd U o U' L ({ frames := 1, cells := 0, slots := 0, locals := 12 } : Room).cells ({ frames := 1, cells := 0, slots := 0, locals := 12 } : Room).slots) := by
  refine MetFree.of_bodySF pf_6 hisR ?_
  intro p e s m args below meth c s₁ Bd hml0 hP hK
  obtain ⟨rfl, hZ, hh⟩ := hP
  have hx := Bd.exec
  have hby := Bd.bytes
  have hlk : meth.locks = false := BodyLoose.notSynchronized Bd
  have hml : c.maxLocals = 4 := hml0
  have hown : s.vm.findClass "com/example/millrace/millrace/ParserSkipSpacePinLaw" = some m.cls := findClass_of_methodNamed Bd.named
  have hnm := (name_of_methodNamed Bd.named Bd.method).1
  have X0 : Stand p l e ({ frames := 1, cells := 0, slots := 0, locals := 12 } : Room) s m #[(.ref a1), (.int (3 : Int32)), (.int p3), (.int p4)] below meth c s₁ [] 0 0 := Stand.of_body Bd
  have e0 : s₁.heap = h0 := by rw [← hh, Bd.state]; rfl
  have N0 := Fr.nil n0
  show Gl p e below s (Q5v3 Z a1 p3 p4 ck w0 w1 w2 w3 h0 n0) ({ frames := 1, cells := 0, slots := 0, locals := 12 } : Room).cells ({ frames := 1, cells := 0, slots := 0, locals := 12 } : Room).slots (s₁.setTop (entryFrame m #[(.ref a1), (.int (3 : Int32)), (.int p3), (.int p4)] 4))
  rw [ef_5v3]
  show Gl _ _ _ _ _ _ _ (s₁.setTop (mkF m 0 #[.val (.ref a1), .val (.int (3 : Int32)), .val (.int p3), .val (.int p4)] []))
  refine Gl.st (fun t k => XS.iloadN X0.here hx rfl (hb hby d5_0) rfl  k) ?_
  show Gl _ _ _ _ _ _ _ (s₁.setTop (mkF m 1 #[.val (.ref a1), .val (.int (3 : Int32)), .val (.int p3), .val (.int p4)] [(.int (3 : Int32))]))
  refine Gl.st (fun t k => XS.iloadN X0.here hx rfl (hb hby d5_1) rfl  k) ?_
  show Gl _ _ _ _ _ _ _ (s₁.setTop (mkF m 2 #[.val (.ref a1), .val (.int (3 : Int32)), .val (.int p3), .val (.int p4)] [(.int p3), (.int (3 : Int32))]))
  by_cases hc2 : (3 : Int32) < p3
  · refine Gl.st (fun t k => XS.icmpYes X0.here hx rfl (pc0 := 2) (pc' := 23) rfl (hb hby d5_2) rfl (tlt hc2).1 (by decide) (by decide) k) ?_
    show Gl _ _ _ _ _ _ _ (s₁.setTop (mkF m 23 #[.val (.ref a1), .val (.int (3 : Int32)), .val (.int p3), .val (.int p4)] []))
    refine Gl.st (fun t k => XS.iconst X0.here hx rfl (hb hby d5_23) k) ?_
    show Gl _ _ _ _ _ _ _ (s₁.setTop (mkF m 24 #[.val (.ref a1), .val (.int (3 : Int32)), .val (.int p3), .val (.int p4)] [(.int (0 : Int32))]))
    exact Gl.retI X0 hx hlk Bd.returns (hb hby d5_24) (⟨congrArg (fun z => some (Value.int z)) (show (0 : Int32) = (own_break3 p3 p4 w0 w1 w2 w3) from by simp only [own_break3, if_pos hc2]), N0, e0⟩) (by decide) (by decide)
  · refine Gl.st (fun t k => XS.icmpNo X0.here hx rfl (hb hby d5_2) rfl (flt hc2).1 k) ?_
    show Gl _ _ _ _ _ _ _ (s₁.setTop (mkF m 5 #[.val (.ref a1), .val (.int (3 : Int32)), .val (.int p3), .val (.int p4)] []))
    refine Gl.st (fun t k => XS.iloadN X0.here hx rfl (hb hby d5_5) rfl  k) ?_
    show Gl _ _ _ _ _ _ _ (s₁.setTop (mkF m 6 #[.val (.ref a1), .val (.int (3 : Int32)), .val (.int p3), .val (.int p4)] [(.int (3 : Int32))]))
    refine Gl.st (fun t k => XS.iloadN X0.here hx rfl (hb hby d5_6) rfl  k) ?_
    show Gl _ _ _ _ _ _ _ (s₁.setTop (mkF m 7 #[.val (.ref a1), .val (.int (3 : Int32)), .val (.int p3), .val (.int p4)] [(.int p4), (.int (3 : Int32))]))
    by_cases hc7 : (3 : Int32) < p4
    · refine Gl.st (fun t k => XS.icmpNo X0.here hx rfl (hb hby d5_7) rfl (tlt hc7).2.1 k) ?_
      show Gl _ _ _ _ _ _ _ (s₁.setTop (mkF m 10 #[.val (.ref a1), .val (.int (3 : Int32)), .val (.int p3), .val (.int p4)] []))
      refine Gl.st (fun t k => XS.aloadN X0.here hx rfl (hb hby d5_10) rfl rfl k) ?_
      show Gl _ _ _ _ _ _ _ (s₁.setTop (mkF m 11 #[.val (.ref a1), .val (.int (3 : Int32)), .val (.int p3), .val (.int p4)] [(.ref a1)]))
      refine Gl.st (fun t k => XS.iloadN X0.here hx rfl (hb hby d5_11) rfl  k) ?_
      show Gl _ _ _ _ _ _ _ (s₁.setTop (mkF m 12 #[.val (.ref a1), .val (.int (3 : Int32)), .val (.int p3), .val (.int p4)] [(.int (3 : Int32)), (.ref a1)]))
      have Vx1 := Va
      obtain ⟨cl1, Ar1, qk1, S1, M1, H1, G1⟩ := Vx1
      have hin1 : ¬ ((3 : Int32) < 0 ∨ cl1.slots.size ≤ ((3 : Int32)).toNatClampNeg) := inb_of S1 ⟨by decide, by decide⟩
      have hat1 : cl1.slots[((3 : Int32)).toNatClampNeg]? = some (.int w3) := H1.at hin1 rfl
      refine Gl.st (X0.baloadBytes hx (j := (3 : Int32)) (v := (.int w3)) (by rw [e0]; exact Ar1.1) (State.isArrayOf_alike hZ.alike Ar1.2.1) Ar1.2.2 hin1 hat1 (g := (mkF m 12 #[.val (.ref a1), .val (.int (3 : Int32)), .val (.int p3), .val (.int p4)] [(.int (3 : Int32)), (.ref a1)])) rfl rfl (hb hby d5_12)) ?_
      show Gl _ _ _ _ _ _ _ (s₁.setTop (mkF m 13 #[.val (.ref a1), .val (.int (3 : Int32)), .val (.int p3), .val (.int p4)] [(.int w3)]))
      obtain ⟨_, _, ⟨T2, L2, k2, n2⟩, -, X2, ⟨Lc2, hQ2, l2, y2, z2⟩, st2⟩ := Jvm.LawKit.callS X0 hx (y := (⟨"com/example/millrace/millrace/ParserSkipSpacePinLaw", "brk", "(B)Z"⟩ : MethodName)) hown (mvT hZ (hw _ (List.mem_of_getElem? (i := 55) rfl))) (mvT hZ (hw _ (List.mem_of_getElem? (i := 56) rfl))) (mvT hZ (hw _ (List.mem_of_getElem? (i := 3) rfl))) (mvT hZ (hw _ (List.mem_of_getElem? (i := 57) rfl))) (by decide) (backOf (W := 0) (rm12 l Z a0 hw [] w3 h0 n0) hZ (hw _ (List.mem_of_getElem? (i := 57) rfl)) (hw _ (List.mem_of_getElem? (i := 3) rfl)) (by decide) (by decide)) (g := (mkF m 13 #[.val (.ref a1), .val (.int (3 : Int32)), .val (.int p3), .val (.int p4)] [(.int w3)])) rfl (by rw [hml]; rfl) (argsL := [(.int w3)]) (rest := []) (lenOf pd_0 rfl) rfl (by show 2 * 0 + _ ≤ _; exact Nat.le_of_eq rfl) (hb hby d5_13) (fun _ _ => ⟨rfl, e0, (by decide : 0 + 0 ≤ _), (by decide : 0 + 0 ≤ _)⟩)
      dsimp only [Pt.U, Pt.locs, Pt.cells, Pt.slots] at X2 l2 y2 z2 st2 hQ2
      rw [y2, z2] at X2
      obtain ⟨rfl, N2q, e2⟩ := hQ2
      have N2 : Fr n0 L2 := by rw [l2]; exact Fr.app N0 N2q
      refine Gl.st st2 ?_
      show Gl _ _ _ _ _ _ _ (T2.setTop (mkF m 16 #[.val (.ref a1), .val (.int (3 : Int32)), .val (.int p3), .val (.int p4)] [(.int (own_brk w3))]))
      by_cases hc16 : (own_brk w3) = (0 : Int32)
      · refine Gl.st (fun t k => XS.ifYes X2.here hx rfl (pc0 := 16) (pc' := 23) rfl (hb hby d5_16) rfl ((if0 _ _).trans (teq hc16).1) (by decide) (by decide) k) ?_
        show Gl _ _ _ _ _ _ _ (T2.setTop (mkF m 23 #[.val (.ref a1), .val (.int (3 : Int32)), .val (.int p3), .val (.int p4)] []))
        refine Gl.st (fun t k => XS.iconst X2.here hx rfl (hb hby d5_23) k) ?_
        show Gl _ _ _ _ _ _ _ (T2.setTop (mkF m 24 #[.val (.ref a1), .val (.int (3 : Int32)), .val (.int p3), .val (.int p4)] [(.int (0 : Int32))]))
        exact Gl.retI X2 hx hlk Bd.returns (hb hby d5_24) (⟨congrArg (fun z => some (Value.int z)) (show (0 : Int32) = (own_break3 p3 p4 w0 w1 w2 w3) from by simp only [own_break3, if_neg hc2, if_pos hc7, if_pos hc16]), N2, e2⟩) (by decide) (by decide)
      · refine Gl.st (fun t k => XS.ifNo X2.here hx rfl (hb hby d5_16) rfl ((if0 _ _).trans (feq hc16).1) k) ?_
        show Gl _ _ _ _ _ _ _ (T2.setTop (mkF m 19 #[.val (.ref a1), .val (.int (3 : Int32)), .val (.int p3), .val (.int p4)] []))
        refine Gl.st (fun t k => XS.iconst X2.here hx rfl (hb hby d5_19) k) ?_
        show Gl _ _ _ _ _ _ _ (T2.setTop (mkF m 20 #[.val (.ref a1), .val (.int (3 : Int32)), .val (.int p3), .val (.int p4)] [(.int (1 : Int32))]))
        refine Gl.st (fun t k => XS.goto X2.here hx rfl (pc0 := 20) (pc' := 24) rfl (hb hby d5_20) (by decide) (by decide) k) ?_
        show Gl _ _ _ _ _ _ _ (T2.setTop (mkF m 24 #[.val (.ref a1), .val (.int (3 : Int32)), .val (.int p3), .val (.int p4)] [(.int (1 : Int32))]))
        exact Gl.retI X2 hx hlk Bd.returns (hb hby d5_24) (⟨congrArg (fun z => some (Value.int z)) (show (1 : Int32) = (own_break3 p3 p4 w0 w1 w2 w3) from by simp only [own_break3, if_neg hc2, if_pos hc7, if_neg hc16]), N2, e2⟩) (by decide) (by decide)
    · refine Gl.st (fun t k => XS.icmpYes X0.here hx rfl (pc0 := 7) (pc' := 23) rfl (hb hby d5_7) rfl (flt hc7).2.1 (by decide) (by decide) k) ?_
      show Gl _ _ _ _ _ _ _ (s₁.setTop (mkF m 23 #[.val (.ref a1), .val (.int (3 : Int32)), .val (.int p3), .val (.int p4)] []))
      refine Gl.st (fun t k => XS.iconst X0.here hx rfl (hb hby d5_23) k) ?_
      show Gl _ _ _ _ _ _ _ (s₁.setTop (mkF m 24 #[.val (.ref a1), .val (.int (3 : Int32)), .val (.int p3), .val (.int p4)] [(.int (0 : Int32))]))
      exact Gl.retI X0 hx hlk Bd.returns (hb hby d5_24) (⟨congrArg (fun z => some (Value.int z)) (show (0 : Int32) = (own_break3 p3 p4 w0 w1 w2 w3) from by simp only [own_break3, if_neg hc2, if_neg hc7]), N0, e0⟩) (by decide) (by decide)
theorem d6_0 : decode prog_32_method_1_code 0 = .ok (.aload_n 0, 1) := by decide +kernel
theorem d6_1 : decode prog_32_method_1_code 1 = .ok (.invokespecial 3, 3) := by decide +kernel
theorem d6_4 : decode prog_32_method_1_code 4 = .ok (.aload_n 0, 1) := by decide +kernel
theorem d6_5 : decode prog_32_method_1_code 5 = .ok (.aload_n 1, 1) := by decide +kernel
theorem d6_6 : decode prog_32_method_1_code 6 = .ok (.putfield 9, 3) := by decide +kernel
theorem d6_9 : decode prog_32_method_1_code 9 = .ok (.aload_n 0, 1) := by decide +kernel
theorem d6_10 : decode prog_32_method_1_code 10 = .ok (.iload_n 2, 1) := by decide +kernel
theorem d6_11 : decode prog_32_method_1_code 11 = .ok (.putfield 15, 3) := by decide +kernel
theorem d6_14 : decode prog_32_method_1_code 14 = .ok (.aload_n 0, 1) := by decide +kernel
theorem d6_15 : decode prog_32_method_1_code 15 = .ok (.iload_n 3, 1) := by decide +kernel
theorem d6_16 : decode prog_32_method_1_code 16 = .ok (.putfield 19, 3) := by decide +kernel
theorem d6_19 : decode prog_32_method_1_code 19 = .ok (.aload_n 0, 1) := by decide +kernel
theorem d6_20 : decode prog_32_method_1_code 20 = .ok (.iload 4, 2) := by decide +kernel
theorem d6_22 : decode prog_32_method_1_code 22 = .ok (.putfield 22, 3) := by decide +kernel
theorem d6_25 : decode prog_32_method_1_code 25 = .ok (.return_, 1) := by decide +kernel
theorem pf_7 : plainFor (⟨"com/example/millrace/millrace/JsonObject$Parser", "<init>", "([BIIZ)V"⟩ : MethodName) = true := by decide +kernel
def Q6 (Z : State) (a1 : Addr) (a2 : Addr) (p3 : Int32) (p4 : Int32) (p5 : Int32) (u_text : Value) (u_at : Value) (u_end : Value) (u_build : Value) (u_breaks : Value) (h0 : Heap) (n0 : Nat) (v : Option Value) (h : Heap) (L : List Loc) : Prop := v = none ∧ Fr n0 L ∧ Keep h0 h [a1] ∧ Exa Z h a1 "com/example/millrace/millrace/JsonObject$Parser" ∧ Fld Z h a1 "com/example/millrace/millrace/JsonObject$Parser" "text" "[B" (.ref a2) ∧ Fld Z h a1 "com/example/millrace/millrace/JsonObject$Parser" "at" "I" (.int p3) ∧ Fld Z h a1 "com/example/millrace/millrace/JsonObject$Parser" "end" "I" (.int p4) ∧ Fld Z h a1 "com/example/millrace/millrace/JsonObject$Parser" "build" "Z" (.int (nar .boolean p5)) ∧ Fld Z h a1 "com/example/millrace/millrace/JsonObject$Parser" "breaks" "I" u_breaks
theorem ef_6 (m : MethodId) (a1 : Addr) (a2 : Addr) (p3 : Int32) (p4 : Int32) (p5 : Int32) : entryFrame m #[(.ref a1), (.ref a2), (.int p3), (.int p4), (.int p5)] 5 = mkF m 0 #[.val (.ref a1), .val (.ref a2), .val (.int p3), .val (.int p4), .val (.int p5)] [] := by first | (simp [entryFrame, mkF, argsToLocals, Value.category]; done) | rfl
set_option maxRecDepth 65536 in
set_option maxHeartbeats 40000000 in
theorem rm6 (l : Launch) (Z : State) (a0 : Array Value) (hw : ∀ d ∈ tables_1, d.before a0 Z = true) (ws : List Jvm.Cond) (a1 : Addr) (a2 : Addr) (p3 : Int32) (p4 : Int32) (p5 : Int32) (u_text : Value) (u_at : Value) (u_end : Value) (u_build : Value) (u_breaks : Value) (h0 : Heap) (n0 : Nat) (Z0 : n0 ≤ h0.size) (E_a1 : Exa Z h0 a1 "com/example/millrace/millrace/JsonObject$Parser") (F_text : Fld Z h0 a1 "com/example/millrace/millrace/JsonObject$Parser" "text" "[B" u_text) (F_at : Fld Z h0 a1 "com/example/millrace/millrace/JsonObject$Parser" "at" "I" u_at) (F_end : Fld Z h0 a1 "com/example/millrace/millrace/JsonObject$Parser" "end" "I" u_end) (F_build : Fld Z h0 a1 "com/example/millrace/millrace/JsonObject$Parser" "build" "Z" u_build) (F_breaks : Fld Z h0 a1 "com/example/millrace/millrace/JsonObject$Parser" "breaks" "I" u_breaks) (g_a1 : n0 ≤ a1) :
    MetFree l (⟨"com/example/millrace/millrace/JsonObject$Parser", "<init>", "([BIIZ)V"⟩ : MethodName) (head1 (Jvm.Cond.code (⟨"com/example/millrace/millrace/JsonObject$Parser", "<init>", "([BIIZ)V"⟩ : MethodName) prog_32_method_1_code 5 none :: ws) ({ frames := 1, cells := 0, slots := 0, locals := 12 } : Room)) (fun a U => a = #[(.ref a1), (.ref a2), (.int p3), (.int p4), (.int p5)] ∧ Z.Warmed39 U.vm ∧ U.heap = h0) (fun _ _ _ _ _ => True) (fun _ U o U' => ∃ v L, o = .returned v ∧ Q6 Z a1 a2 p3 p4 p5 u_text u_at u_end u_build u_breaks h0 n0 v U'.heap L ∧ FrameEnd U o U' L ({ frames := 1, cells := 0, slots := 0, locals := 12 } : Room).cells ({ frames := 1, cells := 0, slots := 0, locals := 12 } : Room).slots) := by
  refine MetFree.of_bodySF pf_7 hisR ?_
  intro p e s m args below meth c s₁ Bd hml0 hP hK
  obtain ⟨rfl, hZ, hh⟩ := hP
  have hx := Bd.exec
  have hby := Bd.bytes
  have hlk : meth.locks = false := BodyLoose.notSynchronized Bd
  have hml : c.maxLocals = 5 := hml0
  have hown : s.vm.findClass "com/example/millrace/millrace/JsonObject$Parser" = some m.cls := findClass_of_methodNamed Bd.named
  have hnm := (name_of_methodNamed Bd.named Bd.method).1
  have X0 : Stand p l e ({ frames := 1, cells := 0, slots := 0, locals := 12 } : Room) s m #[(.ref a1), (.ref a2), (.int p3), (.int p4), (.int p5)] below meth c s₁ [] 0 0 := Stand.of_body Bd
  have e0 : s₁.heap = h0 := by rw [← hh, Bd.state]; rfl
  have N0 := Fr.nil n0
  have K0 : Keep h0 h0 [a1] := Keep.refl h0 _
  show Gl p e below s (Q6 Z a1 a2 p3 p4 p5 u_text u_at u_end u_build u_breaks h0 n0) ({ frames := 1, cells := 0, slots := 0, locals := 12 } : Room).cells ({ frames := 1, cells := 0, slots := 0, locals := 12 } : Room).slots (s₁.setTop (entryFrame m #[(.ref a1), (.ref a2), (.int p3), (.int p4), (.int p5)] 5))
  rw [ef_6]
  show Gl _ _ _ _ _ _ _ (s₁.setTop (mkF m 0 #[.val (.ref a1), .val (.ref a2), .val (.int p3), .val (.int p4), .val (.int p5)] []))
  refine Gl.st (fun t k => XS.aloadN X0.here hx rfl (hb hby d6_0) rfl rfl k) ?_
  show Gl _ _ _ _ _ _ _ (s₁.setTop (mkF m 1 #[.val (.ref a1), .val (.ref a2), .val (.int p3), .val (.int p4), .val (.int p5)] [(.ref a1)]))
  obtain ⟨T1, X1, e1, st1⟩ := initO X0 hx hZ hown (hw _ (List.mem_of_getElem? (i := 24) rfl)) (hw _ (List.mem_of_getElem? (i := 25) rfl)) (hw _ (List.mem_of_getElem? (i := 26) rfl)) e0 (g := (mkF m 1 #[.val (.ref a1), .val (.ref a2), .val (.int p3), .val (.int p4), .val (.int p5)] [(.ref a1)])) rfl (by rw [hml]; rfl) rfl (hb hby d6_1) (by decide) (W := 0) (by show 2 * 0 + _ ≤ _; exact Nat.le_of_eq rfl) (by decide)
  refine Gl.st st1 ?_
  show Gl _ _ _ _ _ _ _ (T1.setTop (mkF m 4 #[.val (.ref a1), .val (.ref a2), .val (.int p3), .val (.int p4), .val (.int p5)] []))
  refine Gl.st (fun t k => XS.aloadN X1.here hx rfl (hb hby d6_4) rfl rfl k) ?_
  show Gl _ _ _ _ _ _ _ (T1.setTop (mkF m 5 #[.val (.ref a1), .val (.ref a2), .val (.int p3), .val (.int p4), .val (.int p5)] [(.ref a1)]))
  refine Gl.st (fun t k => XS.aloadN X1.here hx rfl (hb hby d6_5) rfl rfl k) ?_
  show Gl _ _ _ _ _ _ _ (T1.setTop (mkF m 6 #[.val (.ref a1), .val (.ref a2), .val (.int p3), .val (.int p4), .val (.int p5)] [(.ref a2), (.ref a1)]))
  obtain ⟨T2, h2, X2, e2, W2, st2⟩ := putF X1 hx hZ hown (host := "") (Or.inl (hw _ (List.mem_of_getElem? (i := 27) rfl))) Via.refl e1 F_text E_a1 (Or.inr ⟨(hw _ (List.mem_of_getElem? (i := 28) rfl)), rfl, hnm⟩) (hw _ (List.mem_of_getElem? (i := 19) rfl)) (ty := (.array .byte)) (by decide) rfl rfl (g := (mkF m 6 #[.val (.ref a1), .val (.ref a2), .val (.int p3), .val (.int p4), .val (.int p5)] [(.ref a2), (.ref a1)])) rfl rfl (hb hby d6_6)
  refine Gl.st st2 ?_
  have Z2 : n0 ≤ h2.size := Nat.le_trans Z0 (Keep.of_wr W2).1
  have N2 := Fr.snoc X2 N0 g_a1
  have K2 : Keep h0 h2 [a1] := K0.wr W2 (Or.inl (List.mem_of_getElem? (i := 0) rfl))
  have E_a1'3 : Exa Z h2 a1 "com/example/millrace/millrace/JsonObject$Parser" := E_a1.wr W2
  have F_at'4 : Fld Z h2 a1 "com/example/millrace/millrace/JsonObject$Parser" "at" "I" u_at := F_at.other W2 (Or.inr (slot_ne (Or.inl (hw _ (List.mem_of_getElem? (i := 30) rfl))) (Or.inr (hw _ (List.mem_of_getElem? (i := 28) rfl))) (by decide) (t := .int) (t' := (.array .byte)) (by decide) (by decide)))
  have F_end'5 : Fld Z h2 a1 "com/example/millrace/millrace/JsonObject$Parser" "end" "I" u_end := F_end.other W2 (Or.inr (slot_ne (Or.inr (hw _ (List.mem_of_getElem? (i := 32) rfl))) (Or.inr (hw _ (List.mem_of_getElem? (i := 28) rfl))) (by decide) (t := .int) (t' := (.array .byte)) (by decide) (by decide)))
  have F_build'6 : Fld Z h2 a1 "com/example/millrace/millrace/JsonObject$Parser" "build" "Z" u_build := F_build.other W2 (Or.inr (slot_ne (Or.inl (hw _ (List.mem_of_getElem? (i := 34) rfl))) (Or.inr (hw _ (List.mem_of_getElem? (i := 28) rfl))) (by decide) (t := .boolean) (t' := (.array .byte)) (by decide) (by decide)))
  have F_breaks'7 : Fld Z h2 a1 "com/example/millrace/millrace/JsonObject$Parser" "breaks" "I" u_breaks := F_breaks.other W2 (Or.inr (slot_ne (Or.inl (hw _ (List.mem_of_getElem? (i := 51) rfl))) (Or.inr (hw _ (List.mem_of_getElem? (i := 28) rfl))) (by decide) (t := .int) (t' := (.array .byte)) (by decide) (by decide)))
  have Fw2 : Fld Z h2 a1 "com/example/millrace/millrace/JsonObject$Parser" "text" "[B" (.ref a2) := F_text.same W2
  show Gl _ _ _ _ _ _ _ (T2.setTop (mkF m 9 #[.val (.ref a1), .val (.ref a2), .val (.int p3), .val (.int p4), .val (.int p5)] []))
  refine Gl.st (fun t k => XS.aloadN X2.here hx rfl (hb hby d6_9) rfl rfl k) ?_
  show Gl _ _ _ _ _ _ _ (T2.setTop (mkF m 10 #[.val (.ref a1), .val (.ref a2), .val (.int p3), .val (.int p4), .val (.int p5)] [(.ref a1)]))
  refine Gl.st (fun t k => XS.iloadN X2.here hx rfl (hb hby d6_10) rfl  k) ?_
  show Gl _ _ _ _ _ _ _ (T2.setTop (mkF m 11 #[.val (.ref a1), .val (.ref a2), .val (.int p3), .val (.int p4), .val (.int p5)] [(.int p3), (.ref a1)]))
  obtain ⟨T8, h8, X8, e8, W8, st8⟩ := putF X2 hx hZ hown (host := "") (Or.inl (hw _ (List.mem_of_getElem? (i := 29) rfl))) Via.refl e2 F_at'4 E_a1'3 (Or.inl (hw _ (List.mem_of_getElem? (i := 30) rfl))) (hw _ (List.mem_of_getElem? (i := 19) rfl)) (ty := .int) (by decide) rfl rfl (g := (mkF m 11 #[.val (.ref a1), .val (.ref a2), .val (.int p3), .val (.int p4), .val (.int p5)] [(.int p3), (.ref a1)])) rfl rfl (hb hby d6_11)
  refine Gl.st st8 ?_
  have Z8 : n0 ≤ h8.size := Nat.le_trans Z2 (Keep.of_wr W8).1
  have N8 := Fr.snoc X8 N2 g_a1
  have K8 : Keep h0 h8 [a1] := K2.wr W8 (Or.inl (List.mem_of_getElem? (i := 0) rfl))
  have E_a1'9 : Exa Z h8 a1 "com/example/millrace/millrace/JsonObject$Parser" := E_a1'3.wr W8
  have Fw2'10 : Fld Z h8 a1 "com/example/millrace/millrace/JsonObject$Parser" "text" "[B" (.ref a2) := Fw2.other W8 (Or.inr (slot_ne (Or.inr (hw _ (List.mem_of_getElem? (i := 28) rfl))) (Or.inl (hw _ (List.mem_of_getElem? (i := 30) rfl))) (by decide) (t := (.array .byte)) (t' := .int) (by decide) (by decide)))
  have F_end'11 : Fld Z h8 a1 "com/example/millrace/millrace/JsonObject$Parser" "end" "I" u_end := F_end'5.other W8 (Or.inr (slot_ne (Or.inr (hw _ (List.mem_of_getElem? (i := 32) rfl))) (Or.inl (hw _ (List.mem_of_getElem? (i := 30) rfl))) (by decide) (t := .int) (t' := .int) (by decide) (by decide)))
  have F_build'12 : Fld Z h8 a1 "com/example/millrace/millrace/JsonObject$Parser" "build" "Z" u_build := F_build'6.other W8 (Or.inr (slot_ne (Or.inl (hw _ (List.mem_of_getElem? (i := 34) rfl))) (Or.inl (hw _ (List.mem_of_getElem? (i := 30) rfl))) (by decide) (t := .boolean) (t' := .int) (by decide) (by decide)))
  have F_breaks'13 : Fld Z h8 a1 "com/example/millrace/millrace/JsonObject$Parser" "breaks" "I" u_breaks := F_breaks'7.other W8 (Or.inr (slot_ne (Or.inl (hw _ (List.mem_of_getElem? (i := 51) rfl))) (Or.inl (hw _ (List.mem_of_getElem? (i := 30) rfl))) (by decide) (t := .int) (t' := .int) (by decide) (by decide)))
  have Fw8 : Fld Z h8 a1 "com/example/millrace/millrace/JsonObject$Parser" "at" "I" (.int p3) := F_at'4.same W8
  show Gl _ _ _ _ _ _ _ (T8.setTop (mkF m 14 #[.val (.ref a1), .val (.ref a2), .val (.int p3), .val (.int p4), .val (.int p5)] []))
  refine Gl.st (fun t k => XS.aloadN X8.here hx rfl (hb hby d6_14) rfl rfl k) ?_
  show Gl _ _ _ _ _ _ _ (T8.setTop (mkF m 15 #[.val (.ref a1), .val (.ref a2), .val (.int p3), .val (.int p4), .val (.int p5)] [(.ref a1)]))
  refine Gl.st (fun t k => XS.iloadN X8.here hx rfl (hb hby d6_15) rfl  k) ?_
  show Gl _ _ _ _ _ _ _ (T8.setTop (mkF m 16 #[.val (.ref a1), .val (.ref a2), .val (.int p3), .val (.int p4), .val (.int p5)] [(.int p4), (.ref a1)]))
  obtain ⟨T14, h14, X14, e14, W14, st14⟩ := putF X8 hx hZ hown (host := "") (Or.inl (hw _ (List.mem_of_getElem? (i := 31) rfl))) Via.refl e8 F_end'11 E_a1'9 (Or.inr ⟨(hw _ (List.mem_of_getElem? (i := 32) rfl)), rfl, hnm⟩) (hw _ (List.mem_of_getElem? (i := 19) rfl)) (ty := .int) (by decide) rfl rfl (g := (mkF m 16 #[.val (.ref a1), .val (.ref a2), .val (.int p3), .val (.int p4), .val (.int p5)] [(.int p4), (.ref a1)])) rfl rfl (hb hby d6_16)
  refine Gl.st st14 ?_
  have Z14 : n0 ≤ h14.size := Nat.le_trans Z8 (Keep.of_wr W14).1
  have N14 := Fr.snoc X14 N8 g_a1
  have K14 : Keep h0 h14 [a1] := K8.wr W14 (Or.inl (List.mem_of_getElem? (i := 0) rfl))
  have E_a1'15 : Exa Z h14 a1 "com/example/millrace/millrace/JsonObject$Parser" := E_a1'9.wr W14
  have Fw2'16 : Fld Z h14 a1 "com/example/millrace/millrace/JsonObject$Parser" "text" "[B" (.ref a2) := Fw2'10.other W14 (Or.inr (slot_ne (Or.inr (hw _ (List.mem_of_getElem? (i := 28) rfl))) (Or.inr (hw _ (List.mem_of_getElem? (i := 32) rfl))) (by decide) (t := (.array .byte)) (t' := .int) (by decide) (by decide)))
  have Fw8'17 : Fld Z h14 a1 "com/example/millrace/millrace/JsonObject$Parser" "at" "I" (.int p3) := Fw8.other W14 (Or.inr (slot_ne (Or.inl (hw _ (List.mem_of_getElem? (i := 30) rfl))) (Or.inr (hw _ (List.mem_of_getElem? (i := 32) rfl))) (by decide) (t := .int) (t' := .int) (by decide) (by decide)))
  have F_build'18 : Fld Z h14 a1 "com/example/millrace/millrace/JsonObject$Parser" "build" "Z" u_build := F_build'12.other W14 (Or.inr (slot_ne (Or.inl (hw _ (List.mem_of_getElem? (i := 34) rfl))) (Or.inr (hw _ (List.mem_of_getElem? (i := 32) rfl))) (by decide) (t := .boolean) (t' := .int) (by decide) (by decide)))
  have F_breaks'19 : Fld Z h14 a1 "com/example/millrace/millrace/JsonObject$Parser" "breaks" "I" u_breaks := F_breaks'13.other W14 (Or.inr (slot_ne (Or.inl (hw _ (List.mem_of_getElem? (i := 51) rfl))) (Or.inr (hw _ (List.mem_of_getElem? (i := 32) rfl))) (by decide) (t := .int) (t' := .int) (by decide) (by decide)))
  have Fw14 : Fld Z h14 a1 "com/example/millrace/millrace/JsonObject$Parser" "end" "I" (.int p4) := F_end'11.same W14
  show Gl _ _ _ _ _ _ _ (T14.setTop (mkF m 19 #[.val (.ref a1), .val (.ref a2), .val (.int p3), .val (.int p4), .val (.int p5)] []))
  refine Gl.st (fun t k => XS.aloadN X14.here hx rfl (hb hby d6_19) rfl rfl k) ?_
  show Gl _ _ _ _ _ _ _ (T14.setTop (mkF m 20 #[.val (.ref a1), .val (.ref a2), .val (.int p3), .val (.int p4), .val (.int p5)] [(.ref a1)]))
  refine Gl.st (fun t k => XS.iload X14.here hx rfl (hb hby d6_20) rfl  k) ?_
  show Gl _ _ _ _ _ _ _ (T14.setTop (mkF m 22 #[.val (.ref a1), .val (.ref a2), .val (.int p3), .val (.int p4), .val (.int p5)] [(.int p5), (.ref a1)]))
  obtain ⟨T20, h20, X20, e20, W20, st20⟩ := putFN X14 hx hZ hown (hw _ (List.mem_of_getElem? (i := 33) rfl)) Via.refl e14 F_build'18 E_a1'15 (Or.inl (hw _ (List.mem_of_getElem? (i := 34) rfl))) (hw _ (List.mem_of_getElem? (i := 19) rfl)) (ty := .boolean) (v' := (.int (nar .boolean p5))) (by decide) rfl (fits_nar_bool _) (g := (mkF m 22 #[.val (.ref a1), .val (.ref a2), .val (.int p3), .val (.int p4), .val (.int p5)] [(.int p5), (.ref a1)])) rfl rfl (hb hby d6_22)
  refine Gl.st st20 ?_
  have Z20 : n0 ≤ h20.size := Nat.le_trans Z14 (Keep.of_wr W20).1
  have N20 := Fr.snoc X20 N14 g_a1
  have K20 : Keep h0 h20 [a1] := K14.wr W20 (Or.inl (List.mem_of_getElem? (i := 0) rfl))
  have E_a1'21 : Exa Z h20 a1 "com/example/millrace/millrace/JsonObject$Parser" := E_a1'15.wr W20
  have Fw2'22 : Fld Z h20 a1 "com/example/millrace/millrace/JsonObject$Parser" "text" "[B" (.ref a2) := Fw2'16.other W20 (Or.inr (slot_ne (Or.inr (hw _ (List.mem_of_getElem? (i := 28) rfl))) (Or.inl (hw _ (List.mem_of_getElem? (i := 34) rfl))) (by decide) (t := (.array .byte)) (t' := .boolean) (by decide) (by decide)))
  have Fw8'23 : Fld Z h20 a1 "com/example/millrace/millrace/JsonObject$Parser" "at" "I" (.int p3) := Fw8'17.other W20 (Or.inr (slot_ne (Or.inl (hw _ (List.mem_of_getElem? (i := 30) rfl))) (Or.inl (hw _ (List.mem_of_getElem? (i := 34) rfl))) (by decide) (t := .int) (t' := .boolean) (by decide) (by decide)))
  have Fw14'24 : Fld Z h20 a1 "com/example/millrace/millrace/JsonObject$Parser" "end" "I" (.int p4) := Fw14.other W20 (Or.inr (slot_ne (Or.inr (hw _ (List.mem_of_getElem? (i := 32) rfl))) (Or.inl (hw _ (List.mem_of_getElem? (i := 34) rfl))) (by decide) (t := .int) (t' := .boolean) (by decide) (by decide)))
  have F_breaks'25 : Fld Z h20 a1 "com/example/millrace/millrace/JsonObject$Parser" "breaks" "I" u_breaks := F_breaks'19.other W20 (Or.inr (slot_ne (Or.inl (hw _ (List.mem_of_getElem? (i := 51) rfl))) (Or.inl (hw _ (List.mem_of_getElem? (i := 34) rfl))) (by decide) (t := .int) (t' := .boolean) (by decide) (by decide)))
  have Fw20 : Fld Z h20 a1 "com/example/millrace/millrace/JsonObject$Parser" "build" "Z" (.int (nar .boolean p5)) := F_build'18.same W20
  show Gl _ _ _ _ _ _ _ (T20.setTop (mkF m 25 #[.val (.ref a1), .val (.ref a2), .val (.int p3), .val (.int p4), .val (.int p5)] []))
  exact Gl.retV X20 hx hlk Bd.returns (hb hby d6_25) (by
        rw [e20]
        exact ⟨rfl, N20, K20, E_a1'21, Fw2'22, Fw8'23, Fw14'24, Fw20, F_breaks'25⟩) (by decide) (by decide)
theorem own_getD (bs : List Int32) (n : Nat) : (bs.map Value.int).getD n (.int 0) = .int (bs.getD n 0) := by
  simp only [List.getD_eq_getElem?_getD, List.getElem?_map]
  cases bs[n]? <;> rfl
theorem own_succ {i : Int32} (h : i.toInt < 2147483647) : (i + 1).toInt = i.toInt + 1 := by
  have a := c_iadd i 1
  have b := rng32 i
  have d := rng32 (i + 1)
  have e : (1 : Int32).toInt = 1 := by decide
  omega
theorem own_nn {i : Int32} (h : 0 ≤ i.toInt) : ¬ i < 0 := by
  rw [Int32.lt_iff_toInt_lt, show (0 : Int32).toInt = 0 from by decide]; omega
theorem own_lit {i j : Int32} {n : Int} (hj : j.toInt = n) (h : i.toInt < n) : i < j := by
  rw [Int32.lt_iff_toInt_lt, hj]; exact h
def own_skip (bs : List Int32) : Nat → Int32 → Int32 → Int32 × Int32
  | 0, i, c => (i, c)
  | k + 1, i, c => if own_ws (bs.getD i.toNatClampNeg 0) = 0 then (i, c) else own_skip bs k (i + 1) (c + own_brk (bs.getD i.toNatClampNeg 0))
def own_pos (bs : List Int32) (i e c : Int32) : Int32 := (own_skip bs (e.toInt - i.toInt).toNat i c).1
def own_brs (bs : List Int32) (i e c : Int32) : Int32 := (own_skip bs (e.toInt - i.toInt).toNat i c).2
theorem own_go {bs : List Int32} {k : Nat} {i c z : Int32} (h1 : ¬ (own_ws (bs.getD i.toNatClampNeg 0) = 0)) (h2 : own_brk (bs.getD i.toNatClampNeg 0) = z) : own_skip bs (k + 1) i c = own_skip bs k (i + 1) (c + z) := by
  rw [own_skip, if_neg h1, h2]
theorem own_stay {bs : List Int32} {k : Nat} {i c : Int32} (h1 : own_ws (bs.getD i.toNatClampNeg 0) = 0) : own_skip bs (k + 1) i c = (i, c) := by
  rw [own_skip, if_pos h1]
theorem d8_0 : decode prog_32_method_23_code 0 = .ok (.aload_n 0, 1) := by decide +kernel
theorem d8_1 : decode prog_32_method_23_code 1 = .ok (.getfield 15, 3) := by decide +kernel
theorem d8_4 : decode prog_32_method_23_code 4 = .ok (.aload_n 0, 1) := by decide +kernel
theorem d8_5 : decode prog_32_method_23_code 5 = .ok (.getfield 19, 3) := by decide +kernel
theorem d8_8 : decode prog_32_method_23_code 8 = .ok (.if_icmp .ge 114, 3) := by decide +kernel
theorem d8_11 : decode prog_32_method_23_code 11 = .ok (.aload_n 0, 1) := by decide +kernel
theorem d8_12 : decode prog_32_method_23_code 12 = .ok (.getfield 9, 3) := by decide +kernel
theorem d8_15 : decode prog_32_method_23_code 15 = .ok (.aload_n 0, 1) := by decide +kernel
theorem d8_16 : decode prog_32_method_23_code 16 = .ok (.getfield 15, 3) := by decide +kernel
theorem d8_19 : decode prog_32_method_23_code 19 = .ok (.baload, 1) := by decide +kernel
theorem d8_20 : decode prog_32_method_23_code 20 = .ok (.bipush 32, 2) := by decide +kernel
theorem d8_22 : decode prog_32_method_23_code 22 = .ok (.if_icmp .eq 45, 3) := by decide +kernel
theorem d8_25 : decode prog_32_method_23_code 25 = .ok (.aload_n 0, 1) := by decide +kernel
theorem d8_26 : decode prog_32_method_23_code 26 = .ok (.getfield 9, 3) := by decide +kernel
theorem d8_29 : decode prog_32_method_23_code 29 = .ok (.aload_n 0, 1) := by decide +kernel
theorem d8_30 : decode prog_32_method_23_code 30 = .ok (.getfield 15, 3) := by decide +kernel
theorem d8_33 : decode prog_32_method_23_code 33 = .ok (.baload, 1) := by decide +kernel
theorem d8_34 : decode prog_32_method_23_code 34 = .ok (.bipush 9, 2) := by decide +kernel
theorem d8_36 : decode prog_32_method_23_code 36 = .ok (.if_icmp .eq 31, 3) := by decide +kernel
theorem d8_39 : decode prog_32_method_23_code 39 = .ok (.aload_n 0, 1) := by decide +kernel
theorem d8_40 : decode prog_32_method_23_code 40 = .ok (.getfield 9, 3) := by decide +kernel
theorem d8_43 : decode prog_32_method_23_code 43 = .ok (.aload_n 0, 1) := by decide +kernel
theorem d8_44 : decode prog_32_method_23_code 44 = .ok (.getfield 15, 3) := by decide +kernel
theorem d8_47 : decode prog_32_method_23_code 47 = .ok (.baload, 1) := by decide +kernel
theorem d8_48 : decode prog_32_method_23_code 48 = .ok (.bipush 13, 2) := by decide +kernel
theorem d8_50 : decode prog_32_method_23_code 50 = .ok (.if_icmp .eq 17, 3) := by decide +kernel
theorem d8_53 : decode prog_32_method_23_code 53 = .ok (.aload_n 0, 1) := by decide +kernel
theorem d8_54 : decode prog_32_method_23_code 54 = .ok (.getfield 9, 3) := by decide +kernel
theorem d8_57 : decode prog_32_method_23_code 57 = .ok (.aload_n 0, 1) := by decide +kernel
theorem d8_58 : decode prog_32_method_23_code 58 = .ok (.getfield 15, 3) := by decide +kernel
theorem d8_61 : decode prog_32_method_23_code 61 = .ok (.baload, 1) := by decide +kernel
theorem d8_62 : decode prog_32_method_23_code 62 = .ok (.bipush 10, 2) := by decide +kernel
theorem d8_64 : decode prog_32_method_23_code 64 = .ok (.if_icmp .ne 58, 3) := by decide +kernel
theorem d8_67 : decode prog_32_method_23_code 67 = .ok (.aload_n 0, 1) := by decide +kernel
theorem d8_68 : decode prog_32_method_23_code 68 = .ok (.dup, 1) := by decide +kernel
theorem d8_69 : decode prog_32_method_23_code 69 = .ok (.getfield 26, 3) := by decide +kernel
theorem d8_72 : decode prog_32_method_23_code 72 = .ok (.aload_n 0, 1) := by decide +kernel
theorem d8_73 : decode prog_32_method_23_code 73 = .ok (.getfield 9, 3) := by decide +kernel
theorem d8_76 : decode prog_32_method_23_code 76 = .ok (.aload_n 0, 1) := by decide +kernel
theorem d8_77 : decode prog_32_method_23_code 77 = .ok (.getfield 15, 3) := by decide +kernel
theorem d8_80 : decode prog_32_method_23_code 80 = .ok (.baload, 1) := by decide +kernel
theorem d8_81 : decode prog_32_method_23_code 81 = .ok (.bipush 32, 2) := by decide +kernel
theorem d8_83 : decode prog_32_method_23_code 83 = .ok (.if_icmp .eq 17, 3) := by decide +kernel
theorem d8_86 : decode prog_32_method_23_code 86 = .ok (.aload_n 0, 1) := by decide +kernel
theorem d8_87 : decode prog_32_method_23_code 87 = .ok (.getfield 9, 3) := by decide +kernel
theorem d8_90 : decode prog_32_method_23_code 90 = .ok (.aload_n 0, 1) := by decide +kernel
theorem d8_91 : decode prog_32_method_23_code 91 = .ok (.getfield 15, 3) := by decide +kernel
theorem d8_94 : decode prog_32_method_23_code 94 = .ok (.baload, 1) := by decide +kernel
theorem d8_95 : decode prog_32_method_23_code 95 = .ok (.bipush 9, 2) := by decide +kernel
theorem d8_97 : decode prog_32_method_23_code 97 = .ok (.if_icmp .ne 7, 3) := by decide +kernel
theorem d8_100 : decode prog_32_method_23_code 100 = .ok (.iconst 0, 1) := by decide +kernel
theorem d8_101 : decode prog_32_method_23_code 101 = .ok (.goto 4, 3) := by decide +kernel
theorem d8_104 : decode prog_32_method_23_code 104 = .ok (.iconst 1, 1) := by decide +kernel
theorem d8_105 : decode prog_32_method_23_code 105 = .ok (.iadd, 1) := by decide +kernel
theorem d8_106 : decode prog_32_method_23_code 106 = .ok (.putfield 26, 3) := by decide +kernel
theorem d8_109 : decode prog_32_method_23_code 109 = .ok (.aload_n 0, 1) := by decide +kernel
theorem d8_110 : decode prog_32_method_23_code 110 = .ok (.dup, 1) := by decide +kernel
theorem d8_111 : decode prog_32_method_23_code 111 = .ok (.getfield 15, 3) := by decide +kernel
theorem d8_114 : decode prog_32_method_23_code 114 = .ok (.iconst 1, 1) := by decide +kernel
theorem d8_115 : decode prog_32_method_23_code 115 = .ok (.iadd, 1) := by decide +kernel
theorem d8_116 : decode prog_32_method_23_code 116 = .ok (.putfield 15, 3) := by decide +kernel
theorem d8_119 : decode prog_32_method_23_code 119 = .ok (.goto (-119), 3) := by decide +kernel
theorem d8_122 : decode prog_32_method_23_code 122 = .ok (.aload_n 0, 1) := by decide +kernel
theorem d8_123 : decode prog_32_method_23_code 123 = .ok (.getfield 15, 3) := by decide +kernel
theorem d8_126 : decode prog_32_method_23_code 126 = .ok (.ireturn, 1) := by decide +kernel
theorem pf_8 : plainFor (⟨"com/example/millrace/millrace/JsonObject$Parser", "skipSpace", "()I"⟩ : MethodName) = true := by decide +kernel
def Q8 (Z : State) (a1 : Addr) (ta : Addr) (ia : Int32) (en : Int32) (cb : Int32) (ck : ClassId) (w0 : Int32) (w1 : Int32) (w2 : Int32) (w3 : Int32) (h0 : Heap) (n0 : Nat) (v : Option Value) (h : Heap) (L : List Loc) : Prop := v = some (.int (own_pos [w0, w1, w2, w3] ia en cb)) ∧ Fr n0 L ∧ Keep h0 h [a1] ∧ Exa Z h a1 "com/example/millrace/millrace/JsonObject$Parser" ∧ Fld Z h a1 "com/example/millrace/millrace/JsonObject$Parser" "text" "[B" (.ref ta) ∧ Fld Z h a1 "com/example/millrace/millrace/JsonObject$Parser" "at" "I" (.int (own_pos [w0, w1, w2, w3] ia en cb)) ∧ Fld Z h a1 "com/example/millrace/millrace/JsonObject$Parser" "end" "I" (.int en) ∧ Fld Z h a1 "com/example/millrace/millrace/JsonObject$Parser" "breaks" "I" (.int (own_brs [w0, w1, w2, w3] ia en cb))
theorem ef_8 (m : MethodId) (a1 : Addr) : entryFrame m #[(.ref a1)] 1 = mkF m 0 #[.val (.ref a1)] [] := by first | (simp [entryFrame, mkF, argsToLocals, Value.category]; done) | rfl
set_option maxRecDepth 65536 in
set_option maxHeartbeats 40000000 in
theorem rm8 (l : Launch) (Z : State) (a0 : Array Value) (hw : ∀ d ∈ tables_1, d.before a0 Z = true) (ws : List Jvm.Cond) (a1 : Addr) (ta : Addr) (ia : Int32) (en : Int32) (cb : Int32) (ck : ClassId) (w0 : Int32) (w1 : Int32) (w2 : Int32) (w3 : Int32) (h0 : Heap) (n0 : Nat) (Z0 : n0 ≤ h0.size) (E_a1 : Exa Z h0 a1 "com/example/millrace/millrace/JsonObject$Parser") (Ft : Fld Z h0 a1 "com/example/millrace/millrace/JsonObject$Parser" "text" "[B" (.ref ta)) (Fa : Fld Z h0 a1 "com/example/millrace/millrace/JsonObject$Parser" "at" "I" (.int ia)) (Fe : Fld Z h0 a1 "com/example/millrace/millrace/JsonObject$Parser" "end" "I" (.int en)) (Fb : Fld Z h0 a1 "com/example/millrace/millrace/JsonObject$Parser" "breaks" "I" (.int cb)) (Vt : Arv Z h0 ta ck .byte (4 : Int32) [(.int w0), (.int w1), (.int w2), (.int w3)] (.int (0 : Int32))) (g_a1 : n0 ≤ a1) (hne : ta ≠ a1) (hb1 : 0 ≤ ia.toInt) (hb2 : ia.toInt ≤ en.toInt) (hb3 : en.toInt ≤ 4) :
    MetFree l (⟨"com/example/millrace/millrace/JsonObject$Parser", "skipSpace", "()I"⟩ : MethodName) (head1 (Jvm.Cond.code (⟨"com/example/millrace/millrace/JsonObject$Parser", "skipSpace", "()I"⟩ : MethodName) prog_32_method_23_code 1 (some .int) :: ws) ({ frames := 0, cells := 0, slots := 0, locals := 0 } : Room)) (fun a U => a = #[(.ref a1)] ∧ Z.Warmed39 U.vm ∧ U.heap = h0) (fun _ _ _ _ _ => True) (fun _ U o U' => ∃ v L, o = .returned v ∧ Q8 Z a1 ta ia en cb ck w0 w1 w2 w3 h0 n0 v U'.heap L ∧ FrameEnd U o U' L ({ frames := 0, cells := 0, slots := 0, locals := 0 } : Room).cells ({ frames := 0, cells := 0, slots := 0, locals := 0 } : Room).slots) := by
  refine MetFree.of_bodySF pf_8 hisR ?_
  intro p e s m args below meth c s₁ Bd hml0 hP hK
  obtain ⟨rfl, hZ, hh⟩ := hP
  have hx := Bd.exec
  have hby := Bd.bytes
  have hlk : meth.locks = false := BodyLoose.notSynchronized Bd
  have hml : c.maxLocals = 1 := hml0
  have hown : s.vm.findClass "com/example/millrace/millrace/JsonObject$Parser" = some m.cls := findClass_of_methodNamed Bd.named
  have hnm := (name_of_methodNamed Bd.named Bd.method).1
  have X0 : Stand p l e ({ frames := 0, cells := 0, slots := 0, locals := 0 } : Room) s m #[(.ref a1)] below meth c s₁ [] 0 0 := Stand.of_body Bd
  have e0 : s₁.heap = h0 := by rw [← hh, Bd.state]; rfl
  have N0 := Fr.nil n0
  have K0 : Keep h0 h0 [a1] := Keep.refl h0 _
  show Gl p e below s (Q8 Z a1 ta ia en cb ck w0 w1 w2 w3 h0 n0) ({ frames := 0, cells := 0, slots := 0, locals := 0 } : Room).cells ({ frames := 0, cells := 0, slots := 0, locals := 0 } : Room).slots (s₁.setTop (entryFrame m #[(.ref a1)] 1))
  rw [ef_8]
  have LP1 : ∀ (k : Nat) (Tl1 : State) (Ll1 : List Loc) (hl1 : Heap) (Xl1 : Stand p l e ({ frames := 0, cells := 0, slots := 0, locals := 0 } : Room) s m #[(.ref a1)] below meth c Tl1 Ll1 0 0) (el1 : Tl1.heap = hl1) (Nl1 : Fr n0 Ll1) (Zl1 : n0 ≤ hl1.size) (Kl1 : Keep h0 hl1 [a1]) (i : Int32) (bc : Int32) (Gf1_0 : Exa Z hl1 a1 "com/example/millrace/millrace/JsonObject$Parser") (Gf1_1 : Fld Z hl1 a1 "com/example/millrace/millrace/JsonObject$Parser" "text" "[B" (.ref ta)) (Gf1_2 : Fld Z hl1 a1 "com/example/millrace/millrace/JsonObject$Parser" "at" "I" (.int i)) (Gf1_3 : Fld Z hl1 a1 "com/example/millrace/millrace/JsonObject$Parser" "end" "I" (.int en)) (Gf1_4 : Fld Z hl1 a1 "com/example/millrace/millrace/JsonObject$Parser" "breaks" "I" (.int bc)) (Gf1_5 : Arv Z hl1 ta ck .byte (4 : Int32) [(.int w0), (.int w1), (.int w2), (.int w3)] (.int (0 : Int32))) (hi1 : 0 ≤ i.toInt) (hk : i.toInt + (k : Nat) = en.toInt) (hR : own_skip [w0, w1, w2, w3] k i bc = own_skip [w0, w1, w2, w3] (en.toInt - ia.toInt).toNat ia cb), Gl p e below s (Q8 Z a1 ta ia en cb ck w0 w1 w2 w3 h0 n0) ({ frames := 0, cells := 0, slots := 0, locals := 0 } : Room).cells ({ frames := 0, cells := 0, slots := 0, locals := 0 } : Room).slots (Tl1.setTop (mkF m 0 #[.val (.ref a1)] [])) := by
    intro k
    induction k with
    | zero =>
      intro Tl1 Ll1 hl1 Xl1 el1 Nl1 Zl1 Kl1 i bc Gf1_0 Gf1_1 Gf1_2 Gf1_3 Gf1_4 Gf1_5 hi1 hk hR
      show Gl _ _ _ _ _ _ _ (Tl1.setTop (mkF m 0 #[.val (.ref a1)] []))
      refine Gl.st (fun t k => XS.aloadN Xl1.here hx rfl (hb hby d8_0) rfl rfl k) ?_
      show Gl _ _ _ _ _ _ _ (Tl1.setTop (mkF m 1 #[.val (.ref a1)] [(.ref a1)]))
      obtain ⟨T2, X2, e2, st2⟩ := getF Xl1 hx hZ hown (host := "") (Or.inl (hw _ (List.mem_of_getElem? (i := 29) rfl))) Via.refl el1 Gf1_2 (g := (mkF m 1 #[.val (.ref a1)] [(.ref a1)])) rfl rfl (hb hby d8_1)
      refine Gl.st st2 ?_
      show Gl _ _ _ _ _ _ _ (T2.setTop (mkF m 4 #[.val (.ref a1)] [(.int i)]))
      refine Gl.st (fun t k => XS.aloadN X2.here hx rfl (hb hby d8_4) rfl rfl k) ?_
      show Gl _ _ _ _ _ _ _ (T2.setTop (mkF m 5 #[.val (.ref a1)] [(.ref a1), (.int i)]))
      obtain ⟨T3, X3, e3, st3⟩ := getF X2 hx hZ hown (host := "") (Or.inl (hw _ (List.mem_of_getElem? (i := 31) rfl))) Via.refl e2 Gf1_3 (g := (mkF m 5 #[.val (.ref a1)] [(.ref a1), (.int i)])) rfl rfl (hb hby d8_5)
      refine Gl.st st3 ?_
      show Gl _ _ _ _ _ _ _ (T3.setTop (mkF m 8 #[.val (.ref a1)] [(.int en), (.int i)]))
      have hc8_4 : ¬ (i < en) := by rw [Int32.lt_iff_toInt_lt]; omega
      refine Gl.st (fun t k => XS.icmpYes X3.here hx rfl (pc0 := 8) (pc' := 122) rfl (hb hby d8_8) rfl (flt hc8_4).2.1 (by decide) (by decide) k) ?_
      show Gl _ _ _ _ _ _ _ (T3.setTop (mkF m 122 #[.val (.ref a1)] []))
      refine Gl.st (fun t k => XS.aloadN X3.here hx rfl (hb hby d8_122) rfl rfl k) ?_
      show Gl _ _ _ _ _ _ _ (T3.setTop (mkF m 123 #[.val (.ref a1)] [(.ref a1)]))
      obtain ⟨T5, X5, e5, st5⟩ := getF X3 hx hZ hown (host := "") (Or.inl (hw _ (List.mem_of_getElem? (i := 29) rfl))) Via.refl e3 Gf1_2 (g := (mkF m 123 #[.val (.ref a1)] [(.ref a1)])) rfl rfl (hb hby d8_123)
      refine Gl.st st5 ?_
      show Gl _ _ _ _ _ _ _ (T5.setTop (mkF m 126 #[.val (.ref a1)] [(.int i)]))
      exact Gl.retI X5 hx hlk Bd.returns (hb hby d8_126) (by
            have hR2 : (i, bc) = own_skip [w0, w1, w2, w3] (en.toInt - ia.toInt).toNat ia cb := hR
            have hpos : own_pos [w0, w1, w2, w3] ia en cb = i := by unfold own_pos; rw [← hR2]
            have hbr : own_brs [w0, w1, w2, w3] ia en cb = bc := by unfold own_brs; rw [← hR2]
            rw [e5]
            exact ⟨congrArg (fun z => some (Value.int z)) hpos.symm, Nl1, Kl1, Gf1_0, Gf1_1, by rw [hpos]; exact Gf1_2, Gf1_3, by rw [hbr]; exact Gf1_4⟩) (by decide) (by decide)
    | succ k ih =>
      intro Tl1 Ll1 hl1 Xl1 el1 Nl1 Zl1 Kl1 i bc Gf1_0 Gf1_1 Gf1_2 Gf1_3 Gf1_4 Gf1_5 hi1 hk hR
      show Gl _ _ _ _ _ _ _ (Tl1.setTop (mkF m 0 #[.val (.ref a1)] []))
      refine Gl.st (fun t k => XS.aloadN Xl1.here hx rfl (hb hby d8_0) rfl rfl k) ?_
      show Gl _ _ _ _ _ _ _ (Tl1.setTop (mkF m 1 #[.val (.ref a1)] [(.ref a1)]))
      obtain ⟨T6, X6, e6, st6⟩ := getF Xl1 hx hZ hown (host := "") (Or.inl (hw _ (List.mem_of_getElem? (i := 29) rfl))) Via.refl el1 Gf1_2 (g := (mkF m 1 #[.val (.ref a1)] [(.ref a1)])) rfl rfl (hb hby d8_1)
      refine Gl.st st6 ?_
      show Gl _ _ _ _ _ _ _ (T6.setTop (mkF m 4 #[.val (.ref a1)] [(.int i)]))
      refine Gl.st (fun t k => XS.aloadN X6.here hx rfl (hb hby d8_4) rfl rfl k) ?_
      show Gl _ _ _ _ _ _ _ (T6.setTop (mkF m 5 #[.val (.ref a1)] [(.ref a1), (.int i)]))
      obtain ⟨T7, X7, e7, st7⟩ := getF X6 hx hZ hown (host := "") (Or.inl (hw _ (List.mem_of_getElem? (i := 31) rfl))) Via.refl e6 Gf1_3 (g := (mkF m 5 #[.val (.ref a1)] [(.ref a1), (.int i)])) rfl rfl (hb hby d8_5)
      refine Gl.st st7 ?_
      show Gl _ _ _ _ _ _ _ (T7.setTop (mkF m 8 #[.val (.ref a1)] [(.int en), (.int i)]))
      have hc8_8 : i < en := by rw [Int32.lt_iff_toInt_lt]; omega
      refine Gl.st (fun t k => XS.icmpNo X7.here hx rfl (hb hby d8_8) rfl (tlt hc8_8).2.1 k) ?_
      show Gl _ _ _ _ _ _ _ (T7.setTop (mkF m 11 #[.val (.ref a1)] []))
      refine Gl.st (fun t k => XS.aloadN X7.here hx rfl (hb hby d8_11) rfl rfl k) ?_
      show Gl _ _ _ _ _ _ _ (T7.setTop (mkF m 12 #[.val (.ref a1)] [(.ref a1)]))
      obtain ⟨T9, X9, e9, st9⟩ := getF X7 hx hZ hown (host := "") (Or.inl (hw _ (List.mem_of_getElem? (i := 27) rfl))) Via.refl e7 Gf1_1 (g := (mkF m 12 #[.val (.ref a1)] [(.ref a1)])) rfl rfl (hb hby d8_12)
      refine Gl.st st9 ?_
      show Gl _ _ _ _ _ _ _ (T9.setTop (mkF m 15 #[.val (.ref a1)] [(.ref ta)]))
      refine Gl.st (fun t k => XS.aloadN X9.here hx rfl (hb hby d8_15) rfl rfl k) ?_
      show Gl _ _ _ _ _ _ _ (T9.setTop (mkF m 16 #[.val (.ref a1)] [(.ref a1), (.ref ta)]))
      obtain ⟨T10, X10, e10, st10⟩ := getF X9 hx hZ hown (host := "") (Or.inl (hw _ (List.mem_of_getElem? (i := 29) rfl))) Via.refl e9 Gf1_2 (g := (mkF m 16 #[.val (.ref a1)] [(.ref a1), (.ref ta)])) rfl rfl (hb hby d8_16)
      refine Gl.st st10 ?_
      show Gl _ _ _ _ _ _ _ (T10.setTop (mkF m 19 #[.val (.ref a1)] [(.int i), (.ref ta)]))
      have Vx11 := Gf1_5
      obtain ⟨cl11, Ar11, qk11, S11, M11, H11, G11⟩ := Vx11
      have hin11 : ¬ (i < 0 ∨ cl11.slots.size ≤ (i).toNatClampNeg) := inb_of S11 ⟨own_nn hi1, own_lit (n := 4) (by decide) (by omega)⟩
      have hat11 : cl11.slots[(i).toNatClampNeg]? = some (.int ([w0, w1, w2, w3].getD i.toNatClampNeg 0)) := H11.at hin11 (own_getD [w0, w1, w2, w3] _)
      refine Gl.st (X10.baloadBytes hx (j := i) (v := (.int ([w0, w1, w2, w3].getD i.toNatClampNeg 0))) (by rw [e10]; exact Ar11.1) (State.isArrayOf_alike hZ.alike Ar11.2.1) Ar11.2.2 hin11 hat11 (g := (mkF m 19 #[.val (.ref a1)] [(.int i), (.ref ta)])) rfl rfl (hb hby d8_19)) ?_
      show Gl _ _ _ _ _ _ _ (T10.setTop (mkF m 20 #[.val (.ref a1)] [(.int ([w0, w1, w2, w3].getD i.toNatClampNeg 0))]))
      refine Gl.st (fun t k => XS.bipush X10.here hx rfl (hb hby d8_20) k) ?_
      show Gl _ _ _ _ _ _ _ (T10.setTop (mkF m 22 #[.val (.ref a1)] [(.int (32 : Int32)), (.int ([w0, w1, w2, w3].getD i.toNatClampNeg 0))]))
      by_cases hc22 : ([w0, w1, w2, w3].getD i.toNatClampNeg 0) = (32 : Int32)
      · refine Gl.st (fun t k => XS.icmpYes X10.here hx rfl (pc0 := 22) (pc' := 67) rfl (hb hby d8_22) rfl (teq hc22).1 (by decide) (by decide) k) ?_
        show Gl _ _ _ _ _ _ _ (T10.setTop (mkF m 67 #[.val (.ref a1)] []))
        refine Gl.st (fun t k => XS.aloadN X10.here hx rfl (hb hby d8_67) rfl rfl k) ?_
        show Gl _ _ _ _ _ _ _ (T10.setTop (mkF m 68 #[.val (.ref a1)] [(.ref a1)]))
        refine Gl.st (fun t k => XS.dup X10.here hx rfl (hb hby d8_68) rfl rfl k) ?_
        show Gl _ _ _ _ _ _ _ (T10.setTop (mkF m 69 #[.val (.ref a1)] [(.ref a1), (.ref a1)]))
        obtain ⟨T12, X12, e12, st12⟩ := getF X10 hx hZ hown (host := "") (Or.inl (hw _ (List.mem_of_getElem? (i := 50) rfl))) Via.refl e10 Gf1_4 (g := (mkF m 69 #[.val (.ref a1)] [(.ref a1), (.ref a1)])) rfl rfl (hb hby d8_69)
        refine Gl.st st12 ?_
        show Gl _ _ _ _ _ _ _ (T12.setTop (mkF m 72 #[.val (.ref a1)] [(.int bc), (.ref a1)]))
        refine Gl.st (fun t k => XS.aloadN X12.here hx rfl (hb hby d8_72) rfl rfl k) ?_
        show Gl _ _ _ _ _ _ _ (T12.setTop (mkF m 73 #[.val (.ref a1)] [(.ref a1), (.int bc), (.ref a1)]))
        obtain ⟨T13, X13, e13, st13⟩ := getF X12 hx hZ hown (host := "") (Or.inl (hw _ (List.mem_of_getElem? (i := 27) rfl))) Via.refl e12 Gf1_1 (g := (mkF m 73 #[.val (.ref a1)] [(.ref a1), (.int bc), (.ref a1)])) rfl rfl (hb hby d8_73)
        refine Gl.st st13 ?_
        show Gl _ _ _ _ _ _ _ (T13.setTop (mkF m 76 #[.val (.ref a1)] [(.ref ta), (.int bc), (.ref a1)]))
        refine Gl.st (fun t k => XS.aloadN X13.here hx rfl (hb hby d8_76) rfl rfl k) ?_
        show Gl _ _ _ _ _ _ _ (T13.setTop (mkF m 77 #[.val (.ref a1)] [(.ref a1), (.ref ta), (.int bc), (.ref a1)]))
        obtain ⟨T14, X14, e14, st14⟩ := getF X13 hx hZ hown (host := "") (Or.inl (hw _ (List.mem_of_getElem? (i := 29) rfl))) Via.refl e13 Gf1_2 (g := (mkF m 77 #[.val (.ref a1)] [(.ref a1), (.ref ta), (.int bc), (.ref a1)])) rfl rfl (hb hby d8_77)
        refine Gl.st st14 ?_
        show Gl _ _ _ _ _ _ _ (T14.setTop (mkF m 80 #[.val (.ref a1)] [(.int i), (.ref ta), (.int bc), (.ref a1)]))
        have Vx15 := Gf1_5
        obtain ⟨cl15, Ar15, qk15, S15, M15, H15, G15⟩ := Vx15
        have hin15 : ¬ (i < 0 ∨ cl15.slots.size ≤ (i).toNatClampNeg) := inb_of S15 ⟨own_nn hi1, own_lit (n := 4) (by decide) (by omega)⟩
        have hat15 : cl15.slots[(i).toNatClampNeg]? = some (.int ([w0, w1, w2, w3].getD i.toNatClampNeg 0)) := H15.at hin15 (own_getD [w0, w1, w2, w3] _)
        refine Gl.st (X14.baloadBytes hx (j := i) (v := (.int ([w0, w1, w2, w3].getD i.toNatClampNeg 0))) (by rw [e14]; exact Ar15.1) (State.isArrayOf_alike hZ.alike Ar15.2.1) Ar15.2.2 hin15 hat15 (g := (mkF m 80 #[.val (.ref a1)] [(.int i), (.ref ta), (.int bc), (.ref a1)])) rfl rfl (hb hby d8_80)) ?_
        show Gl _ _ _ _ _ _ _ (T14.setTop (mkF m 81 #[.val (.ref a1)] [(.int ([w0, w1, w2, w3].getD i.toNatClampNeg 0)), (.int bc), (.ref a1)]))
        refine Gl.st (fun t k => XS.bipush X14.here hx rfl (hb hby d8_81) k) ?_
        show Gl _ _ _ _ _ _ _ (T14.setTop (mkF m 83 #[.val (.ref a1)] [(.int (32 : Int32)), (.int ([w0, w1, w2, w3].getD i.toNatClampNeg 0)), (.int bc), (.ref a1)]))
        refine Gl.st (fun t k => XS.icmpYes X14.here hx rfl (pc0 := 83) (pc' := 100) rfl (hb hby d8_83) rfl (teq hc22).1 (by decide) (by decide) k) ?_
        show Gl _ _ _ _ _ _ _ (T14.setTop (mkF m 100 #[.val (.ref a1)] [(.int bc), (.ref a1)]))
        refine Gl.st (fun t k => XS.iconst X14.here hx rfl (hb hby d8_100) k) ?_
        show Gl _ _ _ _ _ _ _ (T14.setTop (mkF m 101 #[.val (.ref a1)] [(.int (0 : Int32)), (.int bc), (.ref a1)]))
        refine Gl.st (fun t k => XS.goto X14.here hx rfl (pc0 := 101) (pc' := 105) rfl (hb hby d8_101) (by decide) (by decide) k) ?_
        show Gl _ _ _ _ _ _ _ (T14.setTop (mkF m 105 #[.val (.ref a1)] [(.int (0 : Int32)), (.int bc), (.ref a1)]))
        refine Gl.st (fun t k => XS.iadd X14.here hx rfl (hb hby d8_105) rfl k) ?_
        show Gl _ _ _ _ _ _ _ (T14.setTop (mkF m 106 #[.val (.ref a1)] [(.int (bc + (0 : Int32))), (.ref a1)]))
        obtain ⟨T16, h16, X16, e16, W16, st16⟩ := putF X14 hx hZ hown (host := "") (Or.inl (hw _ (List.mem_of_getElem? (i := 50) rfl))) Via.refl e14 Gf1_4 Gf1_0 (Or.inl (hw _ (List.mem_of_getElem? (i := 51) rfl))) (hw _ (List.mem_of_getElem? (i := 19) rfl)) (ty := .int) (by decide) rfl rfl (g := (mkF m 106 #[.val (.ref a1)] [(.int (bc + (0 : Int32))), (.ref a1)])) rfl rfl (hb hby d8_106)
        refine Gl.st st16 ?_
        have Z16 : n0 ≤ h16.size := Nat.le_trans Zl1 (Keep.of_wr W16).1
        have N16 := Fr.snoc X16 Nl1 g_a1
        have K16 : Keep h0 h16 [a1] := Kl1.wr W16 (Or.inl (List.mem_of_getElem? (i := 0) rfl))
        have Gf1_0'17 : Exa Z h16 a1 "com/example/millrace/millrace/JsonObject$Parser" := Gf1_0.wr W16
        have Gf1_1'18 : Fld Z h16 a1 "com/example/millrace/millrace/JsonObject$Parser" "text" "[B" (.ref ta) := Gf1_1.other W16 (Or.inr (slot_ne (Or.inr (hw _ (List.mem_of_getElem? (i := 28) rfl))) (Or.inl (hw _ (List.mem_of_getElem? (i := 51) rfl))) (by decide) (t := (.array .byte)) (t' := .int) (by decide) (by decide)))
        have Gf1_2'19 : Fld Z h16 a1 "com/example/millrace/millrace/JsonObject$Parser" "at" "I" (.int i) := Gf1_2.other W16 (Or.inr (slot_ne (Or.inl (hw _ (List.mem_of_getElem? (i := 30) rfl))) (Or.inl (hw _ (List.mem_of_getElem? (i := 51) rfl))) (by decide) (t := .int) (t' := .int) (by decide) (by decide)))
        have Gf1_3'20 : Fld Z h16 a1 "com/example/millrace/millrace/JsonObject$Parser" "end" "I" (.int en) := Gf1_3.other W16 (Or.inr (slot_ne (Or.inr (hw _ (List.mem_of_getElem? (i := 32) rfl))) (Or.inl (hw _ (List.mem_of_getElem? (i := 51) rfl))) (by decide) (t := .int) (t' := .int) (by decide) (by decide)))
        have Gf1_5'21 : Arv Z h16 ta ck .byte (4 : Int32) [(.int w0), (.int w1), (.int w2), (.int w3)] (.int (0 : Int32)) := Gf1_5.other W16 hne
        have Fw16 : Fld Z h16 a1 "com/example/millrace/millrace/JsonObject$Parser" "breaks" "I" (.int (bc + (0 : Int32))) := Gf1_4.same W16
        show Gl _ _ _ _ _ _ _ (T16.setTop (mkF m 109 #[.val (.ref a1)] []))
        refine Gl.st (fun t k => XS.aloadN X16.here hx rfl (hb hby d8_109) rfl rfl k) ?_
        show Gl _ _ _ _ _ _ _ (T16.setTop (mkF m 110 #[.val (.ref a1)] [(.ref a1)]))
        refine Gl.st (fun t k => XS.dup X16.here hx rfl (hb hby d8_110) rfl rfl k) ?_
        show Gl _ _ _ _ _ _ _ (T16.setTop (mkF m 111 #[.val (.ref a1)] [(.ref a1), (.ref a1)]))
        obtain ⟨T22, X22, e22, st22⟩ := getF X16 hx hZ hown (host := "") (Or.inl (hw _ (List.mem_of_getElem? (i := 29) rfl))) Via.refl e16 Gf1_2'19 (g := (mkF m 111 #[.val (.ref a1)] [(.ref a1), (.ref a1)])) rfl rfl (hb hby d8_111)
        refine Gl.st st22 ?_
        show Gl _ _ _ _ _ _ _ (T22.setTop (mkF m 114 #[.val (.ref a1)] [(.int i), (.ref a1)]))
        refine Gl.st (fun t k => XS.iconst X22.here hx rfl (hb hby d8_114) k) ?_
        show Gl _ _ _ _ _ _ _ (T22.setTop (mkF m 115 #[.val (.ref a1)] [(.int (1 : Int32)), (.int i), (.ref a1)]))
        refine Gl.st (fun t k => XS.iadd X22.here hx rfl (hb hby d8_115) rfl k) ?_
        show Gl _ _ _ _ _ _ _ (T22.setTop (mkF m 116 #[.val (.ref a1)] [(.int (i + (1 : Int32))), (.ref a1)]))
        obtain ⟨T23, h23, X23, e23, W23, st23⟩ := putF X22 hx hZ hown (host := "") (Or.inl (hw _ (List.mem_of_getElem? (i := 29) rfl))) Via.refl e22 Gf1_2'19 Gf1_0'17 (Or.inl (hw _ (List.mem_of_getElem? (i := 30) rfl))) (hw _ (List.mem_of_getElem? (i := 19) rfl)) (ty := .int) (by decide) rfl rfl (g := (mkF m 116 #[.val (.ref a1)] [(.int (i + (1 : Int32))), (.ref a1)])) rfl rfl (hb hby d8_116)
        refine Gl.st st23 ?_
        have Z23 : n0 ≤ h23.size := Nat.le_trans Z16 (Keep.of_wr W23).1
        have N23 := Fr.snoc X23 N16 g_a1
        have K23 : Keep h0 h23 [a1] := K16.wr W23 (Or.inl (List.mem_of_getElem? (i := 0) rfl))
        have Gf1_0'24 : Exa Z h23 a1 "com/example/millrace/millrace/JsonObject$Parser" := Gf1_0'17.wr W23
        have Gf1_1'25 : Fld Z h23 a1 "com/example/millrace/millrace/JsonObject$Parser" "text" "[B" (.ref ta) := Gf1_1'18.other W23 (Or.inr (slot_ne (Or.inr (hw _ (List.mem_of_getElem? (i := 28) rfl))) (Or.inl (hw _ (List.mem_of_getElem? (i := 30) rfl))) (by decide) (t := (.array .byte)) (t' := .int) (by decide) (by decide)))
        have Gf1_3'26 : Fld Z h23 a1 "com/example/millrace/millrace/JsonObject$Parser" "end" "I" (.int en) := Gf1_3'20.other W23 (Or.inr (slot_ne (Or.inr (hw _ (List.mem_of_getElem? (i := 32) rfl))) (Or.inl (hw _ (List.mem_of_getElem? (i := 30) rfl))) (by decide) (t := .int) (t' := .int) (by decide) (by decide)))
        have Fw16'27 : Fld Z h23 a1 "com/example/millrace/millrace/JsonObject$Parser" "breaks" "I" (.int (bc + (0 : Int32))) := Fw16.other W23 (Or.inr (slot_ne (Or.inl (hw _ (List.mem_of_getElem? (i := 51) rfl))) (Or.inl (hw _ (List.mem_of_getElem? (i := 30) rfl))) (by decide) (t := .int) (t' := .int) (by decide) (by decide)))
        have Gf1_5'28 : Arv Z h23 ta ck .byte (4 : Int32) [(.int w0), (.int w1), (.int w2), (.int w3)] (.int (0 : Int32)) := Gf1_5'21.other W23 hne
        have Fw23 : Fld Z h23 a1 "com/example/millrace/millrace/JsonObject$Parser" "at" "I" (.int (i + (1 : Int32))) := Gf1_2'19.same W23
        show Gl _ _ _ _ _ _ _ (T23.setTop (mkF m 119 #[.val (.ref a1)] []))
        refine Gl.st (fun t k => XS.goto X23.here hx rfl (pc0 := 119) (pc' := 0) rfl (hb hby d8_119) (by decide) (by decide) k) ?_
        show Gl _ _ _ _ _ _ _ (T23.setTop (mkF m 0 #[.val (.ref a1)] []))
        exact ih _ _ _ X23 e23 N23 Z23 K23 (_) (_)  Gf1_0'24 Gf1_1'25 Fw23 Gf1_3'26 Fw16'27 Gf1_5'28 (by rw [own_succ (by omega)]; omega) (by rw [own_succ (by omega)]; omega) ((own_go (by rw [hc22]; decide) (by rw [hc22]; decide)).symm.trans hR)
      · refine Gl.st (fun t k => XS.icmpNo X10.here hx rfl (hb hby d8_22) rfl (feq hc22).1 k) ?_
        show Gl _ _ _ _ _ _ _ (T10.setTop (mkF m 25 #[.val (.ref a1)] []))
        refine Gl.st (fun t k => XS.aloadN X10.here hx rfl (hb hby d8_25) rfl rfl k) ?_
        show Gl _ _ _ _ _ _ _ (T10.setTop (mkF m 26 #[.val (.ref a1)] [(.ref a1)]))
        obtain ⟨T29, X29, e29, st29⟩ := getF X10 hx hZ hown (host := "") (Or.inl (hw _ (List.mem_of_getElem? (i := 27) rfl))) Via.refl e10 Gf1_1 (g := (mkF m 26 #[.val (.ref a1)] [(.ref a1)])) rfl rfl (hb hby d8_26)
        refine Gl.st st29 ?_
        show Gl _ _ _ _ _ _ _ (T29.setTop (mkF m 29 #[.val (.ref a1)] [(.ref ta)]))
        refine Gl.st (fun t k => XS.aloadN X29.here hx rfl (hb hby d8_29) rfl rfl k) ?_
        show Gl _ _ _ _ _ _ _ (T29.setTop (mkF m 30 #[.val (.ref a1)] [(.ref a1), (.ref ta)]))
        obtain ⟨T30, X30, e30, st30⟩ := getF X29 hx hZ hown (host := "") (Or.inl (hw _ (List.mem_of_getElem? (i := 29) rfl))) Via.refl e29 Gf1_2 (g := (mkF m 30 #[.val (.ref a1)] [(.ref a1), (.ref ta)])) rfl rfl (hb hby d8_30)
        refine Gl.st st30 ?_
        show Gl _ _ _ _ _ _ _ (T30.setTop (mkF m 33 #[.val (.ref a1)] [(.int i), (.ref ta)]))
        have Vx31 := Gf1_5
        obtain ⟨cl31, Ar31, qk31, S31, M31, H31, G31⟩ := Vx31
        have hin31 : ¬ (i < 0 ∨ cl31.slots.size ≤ (i).toNatClampNeg) := inb_of S31 ⟨own_nn hi1, own_lit (n := 4) (by decide) (by omega)⟩
        have hat31 : cl31.slots[(i).toNatClampNeg]? = some (.int ([w0, w1, w2, w3].getD i.toNatClampNeg 0)) := H31.at hin31 (own_getD [w0, w1, w2, w3] _)
        refine Gl.st (X30.baloadBytes hx (j := i) (v := (.int ([w0, w1, w2, w3].getD i.toNatClampNeg 0))) (by rw [e30]; exact Ar31.1) (State.isArrayOf_alike hZ.alike Ar31.2.1) Ar31.2.2 hin31 hat31 (g := (mkF m 33 #[.val (.ref a1)] [(.int i), (.ref ta)])) rfl rfl (hb hby d8_33)) ?_
        show Gl _ _ _ _ _ _ _ (T30.setTop (mkF m 34 #[.val (.ref a1)] [(.int ([w0, w1, w2, w3].getD i.toNatClampNeg 0))]))
        refine Gl.st (fun t k => XS.bipush X30.here hx rfl (hb hby d8_34) k) ?_
        show Gl _ _ _ _ _ _ _ (T30.setTop (mkF m 36 #[.val (.ref a1)] [(.int (9 : Int32)), (.int ([w0, w1, w2, w3].getD i.toNatClampNeg 0))]))
        by_cases hc36 : ([w0, w1, w2, w3].getD i.toNatClampNeg 0) = (9 : Int32)
        · refine Gl.st (fun t k => XS.icmpYes X30.here hx rfl (pc0 := 36) (pc' := 67) rfl (hb hby d8_36) rfl (teq hc36).1 (by decide) (by decide) k) ?_
          show Gl _ _ _ _ _ _ _ (T30.setTop (mkF m 67 #[.val (.ref a1)] []))
          refine Gl.st (fun t k => XS.aloadN X30.here hx rfl (hb hby d8_67) rfl rfl k) ?_
          show Gl _ _ _ _ _ _ _ (T30.setTop (mkF m 68 #[.val (.ref a1)] [(.ref a1)]))
          refine Gl.st (fun t k => XS.dup X30.here hx rfl (hb hby d8_68) rfl rfl k) ?_
          show Gl _ _ _ _ _ _ _ (T30.setTop (mkF m 69 #[.val (.ref a1)] [(.ref a1), (.ref a1)]))
          obtain ⟨T32, X32, e32, st32⟩ := getF X30 hx hZ hown (host := "") (Or.inl (hw _ (List.mem_of_getElem? (i := 50) rfl))) Via.refl e30 Gf1_4 (g := (mkF m 69 #[.val (.ref a1)] [(.ref a1), (.ref a1)])) rfl rfl (hb hby d8_69)
          refine Gl.st st32 ?_
          show Gl _ _ _ _ _ _ _ (T32.setTop (mkF m 72 #[.val (.ref a1)] [(.int bc), (.ref a1)]))
          refine Gl.st (fun t k => XS.aloadN X32.here hx rfl (hb hby d8_72) rfl rfl k) ?_
          show Gl _ _ _ _ _ _ _ (T32.setTop (mkF m 73 #[.val (.ref a1)] [(.ref a1), (.int bc), (.ref a1)]))
          obtain ⟨T33, X33, e33, st33⟩ := getF X32 hx hZ hown (host := "") (Or.inl (hw _ (List.mem_of_getElem? (i := 27) rfl))) Via.refl e32 Gf1_1 (g := (mkF m 73 #[.val (.ref a1)] [(.ref a1), (.int bc), (.ref a1)])) rfl rfl (hb hby d8_73)
          refine Gl.st st33 ?_
          show Gl _ _ _ _ _ _ _ (T33.setTop (mkF m 76 #[.val (.ref a1)] [(.ref ta), (.int bc), (.ref a1)]))
          refine Gl.st (fun t k => XS.aloadN X33.here hx rfl (hb hby d8_76) rfl rfl k) ?_
          show Gl _ _ _ _ _ _ _ (T33.setTop (mkF m 77 #[.val (.ref a1)] [(.ref a1), (.ref ta), (.int bc), (.ref a1)]))
          obtain ⟨T34, X34, e34, st34⟩ := getF X33 hx hZ hown (host := "") (Or.inl (hw _ (List.mem_of_getElem? (i := 29) rfl))) Via.refl e33 Gf1_2 (g := (mkF m 77 #[.val (.ref a1)] [(.ref a1), (.ref ta), (.int bc), (.ref a1)])) rfl rfl (hb hby d8_77)
          refine Gl.st st34 ?_
          show Gl _ _ _ _ _ _ _ (T34.setTop (mkF m 80 #[.val (.ref a1)] [(.int i), (.ref ta), (.int bc), (.ref a1)]))
          have Vx35 := Gf1_5
          obtain ⟨cl35, Ar35, qk35, S35, M35, H35, G35⟩ := Vx35
          have hin35 : ¬ (i < 0 ∨ cl35.slots.size ≤ (i).toNatClampNeg) := inb_of S35 ⟨own_nn hi1, own_lit (n := 4) (by decide) (by omega)⟩
          have hat35 : cl35.slots[(i).toNatClampNeg]? = some (.int ([w0, w1, w2, w3].getD i.toNatClampNeg 0)) := H35.at hin35 (own_getD [w0, w1, w2, w3] _)
          refine Gl.st (X34.baloadBytes hx (j := i) (v := (.int ([w0, w1, w2, w3].getD i.toNatClampNeg 0))) (by rw [e34]; exact Ar35.1) (State.isArrayOf_alike hZ.alike Ar35.2.1) Ar35.2.2 hin35 hat35 (g := (mkF m 80 #[.val (.ref a1)] [(.int i), (.ref ta), (.int bc), (.ref a1)])) rfl rfl (hb hby d8_80)) ?_
          show Gl _ _ _ _ _ _ _ (T34.setTop (mkF m 81 #[.val (.ref a1)] [(.int ([w0, w1, w2, w3].getD i.toNatClampNeg 0)), (.int bc), (.ref a1)]))
          refine Gl.st (fun t k => XS.bipush X34.here hx rfl (hb hby d8_81) k) ?_
          show Gl _ _ _ _ _ _ _ (T34.setTop (mkF m 83 #[.val (.ref a1)] [(.int (32 : Int32)), (.int ([w0, w1, w2, w3].getD i.toNatClampNeg 0)), (.int bc), (.ref a1)]))
          refine Gl.st (fun t k => XS.icmpNo X34.here hx rfl (hb hby d8_83) rfl (feq hc22).1 k) ?_
          show Gl _ _ _ _ _ _ _ (T34.setTop (mkF m 86 #[.val (.ref a1)] [(.int bc), (.ref a1)]))
          refine Gl.st (fun t k => XS.aloadN X34.here hx rfl (hb hby d8_86) rfl rfl k) ?_
          show Gl _ _ _ _ _ _ _ (T34.setTop (mkF m 87 #[.val (.ref a1)] [(.ref a1), (.int bc), (.ref a1)]))
          obtain ⟨T36, X36, e36, st36⟩ := getF X34 hx hZ hown (host := "") (Or.inl (hw _ (List.mem_of_getElem? (i := 27) rfl))) Via.refl e34 Gf1_1 (g := (mkF m 87 #[.val (.ref a1)] [(.ref a1), (.int bc), (.ref a1)])) rfl rfl (hb hby d8_87)
          refine Gl.st st36 ?_
          show Gl _ _ _ _ _ _ _ (T36.setTop (mkF m 90 #[.val (.ref a1)] [(.ref ta), (.int bc), (.ref a1)]))
          refine Gl.st (fun t k => XS.aloadN X36.here hx rfl (hb hby d8_90) rfl rfl k) ?_
          show Gl _ _ _ _ _ _ _ (T36.setTop (mkF m 91 #[.val (.ref a1)] [(.ref a1), (.ref ta), (.int bc), (.ref a1)]))
          obtain ⟨T37, X37, e37, st37⟩ := getF X36 hx hZ hown (host := "") (Or.inl (hw _ (List.mem_of_getElem? (i := 29) rfl))) Via.refl e36 Gf1_2 (g := (mkF m 91 #[.val (.ref a1)] [(.ref a1), (.ref ta), (.int bc), (.ref a1)])) rfl rfl (hb hby d8_91)
          refine Gl.st st37 ?_
          show Gl _ _ _ _ _ _ _ (T37.setTop (mkF m 94 #[.val (.ref a1)] [(.int i), (.ref ta), (.int bc), (.ref a1)]))
          have Vx38 := Gf1_5
          obtain ⟨cl38, Ar38, qk38, S38, M38, H38, G38⟩ := Vx38
          have hin38 : ¬ (i < 0 ∨ cl38.slots.size ≤ (i).toNatClampNeg) := inb_of S38 ⟨own_nn hi1, own_lit (n := 4) (by decide) (by omega)⟩
          have hat38 : cl38.slots[(i).toNatClampNeg]? = some (.int ([w0, w1, w2, w3].getD i.toNatClampNeg 0)) := H38.at hin38 (own_getD [w0, w1, w2, w3] _)
          refine Gl.st (X37.baloadBytes hx (j := i) (v := (.int ([w0, w1, w2, w3].getD i.toNatClampNeg 0))) (by rw [e37]; exact Ar38.1) (State.isArrayOf_alike hZ.alike Ar38.2.1) Ar38.2.2 hin38 hat38 (g := (mkF m 94 #[.val (.ref a1)] [(.int i), (.ref ta), (.int bc), (.ref a1)])) rfl rfl (hb hby d8_94)) ?_
          show Gl _ _ _ _ _ _ _ (T37.setTop (mkF m 95 #[.val (.ref a1)] [(.int ([w0, w1, w2, w3].getD i.toNatClampNeg 0)), (.int bc), (.ref a1)]))
          refine Gl.st (fun t k => XS.bipush X37.here hx rfl (hb hby d8_95) k) ?_
          show Gl _ _ _ _ _ _ _ (T37.setTop (mkF m 97 #[.val (.ref a1)] [(.int (9 : Int32)), (.int ([w0, w1, w2, w3].getD i.toNatClampNeg 0)), (.int bc), (.ref a1)]))
          refine Gl.st (fun t k => XS.icmpNo X37.here hx rfl (hb hby d8_97) rfl (teq hc36).2 k) ?_
          show Gl _ _ _ _ _ _ _ (T37.setTop (mkF m 100 #[.val (.ref a1)] [(.int bc), (.ref a1)]))
          refine Gl.st (fun t k => XS.iconst X37.here hx rfl (hb hby d8_100) k) ?_
          show Gl _ _ _ _ _ _ _ (T37.setTop (mkF m 101 #[.val (.ref a1)] [(.int (0 : Int32)), (.int bc), (.ref a1)]))
          refine Gl.st (fun t k => XS.goto X37.here hx rfl (pc0 := 101) (pc' := 105) rfl (hb hby d8_101) (by decide) (by decide) k) ?_
          show Gl _ _ _ _ _ _ _ (T37.setTop (mkF m 105 #[.val (.ref a1)] [(.int (0 : Int32)), (.int bc), (.ref a1)]))
          refine Gl.st (fun t k => XS.iadd X37.here hx rfl (hb hby d8_105) rfl k) ?_
          show Gl _ _ _ _ _ _ _ (T37.setTop (mkF m 106 #[.val (.ref a1)] [(.int (bc + (0 : Int32))), (.ref a1)]))
          obtain ⟨T39, h39, X39, e39, W39, st39⟩ := putF X37 hx hZ hown (host := "") (Or.inl (hw _ (List.mem_of_getElem? (i := 50) rfl))) Via.refl e37 Gf1_4 Gf1_0 (Or.inl (hw _ (List.mem_of_getElem? (i := 51) rfl))) (hw _ (List.mem_of_getElem? (i := 19) rfl)) (ty := .int) (by decide) rfl rfl (g := (mkF m 106 #[.val (.ref a1)] [(.int (bc + (0 : Int32))), (.ref a1)])) rfl rfl (hb hby d8_106)
          refine Gl.st st39 ?_
          have Z39 : n0 ≤ h39.size := Nat.le_trans Zl1 (Keep.of_wr W39).1
          have N39 := Fr.snoc X39 Nl1 g_a1
          have K39 : Keep h0 h39 [a1] := Kl1.wr W39 (Or.inl (List.mem_of_getElem? (i := 0) rfl))
          have Gf1_0'40 : Exa Z h39 a1 "com/example/millrace/millrace/JsonObject$Parser" := Gf1_0.wr W39
          have Gf1_1'41 : Fld Z h39 a1 "com/example/millrace/millrace/JsonObject$Parser" "text" "[B" (.ref ta) := Gf1_1.other W39 (Or.inr (slot_ne (Or.inr (hw _ (List.mem_of_getElem? (i := 28) rfl))) (Or.inl (hw _ (List.mem_of_getElem? (i := 51) rfl))) (by decide) (t := (.array .byte)) (t' := .int) (by decide) (by decide)))
          have Gf1_2'42 : Fld Z h39 a1 "com/example/millrace/millrace/JsonObject$Parser" "at" "I" (.int i) := Gf1_2.other W39 (Or.inr (slot_ne (Or.inl (hw _ (List.mem_of_getElem? (i := 30) rfl))) (Or.inl (hw _ (List.mem_of_getElem? (i := 51) rfl))) (by decide) (t := .int) (t' := .int) (by decide) (by decide)))
          have Gf1_3'43 : Fld Z h39 a1 "com/example/millrace/millrace/JsonObject$Parser" "end" "I" (.int en) := Gf1_3.other W39 (Or.inr (slot_ne (Or.inr (hw _ (List.mem_of_getElem? (i := 32) rfl))) (Or.inl (hw _ (List.mem_of_getElem? (i := 51) rfl))) (by decide) (t := .int) (t' := .int) (by decide) (by decide)))
          have Gf1_5'44 : Arv Z h39 ta ck .byte (4 : Int32) [(.int w0), (.int w1), (.int w2), (.int w3)] (.int (0 : Int32)) := Gf1_5.other W39 hne
          have Fw39 : Fld Z h39 a1 "com/example/millrace/millrace/JsonObject$Parser" "breaks" "I" (.int (bc + (0 : Int32))) := Gf1_4.same W39
          show Gl _ _ _ _ _ _ _ (T39.setTop (mkF m 109 #[.val (.ref a1)] []))
          refine Gl.st (fun t k => XS.aloadN X39.here hx rfl (hb hby d8_109) rfl rfl k) ?_
          show Gl _ _ _ _ _ _ _ (T39.setTop (mkF m 110 #[.val (.ref a1)] [(.ref a1)]))
          refine Gl.st (fun t k => XS.dup X39.here hx rfl (hb hby d8_110) rfl rfl k) ?_
          show Gl _ _ _ _ _ _ _ (T39.setTop (mkF m 111 #[.val (.ref a1)] [(.ref a1), (.ref a1)]))
          obtain ⟨T45, X45, e45, st45⟩ := getF X39 hx hZ hown (host := "") (Or.inl (hw _ (List.mem_of_getElem? (i := 29) rfl))) Via.refl e39 Gf1_2'42 (g := (mkF m 111 #[.val (.ref a1)] [(.ref a1), (.ref a1)])) rfl rfl (hb hby d8_111)
          refine Gl.st st45 ?_
          show Gl _ _ _ _ _ _ _ (T45.setTop (mkF m 114 #[.val (.ref a1)] [(.int i), (.ref a1)]))
          refine Gl.st (fun t k => XS.iconst X45.here hx rfl (hb hby d8_114) k) ?_
          show Gl _ _ _ _ _ _ _ (T45.setTop (mkF m 115 #[.val (.ref a1)] [(.int (1 : Int32)), (.int i), (.ref a1)]))
          refine Gl.st (fun t k => XS.iadd X45.here hx rfl (hb hby d8_115) rfl k) ?_
          show Gl _ _ _ _ _ _ _ (T45.setTop (mkF m 116 #[.val (.ref a1)] [(.int (i + (1 : Int32))), (.ref a1)]))
          obtain ⟨T46, h46, X46, e46, W46, st46⟩ := putF X45 hx hZ hown (host := "") (Or.inl (hw _ (List.mem_of_getElem? (i := 29) rfl))) Via.refl e45 Gf1_2'42 Gf1_0'40 (Or.inl (hw _ (List.mem_of_getElem? (i := 30) rfl))) (hw _ (List.mem_of_getElem? (i := 19) rfl)) (ty := .int) (by decide) rfl rfl (g := (mkF m 116 #[.val (.ref a1)] [(.int (i + (1 : Int32))), (.ref a1)])) rfl rfl (hb hby d8_116)
          refine Gl.st st46 ?_
          have Z46 : n0 ≤ h46.size := Nat.le_trans Z39 (Keep.of_wr W46).1
          have N46 := Fr.snoc X46 N39 g_a1
          have K46 : Keep h0 h46 [a1] := K39.wr W46 (Or.inl (List.mem_of_getElem? (i := 0) rfl))
          have Gf1_0'47 : Exa Z h46 a1 "com/example/millrace/millrace/JsonObject$Parser" := Gf1_0'40.wr W46
          have Gf1_1'48 : Fld Z h46 a1 "com/example/millrace/millrace/JsonObject$Parser" "text" "[B" (.ref ta) := Gf1_1'41.other W46 (Or.inr (slot_ne (Or.inr (hw _ (List.mem_of_getElem? (i := 28) rfl))) (Or.inl (hw _ (List.mem_of_getElem? (i := 30) rfl))) (by decide) (t := (.array .byte)) (t' := .int) (by decide) (by decide)))
          have Gf1_3'49 : Fld Z h46 a1 "com/example/millrace/millrace/JsonObject$Parser" "end" "I" (.int en) := Gf1_3'43.other W46 (Or.inr (slot_ne (Or.inr (hw _ (List.mem_of_getElem? (i := 32) rfl))) (Or.inl (hw _ (List.mem_of_getElem? (i := 30) rfl))) (by decide) (t := .int) (t' := .int) (by decide) (by decide)))
          have Fw39'50 : Fld Z h46 a1 "com/example/millrace/millrace/JsonObject$Parser" "breaks" "I" (.int (bc + (0 : Int32))) := Fw39.other W46 (Or.inr (slot_ne (Or.inl (hw _ (List.mem_of_getElem? (i := 51) rfl))) (Or.inl (hw _ (List.mem_of_getElem? (i := 30) rfl))) (by decide) (t := .int) (t' := .int) (by decide) (by decide)))
          have Gf1_5'51 : Arv Z h46 ta ck .byte (4 : Int32) [(.int w0), (.int w1), (.int w2), (.int w3)] (.int (0 : Int32)) := Gf1_5'44.other W46 hne
          have Fw46 : Fld Z h46 a1 "com/example/millrace/millrace/JsonObject$Parser" "at" "I" (.int (i + (1 : Int32))) := Gf1_2'42.same W46
          show Gl _ _ _ _ _ _ _ (T46.setTop (mkF m 119 #[.val (.ref a1)] []))
          refine Gl.st (fun t k => XS.goto X46.here hx rfl (pc0 := 119) (pc' := 0) rfl (hb hby d8_119) (by decide) (by decide) k) ?_
          show Gl _ _ _ _ _ _ _ (T46.setTop (mkF m 0 #[.val (.ref a1)] []))
          exact ih _ _ _ X46 e46 N46 Z46 K46 (_) (_)  Gf1_0'47 Gf1_1'48 Fw46 Gf1_3'49 Fw39'50 Gf1_5'51 (by rw [own_succ (by omega)]; omega) (by rw [own_succ (by omega)]; omega) ((own_go (by rw [hc36]; decide) (by rw [hc36]; decide)).symm.trans hR)
        · refine Gl.st (fun t k => XS.icmpNo X30.here hx rfl (hb hby d8_36) rfl (feq hc36).1 k) ?_
          show Gl _ _ _ _ _ _ _ (T30.setTop (mkF m 39 #[.val (.ref a1)] []))
          refine Gl.st (fun t k => XS.aloadN X30.here hx rfl (hb hby d8_39) rfl rfl k) ?_
          show Gl _ _ _ _ _ _ _ (T30.setTop (mkF m 40 #[.val (.ref a1)] [(.ref a1)]))
          obtain ⟨T52, X52, e52, st52⟩ := getF X30 hx hZ hown (host := "") (Or.inl (hw _ (List.mem_of_getElem? (i := 27) rfl))) Via.refl e30 Gf1_1 (g := (mkF m 40 #[.val (.ref a1)] [(.ref a1)])) rfl rfl (hb hby d8_40)
          refine Gl.st st52 ?_
          show Gl _ _ _ _ _ _ _ (T52.setTop (mkF m 43 #[.val (.ref a1)] [(.ref ta)]))
          refine Gl.st (fun t k => XS.aloadN X52.here hx rfl (hb hby d8_43) rfl rfl k) ?_
          show Gl _ _ _ _ _ _ _ (T52.setTop (mkF m 44 #[.val (.ref a1)] [(.ref a1), (.ref ta)]))
          obtain ⟨T53, X53, e53, st53⟩ := getF X52 hx hZ hown (host := "") (Or.inl (hw _ (List.mem_of_getElem? (i := 29) rfl))) Via.refl e52 Gf1_2 (g := (mkF m 44 #[.val (.ref a1)] [(.ref a1), (.ref ta)])) rfl rfl (hb hby d8_44)
          refine Gl.st st53 ?_
          show Gl _ _ _ _ _ _ _ (T53.setTop (mkF m 47 #[.val (.ref a1)] [(.int i), (.ref ta)]))
          have Vx54 := Gf1_5
          obtain ⟨cl54, Ar54, qk54, S54, M54, H54, G54⟩ := Vx54
          have hin54 : ¬ (i < 0 ∨ cl54.slots.size ≤ (i).toNatClampNeg) := inb_of S54 ⟨own_nn hi1, own_lit (n := 4) (by decide) (by omega)⟩
          have hat54 : cl54.slots[(i).toNatClampNeg]? = some (.int ([w0, w1, w2, w3].getD i.toNatClampNeg 0)) := H54.at hin54 (own_getD [w0, w1, w2, w3] _)
          refine Gl.st (X53.baloadBytes hx (j := i) (v := (.int ([w0, w1, w2, w3].getD i.toNatClampNeg 0))) (by rw [e53]; exact Ar54.1) (State.isArrayOf_alike hZ.alike Ar54.2.1) Ar54.2.2 hin54 hat54 (g := (mkF m 47 #[.val (.ref a1)] [(.int i), (.ref ta)])) rfl rfl (hb hby d8_47)) ?_
          show Gl _ _ _ _ _ _ _ (T53.setTop (mkF m 48 #[.val (.ref a1)] [(.int ([w0, w1, w2, w3].getD i.toNatClampNeg 0))]))
          refine Gl.st (fun t k => XS.bipush X53.here hx rfl (hb hby d8_48) k) ?_
          show Gl _ _ _ _ _ _ _ (T53.setTop (mkF m 50 #[.val (.ref a1)] [(.int (13 : Int32)), (.int ([w0, w1, w2, w3].getD i.toNatClampNeg 0))]))
          by_cases hc50 : ([w0, w1, w2, w3].getD i.toNatClampNeg 0) = (13 : Int32)
          · refine Gl.st (fun t k => XS.icmpYes X53.here hx rfl (pc0 := 50) (pc' := 67) rfl (hb hby d8_50) rfl (teq hc50).1 (by decide) (by decide) k) ?_
            show Gl _ _ _ _ _ _ _ (T53.setTop (mkF m 67 #[.val (.ref a1)] []))
            refine Gl.st (fun t k => XS.aloadN X53.here hx rfl (hb hby d8_67) rfl rfl k) ?_
            show Gl _ _ _ _ _ _ _ (T53.setTop (mkF m 68 #[.val (.ref a1)] [(.ref a1)]))
            refine Gl.st (fun t k => XS.dup X53.here hx rfl (hb hby d8_68) rfl rfl k) ?_
            show Gl _ _ _ _ _ _ _ (T53.setTop (mkF m 69 #[.val (.ref a1)] [(.ref a1), (.ref a1)]))
            obtain ⟨T55, X55, e55, st55⟩ := getF X53 hx hZ hown (host := "") (Or.inl (hw _ (List.mem_of_getElem? (i := 50) rfl))) Via.refl e53 Gf1_4 (g := (mkF m 69 #[.val (.ref a1)] [(.ref a1), (.ref a1)])) rfl rfl (hb hby d8_69)
            refine Gl.st st55 ?_
            show Gl _ _ _ _ _ _ _ (T55.setTop (mkF m 72 #[.val (.ref a1)] [(.int bc), (.ref a1)]))
            refine Gl.st (fun t k => XS.aloadN X55.here hx rfl (hb hby d8_72) rfl rfl k) ?_
            show Gl _ _ _ _ _ _ _ (T55.setTop (mkF m 73 #[.val (.ref a1)] [(.ref a1), (.int bc), (.ref a1)]))
            obtain ⟨T56, X56, e56, st56⟩ := getF X55 hx hZ hown (host := "") (Or.inl (hw _ (List.mem_of_getElem? (i := 27) rfl))) Via.refl e55 Gf1_1 (g := (mkF m 73 #[.val (.ref a1)] [(.ref a1), (.int bc), (.ref a1)])) rfl rfl (hb hby d8_73)
            refine Gl.st st56 ?_
            show Gl _ _ _ _ _ _ _ (T56.setTop (mkF m 76 #[.val (.ref a1)] [(.ref ta), (.int bc), (.ref a1)]))
            refine Gl.st (fun t k => XS.aloadN X56.here hx rfl (hb hby d8_76) rfl rfl k) ?_
            show Gl _ _ _ _ _ _ _ (T56.setTop (mkF m 77 #[.val (.ref a1)] [(.ref a1), (.ref ta), (.int bc), (.ref a1)]))
            obtain ⟨T57, X57, e57, st57⟩ := getF X56 hx hZ hown (host := "") (Or.inl (hw _ (List.mem_of_getElem? (i := 29) rfl))) Via.refl e56 Gf1_2 (g := (mkF m 77 #[.val (.ref a1)] [(.ref a1), (.ref ta), (.int bc), (.ref a1)])) rfl rfl (hb hby d8_77)
            refine Gl.st st57 ?_
            show Gl _ _ _ _ _ _ _ (T57.setTop (mkF m 80 #[.val (.ref a1)] [(.int i), (.ref ta), (.int bc), (.ref a1)]))
            have Vx58 := Gf1_5
            obtain ⟨cl58, Ar58, qk58, S58, M58, H58, G58⟩ := Vx58
            have hin58 : ¬ (i < 0 ∨ cl58.slots.size ≤ (i).toNatClampNeg) := inb_of S58 ⟨own_nn hi1, own_lit (n := 4) (by decide) (by omega)⟩
            have hat58 : cl58.slots[(i).toNatClampNeg]? = some (.int ([w0, w1, w2, w3].getD i.toNatClampNeg 0)) := H58.at hin58 (own_getD [w0, w1, w2, w3] _)
            refine Gl.st (X57.baloadBytes hx (j := i) (v := (.int ([w0, w1, w2, w3].getD i.toNatClampNeg 0))) (by rw [e57]; exact Ar58.1) (State.isArrayOf_alike hZ.alike Ar58.2.1) Ar58.2.2 hin58 hat58 (g := (mkF m 80 #[.val (.ref a1)] [(.int i), (.ref ta), (.int bc), (.ref a1)])) rfl rfl (hb hby d8_80)) ?_
            show Gl _ _ _ _ _ _ _ (T57.setTop (mkF m 81 #[.val (.ref a1)] [(.int ([w0, w1, w2, w3].getD i.toNatClampNeg 0)), (.int bc), (.ref a1)]))
            refine Gl.st (fun t k => XS.bipush X57.here hx rfl (hb hby d8_81) k) ?_
            show Gl _ _ _ _ _ _ _ (T57.setTop (mkF m 83 #[.val (.ref a1)] [(.int (32 : Int32)), (.int ([w0, w1, w2, w3].getD i.toNatClampNeg 0)), (.int bc), (.ref a1)]))
            refine Gl.st (fun t k => XS.icmpNo X57.here hx rfl (hb hby d8_83) rfl (feq hc22).1 k) ?_
            show Gl _ _ _ _ _ _ _ (T57.setTop (mkF m 86 #[.val (.ref a1)] [(.int bc), (.ref a1)]))
            refine Gl.st (fun t k => XS.aloadN X57.here hx rfl (hb hby d8_86) rfl rfl k) ?_
            show Gl _ _ _ _ _ _ _ (T57.setTop (mkF m 87 #[.val (.ref a1)] [(.ref a1), (.int bc), (.ref a1)]))
            obtain ⟨T59, X59, e59, st59⟩ := getF X57 hx hZ hown (host := "") (Or.inl (hw _ (List.mem_of_getElem? (i := 27) rfl))) Via.refl e57 Gf1_1 (g := (mkF m 87 #[.val (.ref a1)] [(.ref a1), (.int bc), (.ref a1)])) rfl rfl (hb hby d8_87)
            refine Gl.st st59 ?_
            show Gl _ _ _ _ _ _ _ (T59.setTop (mkF m 90 #[.val (.ref a1)] [(.ref ta), (.int bc), (.ref a1)]))
            refine Gl.st (fun t k => XS.aloadN X59.here hx rfl (hb hby d8_90) rfl rfl k) ?_
            show Gl _ _ _ _ _ _ _ (T59.setTop (mkF m 91 #[.val (.ref a1)] [(.ref a1), (.ref ta), (.int bc), (.ref a1)]))
            obtain ⟨T60, X60, e60, st60⟩ := getF X59 hx hZ hown (host := "") (Or.inl (hw _ (List.mem_of_getElem? (i := 29) rfl))) Via.refl e59 Gf1_2 (g := (mkF m 91 #[.val (.ref a1)] [(.ref a1), (.ref ta), (.int bc), (.ref a1)])) rfl rfl (hb hby d8_91)
            refine Gl.st st60 ?_
            show Gl _ _ _ _ _ _ _ (T60.setTop (mkF m 94 #[.val (.ref a1)] [(.int i), (.ref ta), (.int bc), (.ref a1)]))
            have Vx61 := Gf1_5
            obtain ⟨cl61, Ar61, qk61, S61, M61, H61, G61⟩ := Vx61
            have hin61 : ¬ (i < 0 ∨ cl61.slots.size ≤ (i).toNatClampNeg) := inb_of S61 ⟨own_nn hi1, own_lit (n := 4) (by decide) (by omega)⟩
            have hat61 : cl61.slots[(i).toNatClampNeg]? = some (.int ([w0, w1, w2, w3].getD i.toNatClampNeg 0)) := H61.at hin61 (own_getD [w0, w1, w2, w3] _)
            refine Gl.st (X60.baloadBytes hx (j := i) (v := (.int ([w0, w1, w2, w3].getD i.toNatClampNeg 0))) (by rw [e60]; exact Ar61.1) (State.isArrayOf_alike hZ.alike Ar61.2.1) Ar61.2.2 hin61 hat61 (g := (mkF m 94 #[.val (.ref a1)] [(.int i), (.ref ta), (.int bc), (.ref a1)])) rfl rfl (hb hby d8_94)) ?_
            show Gl _ _ _ _ _ _ _ (T60.setTop (mkF m 95 #[.val (.ref a1)] [(.int ([w0, w1, w2, w3].getD i.toNatClampNeg 0)), (.int bc), (.ref a1)]))
            refine Gl.st (fun t k => XS.bipush X60.here hx rfl (hb hby d8_95) k) ?_
            show Gl _ _ _ _ _ _ _ (T60.setTop (mkF m 97 #[.val (.ref a1)] [(.int (9 : Int32)), (.int ([w0, w1, w2, w3].getD i.toNatClampNeg 0)), (.int bc), (.ref a1)]))
            refine Gl.st (fun t k => XS.icmpYes X60.here hx rfl (pc0 := 97) (pc' := 104) rfl (hb hby d8_97) rfl (feq hc36).2 (by decide) (by decide) k) ?_
            show Gl _ _ _ _ _ _ _ (T60.setTop (mkF m 104 #[.val (.ref a1)] [(.int bc), (.ref a1)]))
            refine Gl.st (fun t k => XS.iconst X60.here hx rfl (hb hby d8_104) k) ?_
            show Gl _ _ _ _ _ _ _ (T60.setTop (mkF m 105 #[.val (.ref a1)] [(.int (1 : Int32)), (.int bc), (.ref a1)]))
            refine Gl.st (fun t k => XS.iadd X60.here hx rfl (hb hby d8_105) rfl k) ?_
            show Gl _ _ _ _ _ _ _ (T60.setTop (mkF m 106 #[.val (.ref a1)] [(.int (bc + (1 : Int32))), (.ref a1)]))
            obtain ⟨T62, h62, X62, e62, W62, st62⟩ := putF X60 hx hZ hown (host := "") (Or.inl (hw _ (List.mem_of_getElem? (i := 50) rfl))) Via.refl e60 Gf1_4 Gf1_0 (Or.inl (hw _ (List.mem_of_getElem? (i := 51) rfl))) (hw _ (List.mem_of_getElem? (i := 19) rfl)) (ty := .int) (by decide) rfl rfl (g := (mkF m 106 #[.val (.ref a1)] [(.int (bc + (1 : Int32))), (.ref a1)])) rfl rfl (hb hby d8_106)
            refine Gl.st st62 ?_
            have Z62 : n0 ≤ h62.size := Nat.le_trans Zl1 (Keep.of_wr W62).1
            have N62 := Fr.snoc X62 Nl1 g_a1
            have K62 : Keep h0 h62 [a1] := Kl1.wr W62 (Or.inl (List.mem_of_getElem? (i := 0) rfl))
            have Gf1_0'63 : Exa Z h62 a1 "com/example/millrace/millrace/JsonObject$Parser" := Gf1_0.wr W62
            have Gf1_1'64 : Fld Z h62 a1 "com/example/millrace/millrace/JsonObject$Parser" "text" "[B" (.ref ta) := Gf1_1.other W62 (Or.inr (slot_ne (Or.inr (hw _ (List.mem_of_getElem? (i := 28) rfl))) (Or.inl (hw _ (List.mem_of_getElem? (i := 51) rfl))) (by decide) (t := (.array .byte)) (t' := .int) (by decide) (by decide)))
            have Gf1_2'65 : Fld Z h62 a1 "com/example/millrace/millrace/JsonObject$Parser" "at" "I" (.int i) := Gf1_2.other W62 (Or.inr (slot_ne (Or.inl (hw _ (List.mem_of_getElem? (i := 30) rfl))) (Or.inl (hw _ (List.mem_of_getElem? (i := 51) rfl))) (by decide) (t := .int) (t' := .int) (by decide) (by decide)))
            have Gf1_3'66 : Fld Z h62 a1 "com/example/millrace/millrace/JsonObject$Parser" "end" "I" (.int en) := Gf1_3.other W62 (Or.inr (slot_ne (Or.inr (hw _ (List.mem_of_getElem? (i := 32) rfl))) (Or.inl (hw _ (List.mem_of_getElem? (i := 51) rfl))) (by decide) (t := .int) (t' := .int) (by decide) (by decide)))
            have Gf1_5'67 : Arv Z h62 ta ck .byte (4 : Int32) [(.int w0), (.int w1), (.int w2), (.int w3)] (.int (0 : Int32)) := Gf1_5.other W62 hne
            have Fw62 : Fld Z h62 a1 "com/example/millrace/millrace/JsonObject$Parser" "breaks" "I" (.int (bc + (1 : Int32))) := Gf1_4.same W62
            show Gl _ _ _ _ _ _ _ (T62.setTop (mkF m 109 #[.val (.ref a1)] []))
            refine Gl.st (fun t k => XS.aloadN X62.here hx rfl (hb hby d8_109) rfl rfl k) ?_
            show Gl _ _ _ _ _ _ _ (T62.setTop (mkF m 110 #[.val (.ref a1)] [(.ref a1)]))
            refine Gl.st (fun t k => XS.dup X62.here hx rfl (hb hby d8_110) rfl rfl k) ?_
            show Gl _ _ _ _ _ _ _ (T62.setTop (mkF m 111 #[.val (.ref a1)] [(.ref a1), (.ref a1)]))
            obtain ⟨T68, X68, e68, st68⟩ := getF X62 hx hZ hown (host := "") (Or.inl (hw _ (List.mem_of_getElem? (i := 29) rfl))) Via.refl e62 Gf1_2'65 (g := (mkF m 111 #[.val (.ref a1)] [(.ref a1), (.ref a1)])) rfl rfl (hb hby d8_111)
            refine Gl.st st68 ?_
            show Gl _ _ _ _ _ _ _ (T68.setTop (mkF m 114 #[.val (.ref a1)] [(.int i), (.ref a1)]))
            refine Gl.st (fun t k => XS.iconst X68.here hx rfl (hb hby d8_114) k) ?_
            show Gl _ _ _ _ _ _ _ (T68.setTop (mkF m 115 #[.val (.ref a1)] [(.int (1 : Int32)), (.int i), (.ref a1)]))
            refine Gl.st (fun t k => XS.iadd X68.here hx rfl (hb hby d8_115) rfl k) ?_
            show Gl _ _ _ _ _ _ _ (T68.setTop (mkF m 116 #[.val (.ref a1)] [(.int (i + (1 : Int32))), (.ref a1)]))
            obtain ⟨T69, h69, X69, e69, W69, st69⟩ := putF X68 hx hZ hown (host := "") (Or.inl (hw _ (List.mem_of_getElem? (i := 29) rfl))) Via.refl e68 Gf1_2'65 Gf1_0'63 (Or.inl (hw _ (List.mem_of_getElem? (i := 30) rfl))) (hw _ (List.mem_of_getElem? (i := 19) rfl)) (ty := .int) (by decide) rfl rfl (g := (mkF m 116 #[.val (.ref a1)] [(.int (i + (1 : Int32))), (.ref a1)])) rfl rfl (hb hby d8_116)
            refine Gl.st st69 ?_
            have Z69 : n0 ≤ h69.size := Nat.le_trans Z62 (Keep.of_wr W69).1
            have N69 := Fr.snoc X69 N62 g_a1
            have K69 : Keep h0 h69 [a1] := K62.wr W69 (Or.inl (List.mem_of_getElem? (i := 0) rfl))
            have Gf1_0'70 : Exa Z h69 a1 "com/example/millrace/millrace/JsonObject$Parser" := Gf1_0'63.wr W69
            have Gf1_1'71 : Fld Z h69 a1 "com/example/millrace/millrace/JsonObject$Parser" "text" "[B" (.ref ta) := Gf1_1'64.other W69 (Or.inr (slot_ne (Or.inr (hw _ (List.mem_of_getElem? (i := 28) rfl))) (Or.inl (hw _ (List.mem_of_getElem? (i := 30) rfl))) (by decide) (t := (.array .byte)) (t' := .int) (by decide) (by decide)))
            have Gf1_3'72 : Fld Z h69 a1 "com/example/millrace/millrace/JsonObject$Parser" "end" "I" (.int en) := Gf1_3'66.other W69 (Or.inr (slot_ne (Or.inr (hw _ (List.mem_of_getElem? (i := 32) rfl))) (Or.inl (hw _ (List.mem_of_getElem? (i := 30) rfl))) (by decide) (t := .int) (t' := .int) (by decide) (by decide)))
            have Fw62'73 : Fld Z h69 a1 "com/example/millrace/millrace/JsonObject$Parser" "breaks" "I" (.int (bc + (1 : Int32))) := Fw62.other W69 (Or.inr (slot_ne (Or.inl (hw _ (List.mem_of_getElem? (i := 51) rfl))) (Or.inl (hw _ (List.mem_of_getElem? (i := 30) rfl))) (by decide) (t := .int) (t' := .int) (by decide) (by decide)))
            have Gf1_5'74 : Arv Z h69 ta ck .byte (4 : Int32) [(.int w0), (.int w1), (.int w2), (.int w3)] (.int (0 : Int32)) := Gf1_5'67.other W69 hne
            have Fw69 : Fld Z h69 a1 "com/example/millrace/millrace/JsonObject$Parser" "at" "I" (.int (i + (1 : Int32))) := Gf1_2'65.same W69
            show Gl _ _ _ _ _ _ _ (T69.setTop (mkF m 119 #[.val (.ref a1)] []))
            refine Gl.st (fun t k => XS.goto X69.here hx rfl (pc0 := 119) (pc' := 0) rfl (hb hby d8_119) (by decide) (by decide) k) ?_
            show Gl _ _ _ _ _ _ _ (T69.setTop (mkF m 0 #[.val (.ref a1)] []))
            exact ih _ _ _ X69 e69 N69 Z69 K69 (_) (_)  Gf1_0'70 Gf1_1'71 Fw69 Gf1_3'72 Fw62'73 Gf1_5'74 (by rw [own_succ (by omega)]; omega) (by rw [own_succ (by omega)]; omega) ((own_go (by rw [hc50]; decide) (by rw [hc50]; decide)).symm.trans hR)
          · refine Gl.st (fun t k => XS.icmpNo X53.here hx rfl (hb hby d8_50) rfl (feq hc50).1 k) ?_
            show Gl _ _ _ _ _ _ _ (T53.setTop (mkF m 53 #[.val (.ref a1)] []))
            refine Gl.st (fun t k => XS.aloadN X53.here hx rfl (hb hby d8_53) rfl rfl k) ?_
            show Gl _ _ _ _ _ _ _ (T53.setTop (mkF m 54 #[.val (.ref a1)] [(.ref a1)]))
            obtain ⟨T75, X75, e75, st75⟩ := getF X53 hx hZ hown (host := "") (Or.inl (hw _ (List.mem_of_getElem? (i := 27) rfl))) Via.refl e53 Gf1_1 (g := (mkF m 54 #[.val (.ref a1)] [(.ref a1)])) rfl rfl (hb hby d8_54)
            refine Gl.st st75 ?_
            show Gl _ _ _ _ _ _ _ (T75.setTop (mkF m 57 #[.val (.ref a1)] [(.ref ta)]))
            refine Gl.st (fun t k => XS.aloadN X75.here hx rfl (hb hby d8_57) rfl rfl k) ?_
            show Gl _ _ _ _ _ _ _ (T75.setTop (mkF m 58 #[.val (.ref a1)] [(.ref a1), (.ref ta)]))
            obtain ⟨T76, X76, e76, st76⟩ := getF X75 hx hZ hown (host := "") (Or.inl (hw _ (List.mem_of_getElem? (i := 29) rfl))) Via.refl e75 Gf1_2 (g := (mkF m 58 #[.val (.ref a1)] [(.ref a1), (.ref ta)])) rfl rfl (hb hby d8_58)
            refine Gl.st st76 ?_
            show Gl _ _ _ _ _ _ _ (T76.setTop (mkF m 61 #[.val (.ref a1)] [(.int i), (.ref ta)]))
            have Vx77 := Gf1_5
            obtain ⟨cl77, Ar77, qk77, S77, M77, H77, G77⟩ := Vx77
            have hin77 : ¬ (i < 0 ∨ cl77.slots.size ≤ (i).toNatClampNeg) := inb_of S77 ⟨own_nn hi1, own_lit (n := 4) (by decide) (by omega)⟩
            have hat77 : cl77.slots[(i).toNatClampNeg]? = some (.int ([w0, w1, w2, w3].getD i.toNatClampNeg 0)) := H77.at hin77 (own_getD [w0, w1, w2, w3] _)
            refine Gl.st (X76.baloadBytes hx (j := i) (v := (.int ([w0, w1, w2, w3].getD i.toNatClampNeg 0))) (by rw [e76]; exact Ar77.1) (State.isArrayOf_alike hZ.alike Ar77.2.1) Ar77.2.2 hin77 hat77 (g := (mkF m 61 #[.val (.ref a1)] [(.int i), (.ref ta)])) rfl rfl (hb hby d8_61)) ?_
            show Gl _ _ _ _ _ _ _ (T76.setTop (mkF m 62 #[.val (.ref a1)] [(.int ([w0, w1, w2, w3].getD i.toNatClampNeg 0))]))
            refine Gl.st (fun t k => XS.bipush X76.here hx rfl (hb hby d8_62) k) ?_
            show Gl _ _ _ _ _ _ _ (T76.setTop (mkF m 64 #[.val (.ref a1)] [(.int (10 : Int32)), (.int ([w0, w1, w2, w3].getD i.toNatClampNeg 0))]))
            by_cases hc64 : ([w0, w1, w2, w3].getD i.toNatClampNeg 0) = (10 : Int32)
            · refine Gl.st (fun t k => XS.icmpNo X76.here hx rfl (hb hby d8_64) rfl (teq hc64).2 k) ?_
              show Gl _ _ _ _ _ _ _ (T76.setTop (mkF m 67 #[.val (.ref a1)] []))
              refine Gl.st (fun t k => XS.aloadN X76.here hx rfl (hb hby d8_67) rfl rfl k) ?_
              show Gl _ _ _ _ _ _ _ (T76.setTop (mkF m 68 #[.val (.ref a1)] [(.ref a1)]))
              refine Gl.st (fun t k => XS.dup X76.here hx rfl (hb hby d8_68) rfl rfl k) ?_
              show Gl _ _ _ _ _ _ _ (T76.setTop (mkF m 69 #[.val (.ref a1)] [(.ref a1), (.ref a1)]))
              obtain ⟨T78, X78, e78, st78⟩ := getF X76 hx hZ hown (host := "") (Or.inl (hw _ (List.mem_of_getElem? (i := 50) rfl))) Via.refl e76 Gf1_4 (g := (mkF m 69 #[.val (.ref a1)] [(.ref a1), (.ref a1)])) rfl rfl (hb hby d8_69)
              refine Gl.st st78 ?_
              show Gl _ _ _ _ _ _ _ (T78.setTop (mkF m 72 #[.val (.ref a1)] [(.int bc), (.ref a1)]))
              refine Gl.st (fun t k => XS.aloadN X78.here hx rfl (hb hby d8_72) rfl rfl k) ?_
              show Gl _ _ _ _ _ _ _ (T78.setTop (mkF m 73 #[.val (.ref a1)] [(.ref a1), (.int bc), (.ref a1)]))
              obtain ⟨T79, X79, e79, st79⟩ := getF X78 hx hZ hown (host := "") (Or.inl (hw _ (List.mem_of_getElem? (i := 27) rfl))) Via.refl e78 Gf1_1 (g := (mkF m 73 #[.val (.ref a1)] [(.ref a1), (.int bc), (.ref a1)])) rfl rfl (hb hby d8_73)
              refine Gl.st st79 ?_
              show Gl _ _ _ _ _ _ _ (T79.setTop (mkF m 76 #[.val (.ref a1)] [(.ref ta), (.int bc), (.ref a1)]))
              refine Gl.st (fun t k => XS.aloadN X79.here hx rfl (hb hby d8_76) rfl rfl k) ?_
              show Gl _ _ _ _ _ _ _ (T79.setTop (mkF m 77 #[.val (.ref a1)] [(.ref a1), (.ref ta), (.int bc), (.ref a1)]))
              obtain ⟨T80, X80, e80, st80⟩ := getF X79 hx hZ hown (host := "") (Or.inl (hw _ (List.mem_of_getElem? (i := 29) rfl))) Via.refl e79 Gf1_2 (g := (mkF m 77 #[.val (.ref a1)] [(.ref a1), (.ref ta), (.int bc), (.ref a1)])) rfl rfl (hb hby d8_77)
              refine Gl.st st80 ?_
              show Gl _ _ _ _ _ _ _ (T80.setTop (mkF m 80 #[.val (.ref a1)] [(.int i), (.ref ta), (.int bc), (.ref a1)]))
              have Vx81 := Gf1_5
              obtain ⟨cl81, Ar81, qk81, S81, M81, H81, G81⟩ := Vx81
              have hin81 : ¬ (i < 0 ∨ cl81.slots.size ≤ (i).toNatClampNeg) := inb_of S81 ⟨own_nn hi1, own_lit (n := 4) (by decide) (by omega)⟩
              have hat81 : cl81.slots[(i).toNatClampNeg]? = some (.int ([w0, w1, w2, w3].getD i.toNatClampNeg 0)) := H81.at hin81 (own_getD [w0, w1, w2, w3] _)
              refine Gl.st (X80.baloadBytes hx (j := i) (v := (.int ([w0, w1, w2, w3].getD i.toNatClampNeg 0))) (by rw [e80]; exact Ar81.1) (State.isArrayOf_alike hZ.alike Ar81.2.1) Ar81.2.2 hin81 hat81 (g := (mkF m 80 #[.val (.ref a1)] [(.int i), (.ref ta), (.int bc), (.ref a1)])) rfl rfl (hb hby d8_80)) ?_
              show Gl _ _ _ _ _ _ _ (T80.setTop (mkF m 81 #[.val (.ref a1)] [(.int ([w0, w1, w2, w3].getD i.toNatClampNeg 0)), (.int bc), (.ref a1)]))
              refine Gl.st (fun t k => XS.bipush X80.here hx rfl (hb hby d8_81) k) ?_
              show Gl _ _ _ _ _ _ _ (T80.setTop (mkF m 83 #[.val (.ref a1)] [(.int (32 : Int32)), (.int ([w0, w1, w2, w3].getD i.toNatClampNeg 0)), (.int bc), (.ref a1)]))
              refine Gl.st (fun t k => XS.icmpNo X80.here hx rfl (hb hby d8_83) rfl (feq hc22).1 k) ?_
              show Gl _ _ _ _ _ _ _ (T80.setTop (mkF m 86 #[.val (.ref a1)] [(.int bc), (.ref a1)]))
              refine Gl.st (fun t k => XS.aloadN X80.here hx rfl (hb hby d8_86) rfl rfl k) ?_
              show Gl _ _ _ _ _ _ _ (T80.setTop (mkF m 87 #[.val (.ref a1)] [(.ref a1), (.int bc), (.ref a1)]))
              obtain ⟨T82, X82, e82, st82⟩ := getF X80 hx hZ hown (host := "") (Or.inl (hw _ (List.mem_of_getElem? (i := 27) rfl))) Via.refl e80 Gf1_1 (g := (mkF m 87 #[.val (.ref a1)] [(.ref a1), (.int bc), (.ref a1)])) rfl rfl (hb hby d8_87)
              refine Gl.st st82 ?_
              show Gl _ _ _ _ _ _ _ (T82.setTop (mkF m 90 #[.val (.ref a1)] [(.ref ta), (.int bc), (.ref a1)]))
              refine Gl.st (fun t k => XS.aloadN X82.here hx rfl (hb hby d8_90) rfl rfl k) ?_
              show Gl _ _ _ _ _ _ _ (T82.setTop (mkF m 91 #[.val (.ref a1)] [(.ref a1), (.ref ta), (.int bc), (.ref a1)]))
              obtain ⟨T83, X83, e83, st83⟩ := getF X82 hx hZ hown (host := "") (Or.inl (hw _ (List.mem_of_getElem? (i := 29) rfl))) Via.refl e82 Gf1_2 (g := (mkF m 91 #[.val (.ref a1)] [(.ref a1), (.ref ta), (.int bc), (.ref a1)])) rfl rfl (hb hby d8_91)
              refine Gl.st st83 ?_
              show Gl _ _ _ _ _ _ _ (T83.setTop (mkF m 94 #[.val (.ref a1)] [(.int i), (.ref ta), (.int bc), (.ref a1)]))
              have Vx84 := Gf1_5
              obtain ⟨cl84, Ar84, qk84, S84, M84, H84, G84⟩ := Vx84
              have hin84 : ¬ (i < 0 ∨ cl84.slots.size ≤ (i).toNatClampNeg) := inb_of S84 ⟨own_nn hi1, own_lit (n := 4) (by decide) (by omega)⟩
              have hat84 : cl84.slots[(i).toNatClampNeg]? = some (.int ([w0, w1, w2, w3].getD i.toNatClampNeg 0)) := H84.at hin84 (own_getD [w0, w1, w2, w3] _)
              refine Gl.st (X83.baloadBytes hx (j := i) (v := (.int ([w0, w1, w2, w3].getD i.toNatClampNeg 0))) (by rw [e83]; exact Ar84.1) (State.isArrayOf_alike hZ.alike Ar84.2.1) Ar84.2.2 hin84 hat84 (g := (mkF m 94 #[.val (.ref a1)] [(.int i), (.ref ta), (.int bc), (.ref a1)])) rfl rfl (hb hby d8_94)) ?_
              show Gl _ _ _ _ _ _ _ (T83.setTop (mkF m 95 #[.val (.ref a1)] [(.int ([w0, w1, w2, w3].getD i.toNatClampNeg 0)), (.int bc), (.ref a1)]))
              refine Gl.st (fun t k => XS.bipush X83.here hx rfl (hb hby d8_95) k) ?_
              show Gl _ _ _ _ _ _ _ (T83.setTop (mkF m 97 #[.val (.ref a1)] [(.int (9 : Int32)), (.int ([w0, w1, w2, w3].getD i.toNatClampNeg 0)), (.int bc), (.ref a1)]))
              refine Gl.st (fun t k => XS.icmpYes X83.here hx rfl (pc0 := 97) (pc' := 104) rfl (hb hby d8_97) rfl (feq hc36).2 (by decide) (by decide) k) ?_
              show Gl _ _ _ _ _ _ _ (T83.setTop (mkF m 104 #[.val (.ref a1)] [(.int bc), (.ref a1)]))
              refine Gl.st (fun t k => XS.iconst X83.here hx rfl (hb hby d8_104) k) ?_
              show Gl _ _ _ _ _ _ _ (T83.setTop (mkF m 105 #[.val (.ref a1)] [(.int (1 : Int32)), (.int bc), (.ref a1)]))
              refine Gl.st (fun t k => XS.iadd X83.here hx rfl (hb hby d8_105) rfl k) ?_
              show Gl _ _ _ _ _ _ _ (T83.setTop (mkF m 106 #[.val (.ref a1)] [(.int (bc + (1 : Int32))), (.ref a1)]))
              obtain ⟨T85, h85, X85, e85, W85, st85⟩ := putF X83 hx hZ hown (host := "") (Or.inl (hw _ (List.mem_of_getElem? (i := 50) rfl))) Via.refl e83 Gf1_4 Gf1_0 (Or.inl (hw _ (List.mem_of_getElem? (i := 51) rfl))) (hw _ (List.mem_of_getElem? (i := 19) rfl)) (ty := .int) (by decide) rfl rfl (g := (mkF m 106 #[.val (.ref a1)] [(.int (bc + (1 : Int32))), (.ref a1)])) rfl rfl (hb hby d8_106)
              refine Gl.st st85 ?_
              have Z85 : n0 ≤ h85.size := Nat.le_trans Zl1 (Keep.of_wr W85).1
              have N85 := Fr.snoc X85 Nl1 g_a1
              have K85 : Keep h0 h85 [a1] := Kl1.wr W85 (Or.inl (List.mem_of_getElem? (i := 0) rfl))
              have Gf1_0'86 : Exa Z h85 a1 "com/example/millrace/millrace/JsonObject$Parser" := Gf1_0.wr W85
              have Gf1_1'87 : Fld Z h85 a1 "com/example/millrace/millrace/JsonObject$Parser" "text" "[B" (.ref ta) := Gf1_1.other W85 (Or.inr (slot_ne (Or.inr (hw _ (List.mem_of_getElem? (i := 28) rfl))) (Or.inl (hw _ (List.mem_of_getElem? (i := 51) rfl))) (by decide) (t := (.array .byte)) (t' := .int) (by decide) (by decide)))
              have Gf1_2'88 : Fld Z h85 a1 "com/example/millrace/millrace/JsonObject$Parser" "at" "I" (.int i) := Gf1_2.other W85 (Or.inr (slot_ne (Or.inl (hw _ (List.mem_of_getElem? (i := 30) rfl))) (Or.inl (hw _ (List.mem_of_getElem? (i := 51) rfl))) (by decide) (t := .int) (t' := .int) (by decide) (by decide)))
              have Gf1_3'89 : Fld Z h85 a1 "com/example/millrace/millrace/JsonObject$Parser" "end" "I" (.int en) := Gf1_3.other W85 (Or.inr (slot_ne (Or.inr (hw _ (List.mem_of_getElem? (i := 32) rfl))) (Or.inl (hw _ (List.mem_of_getElem? (i := 51) rfl))) (by decide) (t := .int) (t' := .int) (by decide) (by decide)))
              have Gf1_5'90 : Arv Z h85 ta ck .byte (4 : Int32) [(.int w0), (.int w1), (.int w2), (.int w3)] (.int (0 : Int32)) := Gf1_5.other W85 hne
              have Fw85 : Fld Z h85 a1 "com/example/millrace/millrace/JsonObject$Parser" "breaks" "I" (.int (bc + (1 : Int32))) := Gf1_4.same W85
              show Gl _ _ _ _ _ _ _ (T85.setTop (mkF m 109 #[.val (.ref a1)] []))
              refine Gl.st (fun t k => XS.aloadN X85.here hx rfl (hb hby d8_109) rfl rfl k) ?_
              show Gl _ _ _ _ _ _ _ (T85.setTop (mkF m 110 #[.val (.ref a1)] [(.ref a1)]))
              refine Gl.st (fun t k => XS.dup X85.here hx rfl (hb hby d8_110) rfl rfl k) ?_
              show Gl _ _ _ _ _ _ _ (T85.setTop (mkF m 111 #[.val (.ref a1)] [(.ref a1), (.ref a1)]))
              obtain ⟨T91, X91, e91, st91⟩ := getF X85 hx hZ hown (host := "") (Or.inl (hw _ (List.mem_of_getElem? (i := 29) rfl))) Via.refl e85 Gf1_2'88 (g := (mkF m 111 #[.val (.ref a1)] [(.ref a1), (.ref a1)])) rfl rfl (hb hby d8_111)
              refine Gl.st st91 ?_
              show Gl _ _ _ _ _ _ _ (T91.setTop (mkF m 114 #[.val (.ref a1)] [(.int i), (.ref a1)]))
              refine Gl.st (fun t k => XS.iconst X91.here hx rfl (hb hby d8_114) k) ?_
              show Gl _ _ _ _ _ _ _ (T91.setTop (mkF m 115 #[.val (.ref a1)] [(.int (1 : Int32)), (.int i), (.ref a1)]))
              refine Gl.st (fun t k => XS.iadd X91.here hx rfl (hb hby d8_115) rfl k) ?_
              show Gl _ _ _ _ _ _ _ (T91.setTop (mkF m 116 #[.val (.ref a1)] [(.int (i + (1 : Int32))), (.ref a1)]))
              obtain ⟨T92, h92, X92, e92, W92, st92⟩ := putF X91 hx hZ hown (host := "") (Or.inl (hw _ (List.mem_of_getElem? (i := 29) rfl))) Via.refl e91 Gf1_2'88 Gf1_0'86 (Or.inl (hw _ (List.mem_of_getElem? (i := 30) rfl))) (hw _ (List.mem_of_getElem? (i := 19) rfl)) (ty := .int) (by decide) rfl rfl (g := (mkF m 116 #[.val (.ref a1)] [(.int (i + (1 : Int32))), (.ref a1)])) rfl rfl (hb hby d8_116)
              refine Gl.st st92 ?_
              have Z92 : n0 ≤ h92.size := Nat.le_trans Z85 (Keep.of_wr W92).1
              have N92 := Fr.snoc X92 N85 g_a1
              have K92 : Keep h0 h92 [a1] := K85.wr W92 (Or.inl (List.mem_of_getElem? (i := 0) rfl))
              have Gf1_0'93 : Exa Z h92 a1 "com/example/millrace/millrace/JsonObject$Parser" := Gf1_0'86.wr W92
              have Gf1_1'94 : Fld Z h92 a1 "com/example/millrace/millrace/JsonObject$Parser" "text" "[B" (.ref ta) := Gf1_1'87.other W92 (Or.inr (slot_ne (Or.inr (hw _ (List.mem_of_getElem? (i := 28) rfl))) (Or.inl (hw _ (List.mem_of_getElem? (i := 30) rfl))) (by decide) (t := (.array .byte)) (t' := .int) (by decide) (by decide)))
              have Gf1_3'95 : Fld Z h92 a1 "com/example/millrace/millrace/JsonObject$Parser" "end" "I" (.int en) := Gf1_3'89.other W92 (Or.inr (slot_ne (Or.inr (hw _ (List.mem_of_getElem? (i := 32) rfl))) (Or.inl (hw _ (List.mem_of_getElem? (i := 30) rfl))) (by decide) (t := .int) (t' := .int) (by decide) (by decide)))
              have Fw85'96 : Fld Z h92 a1 "com/example/millrace/millrace/JsonObject$Parser" "breaks" "I" (.int (bc + (1 : Int32))) := Fw85.other W92 (Or.inr (slot_ne (Or.inl (hw _ (List.mem_of_getElem? (i := 51) rfl))) (Or.inl (hw _ (List.mem_of_getElem? (i := 30) rfl))) (by decide) (t := .int) (t' := .int) (by decide) (by decide)))
              have Gf1_5'97 : Arv Z h92 ta ck .byte (4 : Int32) [(.int w0), (.int w1), (.int w2), (.int w3)] (.int (0 : Int32)) := Gf1_5'90.other W92 hne
              have Fw92 : Fld Z h92 a1 "com/example/millrace/millrace/JsonObject$Parser" "at" "I" (.int (i + (1 : Int32))) := Gf1_2'88.same W92
              show Gl _ _ _ _ _ _ _ (T92.setTop (mkF m 119 #[.val (.ref a1)] []))
              refine Gl.st (fun t k => XS.goto X92.here hx rfl (pc0 := 119) (pc' := 0) rfl (hb hby d8_119) (by decide) (by decide) k) ?_
              show Gl _ _ _ _ _ _ _ (T92.setTop (mkF m 0 #[.val (.ref a1)] []))
              exact ih _ _ _ X92 e92 N92 Z92 K92 (_) (_)  Gf1_0'93 Gf1_1'94 Fw92 Gf1_3'95 Fw85'96 Gf1_5'97 (by rw [own_succ (by omega)]; omega) (by rw [own_succ (by omega)]; omega) ((own_go (by rw [hc64]; decide) (by rw [hc64]; decide)).symm.trans hR)
            · refine Gl.st (fun t k => XS.icmpYes X76.here hx rfl (pc0 := 64) (pc' := 122) rfl (hb hby d8_64) rfl (feq hc64).2 (by decide) (by decide) k) ?_
              show Gl _ _ _ _ _ _ _ (T76.setTop (mkF m 122 #[.val (.ref a1)] []))
              refine Gl.st (fun t k => XS.aloadN X76.here hx rfl (hb hby d8_122) rfl rfl k) ?_
              show Gl _ _ _ _ _ _ _ (T76.setTop (mkF m 123 #[.val (.ref a1)] [(.ref a1)]))
              obtain ⟨T98, X98, e98, st98⟩ := getF X76 hx hZ hown (host := "") (Or.inl (hw _ (List.mem_of_getElem? (i := 29) rfl))) Via.refl e76 Gf1_2 (g := (mkF m 123 #[.val (.ref a1)] [(.ref a1)])) rfl rfl (hb hby d8_123)
              refine Gl.st st98 ?_
              show Gl _ _ _ _ _ _ _ (T98.setTop (mkF m 126 #[.val (.ref a1)] [(.int i)]))
              exact Gl.retI X98 hx hlk Bd.returns (hb hby d8_126) (by
                    have hR2 : (i, bc) = own_skip [w0, w1, w2, w3] (en.toInt - ia.toInt).toNat ia cb := (own_stay (by simp only [own_ws, if_neg hc22, if_neg hc36, if_neg hc50, if_neg hc64]; rfl)).symm.trans hR
                    have hpos : own_pos [w0, w1, w2, w3] ia en cb = i := by unfold own_pos; rw [← hR2]
                    have hbr : own_brs [w0, w1, w2, w3] ia en cb = bc := by unfold own_brs; rw [← hR2]
                    rw [e98]
                    exact ⟨congrArg (fun z => some (Value.int z)) hpos.symm, Nl1, Kl1, Gf1_0, Gf1_1, by rw [hpos]; exact Gf1_2, Gf1_3, by rw [hbr]; exact Gf1_4⟩) (by decide) (by decide)
  exact LP1 ((en.toInt - ia.toInt).toNat) _ _ _ X0 e0 N0 Z0 K0 (ia) (cb)  E_a1 Ft Fa Fe Fb Vt (hb1) (by omega) (rfl)
def own_at (ia : Int32) : Int32 := ia
theorem d9_0 : decode prog_32_method_2_code 0 = .ok (.aload_n 0, 1) := by decide +kernel
theorem d9_1 : decode prog_32_method_2_code 1 = .ok (.getfield 15, 3) := by decide +kernel
theorem d9_4 : decode prog_32_method_2_code 4 = .ok (.ireturn, 1) := by decide +kernel
theorem pf_9 : plainFor (⟨"com/example/millrace/millrace/JsonObject$Parser", "at", "()I"⟩ : MethodName) = true := by decide +kernel
def Q9 (Z : State) (a1 : Addr) (ia : Int32) (h0 : Heap) (n0 : Nat) (v : Option Value) (h : Heap) (L : List Loc) : Prop := v = some (.int (own_at ia)) ∧ Fr n0 L ∧ h = h0
theorem ef_9 (m : MethodId) (a1 : Addr) : entryFrame m #[(.ref a1)] 1 = mkF m 0 #[.val (.ref a1)] [] := by first | (simp [entryFrame, mkF, argsToLocals, Value.category]; done) | rfl
set_option maxRecDepth 65536 in
set_option maxHeartbeats 40000000 in
theorem rm9 (l : Launch) (Z : State) (a0 : Array Value) (hw : ∀ d ∈ tables_1, d.before a0 Z = true) (ws : List Jvm.Cond) (a1 : Addr) (ia : Int32) (h0 : Heap) (n0 : Nat) (Fa : Fld Z h0 a1 "com/example/millrace/millrace/JsonObject$Parser" "at" "I" (.int ia)) :
    MetFree l (⟨"com/example/millrace/millrace/JsonObject$Parser", "at", "()I"⟩ : MethodName) (head1 (Jvm.Cond.code (⟨"com/example/millrace/millrace/JsonObject$Parser", "at", "()I"⟩ : MethodName) prog_32_method_2_code 1 (some .int) :: ws) ({ frames := 0, cells := 0, slots := 0, locals := 0 } : Room)) (fun a U => a = #[(.ref a1)] ∧ Z.Warmed39 U.vm ∧ U.heap = h0) (fun _ _ _ _ _ => True) (fun _ U o U' => ∃ v L, o = .returned v ∧ Q9 Z a1 ia h0 n0 v U'.heap L ∧ FrameEnd U o U' L ({ frames := 0, cells := 0, slots := 0, locals := 0 } : Room).cells ({ frames := 0, cells := 0, slots := 0, locals := 0 } : Room).slots) := by
  refine MetFree.of_bodySF pf_9 hisR ?_
  intro p e s m args below meth c s₁ Bd hml0 hP hK
  obtain ⟨rfl, hZ, hh⟩ := hP
  have hx := Bd.exec
  have hby := Bd.bytes
  have hlk : meth.locks = false := BodyLoose.notSynchronized Bd
  have hml : c.maxLocals = 1 := hml0
  have hown : s.vm.findClass "com/example/millrace/millrace/JsonObject$Parser" = some m.cls := findClass_of_methodNamed Bd.named
  have hnm := (name_of_methodNamed Bd.named Bd.method).1
  have X0 : Stand p l e ({ frames := 0, cells := 0, slots := 0, locals := 0 } : Room) s m #[(.ref a1)] below meth c s₁ [] 0 0 := Stand.of_body Bd
  have e0 : s₁.heap = h0 := by rw [← hh, Bd.state]; rfl
  have N0 := Fr.nil n0
  show Gl p e below s (Q9 Z a1 ia h0 n0) ({ frames := 0, cells := 0, slots := 0, locals := 0 } : Room).cells ({ frames := 0, cells := 0, slots := 0, locals := 0 } : Room).slots (s₁.setTop (entryFrame m #[(.ref a1)] 1))
  rw [ef_9]
  show Gl _ _ _ _ _ _ _ (s₁.setTop (mkF m 0 #[.val (.ref a1)] []))
  refine Gl.st (fun t k => XS.aloadN X0.here hx rfl (hb hby d9_0) rfl rfl k) ?_
  show Gl _ _ _ _ _ _ _ (s₁.setTop (mkF m 1 #[.val (.ref a1)] [(.ref a1)]))
  obtain ⟨T1, X1, e1, st1⟩ := getF X0 hx hZ hown (host := "") (Or.inl (hw _ (List.mem_of_getElem? (i := 29) rfl))) Via.refl e0 Fa (g := (mkF m 1 #[.val (.ref a1)] [(.ref a1)])) rfl rfl (hb hby d9_1)
  refine Gl.st st1 ?_
  show Gl _ _ _ _ _ _ _ (T1.setTop (mkF m 4 #[.val (.ref a1)] [(.int ia)]))
  exact Gl.retI X1 hx hlk Bd.returns (hb hby d9_4) (⟨congrArg (fun z => some (Value.int z)) (show ia = (own_at ia) from by simp only [own_at]), N0, e1⟩) (by decide) (by decide)
def own_brkf (cb : Int32) : Int32 := cb
theorem d10_0 : decode prog_32_method_3_code 0 = .ok (.aload_n 0, 1) := by decide +kernel
theorem d10_1 : decode prog_32_method_3_code 1 = .ok (.getfield 26, 3) := by decide +kernel
theorem d10_4 : decode prog_32_method_3_code 4 = .ok (.ireturn, 1) := by decide +kernel
theorem pf_10 : plainFor (⟨"com/example/millrace/millrace/JsonObject$Parser", "breaks", "()I"⟩ : MethodName) = true := by decide +kernel
def Q10 (Z : State) (a1 : Addr) (cb : Int32) (h0 : Heap) (n0 : Nat) (v : Option Value) (h : Heap) (L : List Loc) : Prop := v = some (.int (own_brkf cb)) ∧ Fr n0 L ∧ h = h0
theorem ef_10 (m : MethodId) (a1 : Addr) : entryFrame m #[(.ref a1)] 1 = mkF m 0 #[.val (.ref a1)] [] := by first | (simp [entryFrame, mkF, argsToLocals, Value.category]; done) | rfl
set_option maxRecDepth 65536 in
set_option maxHeartbeats 40000000 in
theorem rm10 (l : Launch) (Z : State) (a0 : Array Value) (hw : ∀ d ∈ tables_1, d.before a0 Z = true) (ws : List Jvm.Cond) (a1 : Addr) (cb : Int32) (h0 : Heap) (n0 : Nat) (Fb : Fld Z h0 a1 "com/example/millrace/millrace/JsonObject$Parser" "breaks" "I" (.int cb)) :
    MetFree l (⟨"com/example/millrace/millrace/JsonObject$Parser", "breaks", "()I"⟩ : MethodName) (head1 (Jvm.Cond.code (⟨"com/example/millrace/millrace/JsonObject$Parser", "breaks", "()I"⟩ : MethodName) prog_32_method_3_code 1 (some .int) :: ws) ({ frames := 0, cells := 0, slots := 0, locals := 0 } : Room)) (fun a U => a = #[(.ref a1)] ∧ Z.Warmed39 U.vm ∧ U.heap = h0) (fun _ _ _ _ _ => True) (fun _ U o U' => ∃ v L, o = .returned v ∧ Q10 Z a1 cb h0 n0 v U'.heap L ∧ FrameEnd U o U' L ({ frames := 0, cells := 0, slots := 0, locals := 0 } : Room).cells ({ frames := 0, cells := 0, slots := 0, locals := 0 } : Room).slots) := by
  refine MetFree.of_bodySF pf_10 hisR ?_
  intro p e s m args below meth c s₁ Bd hml0 hP hK
  obtain ⟨rfl, hZ, hh⟩ := hP
  have hx := Bd.exec
  have hby := Bd.bytes
  have hlk : meth.locks = false := BodyLoose.notSynchronized Bd
  have hml : c.maxLocals = 1 := hml0
  have hown : s.vm.findClass "com/example/millrace/millrace/JsonObject$Parser" = some m.cls := findClass_of_methodNamed Bd.named
  have hnm := (name_of_methodNamed Bd.named Bd.method).1
  have X0 : Stand p l e ({ frames := 0, cells := 0, slots := 0, locals := 0 } : Room) s m #[(.ref a1)] below meth c s₁ [] 0 0 := Stand.of_body Bd
  have e0 : s₁.heap = h0 := by rw [← hh, Bd.state]; rfl
  have N0 := Fr.nil n0
  show Gl p e below s (Q10 Z a1 cb h0 n0) ({ frames := 0, cells := 0, slots := 0, locals := 0 } : Room).cells ({ frames := 0, cells := 0, slots := 0, locals := 0 } : Room).slots (s₁.setTop (entryFrame m #[(.ref a1)] 1))
  rw [ef_10]
  show Gl _ _ _ _ _ _ _ (s₁.setTop (mkF m 0 #[.val (.ref a1)] []))
  refine Gl.st (fun t k => XS.aloadN X0.here hx rfl (hb hby d10_0) rfl rfl k) ?_
  show Gl _ _ _ _ _ _ _ (s₁.setTop (mkF m 1 #[.val (.ref a1)] [(.ref a1)]))
  obtain ⟨T1, X1, e1, st1⟩ := getF X0 hx hZ hown (host := "") (Or.inl (hw _ (List.mem_of_getElem? (i := 50) rfl))) Via.refl e0 Fb (g := (mkF m 1 #[.val (.ref a1)] [(.ref a1)])) rfl rfl (hb hby d10_1)
  refine Gl.st st1 ?_
  show Gl _ _ _ _ _ _ _ (T1.setTop (mkF m 4 #[.val (.ref a1)] [(.int cb)]))
  exact Gl.retI X1 hx hlk Bd.returns (hb hby d10_4) (⟨congrArg (fun z => some (Value.int z)) (show cb = (own_brkf cb) from by simp only [own_brkf]), N0, e1⟩) (by decide) (by decide)
theorem own_digit {f : Int32} (h0 : 0 ≤ f.toInt) (h4 : f.toInt ≤ 4) : f = 0 ∨ f = 1 ∨ f = 2 ∨ f = 3 ∨ f = 4 := by
  have e0 : (0 : Int32).toInt = 0 := by decide
  have e1 : (1 : Int32).toInt = 1 := by decide
  have e2 : (2 : Int32).toInt = 2 := by decide
  have e3 : (3 : Int32).toInt = 3 := by decide
  have e4 : (4 : Int32).toInt = 4 := by decide
  simp only [← Int32.toInt_inj, e0, e1, e2, e3, e4]
  omega
theorem own_min_i (a b : Int32) : (own_min a b).toInt = min a.toInt b.toInt := by
  unfold own_min
  split
  all_goals (rename_i h; rw [Int32.lt_iff_toInt_lt] at h; omega)
theorem own_max_i (a b : Int32) : (own_max a b).toInt = max a.toInt b.toInt := by
  unfold own_max
  split
  all_goals (rename_i h; rw [Int32.lt_iff_toInt_lt] at h; omega)
theorem own_u (x : Int32) : 0 ≤ ((x &&& (255 : Int32)) % (5 : Int32)).toInt ∧ ((x &&& (255 : Int32)) % (5 : Int32)).toInt ≤ 4 := by
  have a := c_mask x 255 8 (by decide) (by decide)
  have b := (c_irem (x &&& 255) 5 5 (by decide)).1
  omega
theorem own_skip_rng (bs : List Int32) : ∀ (k : Nat) (i c : Int32), 0 ≤ i.toInt → i.toInt + k < 2147483647 → i.toInt ≤ (own_skip bs k i c).1.toInt ∧ (own_skip bs k i c).1.toInt ≤ i.toInt + k
  | 0, i, c, h0, h1 => ⟨Int.le_refl _, by simp only [own_skip]; omega⟩
  | k + 1, i, c, h0, h1 => by
    have e := own_succ (i := i) (by omega)
    have a := own_skip_rng bs k (i + 1) (c + own_brk (bs.getD i.toNatClampNeg 0)) (by omega) (by omega)
    simp only [own_skip]
    split
    · simp only; omega
    · omega
theorem own_pos_rng (bs : List Int32) (f t c : Int32) (h0 : 0 ≤ f.toInt) (h1 : f.toInt ≤ t.toInt) (h2 : t.toInt ≤ 4) : 0 ≤ (own_pos bs f t c).toInt ∧ (own_pos bs f t c).toInt ≤ t.toInt ∧ t.toInt ≤ 4 := by
  have a := own_skip_rng bs (t.toInt - f.toInt).toNat f c h0 (by omega)
  unfold own_pos
  omega
theorem own_brk01 (b : Int32) : (if own_brk b = (0 : Int32) then (0 : Int32) else (1 : Int32)) = own_brk b := by
  unfold own_brk
  repeat' split
  all_goals first | rfl | contradiction | simp_all [nar]
theorem own_final (b0 b1 b2 b3 f t e3 e2 e1 e0 br : Int32) (h0 : 0 ≤ f.toInt) (h1 : f.toInt ≤ t.toInt) (h2 : t.toInt ≤ 4)
    (q3 : e3 = own_stop3 f t t b0 b1 b2 b3) (q2 : e2 = own_stop2 f t e3 b0 b1 b2 b3) (q1 : e1 = own_stop1 f t e2 b0 b1 b2 b3) (q0 : e0 = own_stop0 f t e1 b0 b1 b2 b3)
    (qb : br = ((own_break0 f e0 b0 b1 b2 b3 + own_break1 f e0 b0 b1 b2 b3) + own_break2 f e0 b0 b1 b2 b3) + own_break3 f e0 b0 b1 b2 b3) :
    own_pos [b0, b1, b2, b3] f t 0 = e0 ∧ own_brs [b0, b1, b2, b3] f t 0 = br ∧ own_pos [b0, b1, b2, b3] e0 t br = e0 ∧ own_brs [b0, b1, b2, b3] e0 t br = br := by
  subst qb q0 q1 q2 q3
  rcases own_digit h0 (by omega) with rfl | rfl | rfl | rfl | rfl <;> rcases own_digit (f := t) (by omega) h2 with rfl | rfl | rfl | rfl | rfl <;>
    first | (exfalso; revert h1; decide) | (by_cases k0 : own_ws b0 = 0 <;> by_cases k1 : own_ws b1 = 0 <;> by_cases k2 : own_ws b2 = 0 <;> by_cases k3 : own_ws b3 = 0 <;> simp [own_pos, own_brs, own_skip, own_stop0, own_stop1, own_stop2, own_stop3, own_break0, own_break1, own_break2, own_break3, own_brk01, k0, k1, k2, k3])
theorem pf_11 : plainFor (⟨"com/example/millrace/millrace/ParserSkipSpacePinLaw", "law", "(IIIII)Z"⟩ : MethodName) = true := by decide +kernel
def Q0 (Z : State) (p1 : Int32) (p2 : Int32) (p3 : Int32) (p4 : Int32) (p5 : Int32) (h0 : Heap) (n0 : Nat) (v : Option Value) (h : Heap) (L : List Loc) : Prop := v = some (.int 1) ∧ Fr n0 L
theorem ef_0 (m : MethodId) (p1 : Int32) (p2 : Int32) (p3 : Int32) (p4 : Int32) (p5 : Int32) : entryFrame m #[(.int p1), (.int p2), (.int p3), (.int p4), (.int p5)] maxLocals = mkF m 0 #[.val (.int p1), .val (.int p2), .val (.int p3), .val (.int p4), .val (.int p5), .unset, .unset, .unset, .unset, .unset, .unset, .unset, .unset, .unset, .unset, .unset, .unset, .unset, .unset, .unset] [] := by first | (simp [entryFrame, mkF, argsToLocals, Value.category, maxLocals]; done) | rfl
theorem pd_1 : parseMethodDescriptor "(I)B" = some ⟨[.int], some .byte⟩ := by decide +kernel
theorem pd_2 : parseMethodDescriptor "(II)I" = some ⟨[.int, .int], some .int⟩ := by decide +kernel
theorem pd_3 : parseMethodDescriptor "([BIIII)I" = some ⟨[(.array .byte), .int, .int, .int, .int], some .int⟩ := by decide +kernel
theorem pd_4 : parseMethodDescriptor "([BIII)I" = some ⟨[(.array .byte), .int, .int, .int], some .int⟩ := by decide +kernel
theorem pd_5 : parseMethodDescriptor "([BIIZ)V" = some ⟨[(.array .byte), .int, .int, .boolean], none⟩ := by decide +kernel
theorem pd_6 : parseMethodDescriptor "()I" = some ⟨[], some .int⟩ := by decide +kernel
set_option maxRecDepth 65536 in
set_option maxHeartbeats 40000000 in
theorem rm0 (l : Launch) (Z : State) (a0 : Array Value) (hw : ∀ d ∈ tables_1, d.before a0 Z = true) (ws : List Jvm.Cond) (p1 : Int32) (p2 : Int32) (p3 : Int32) (p4 : Int32) (p5 : Int32) (h0 : Heap) (n0 : Nat) (Z0 : n0 ≤ h0.size) :
    MetFree l x (head1 (Jvm.Cond.code x code maxLocals ret :: ws) room_1) (fun a U => a = #[(.int p1), (.int p2), (.int p3), (.int p4), (.int p5)] ∧ Z.Warmed39 U.vm ∧ U.heap = h0) (fun _ _ _ _ _ => True) (fun _ U o U' => ∃ v L, o = .returned v ∧ Q0 Z p1 p2 p3 p4 p5 h0 n0 v U'.heap L ∧ FrameEnd U o U' L room_1.cells room_1.slots) := by
  refine MetFree.of_bodySF pf_11 hisR ?_
  intro p e s m args below meth c s₁ Bd hml0 hP hK
  obtain ⟨rfl, hZ, hh⟩ := hP
  have hx := Bd.exec
  have hby := Bd.bytes
  have hlk : meth.locks = false := BodyLoose.notSynchronized Bd
  have hml : c.maxLocals = 20 := hml0
  have hown : s.vm.findClass "com/example/millrace/millrace/ParserSkipSpacePinLaw" = some m.cls := findClass_of_methodNamed Bd.named
  have hnm := (name_of_methodNamed Bd.named Bd.method).1
  have X0 : Stand p l e room_1 s m #[(.int p1), (.int p2), (.int p3), (.int p4), (.int p5)] below meth c s₁ [] 0 0 := Stand.of_body Bd
  have e0 : s₁.heap = h0 := by rw [← hh, Bd.state]; rfl
  have N0 := Fr.nil n0
  show Gl p e below s (Q0 Z p1 p2 p3 p4 p5 h0 n0) room_1.cells room_1.slots (s₁.setTop (entryFrame m #[(.int p1), (.int p2), (.int p3), (.int p4), (.int p5)] maxLocals))
  rw [ef_0]
  show Gl _ _ _ _ _ _ _ (s₁.setTop (mkF m 0 #[.val (.int p1), .val (.int p2), .val (.int p3), .val (.int p4), .val (.int p5), .unset, .unset, .unset, .unset, .unset, .unset, .unset, .unset, .unset, .unset, .unset, .unset, .unset, .unset, .unset] []))
  refine Gl.st (fun t k => XS.iconst X0.here hx rfl (hb hby at_0) k) ?_
  show Gl _ _ _ _ _ _ _ (s₁.setTop (mkF m 1 #[.val (.int p1), .val (.int p2), .val (.int p3), .val (.int p4), .val (.int p5), .unset, .unset, .unset, .unset, .unset, .unset, .unset, .unset, .unset, .unset, .unset, .unset, .unset, .unset, .unset] [(.int (4 : Int32))]))
  obtain ⟨T1, h1, k1, X1, e1, E1, A1, st1⟩ := newP X0 hx hZ (hw _ (List.mem_of_getElem? (i := 0) rfl)) e0 (g := (mkF m 1 #[.val (.int p1), .val (.int p2), .val (.int p3), .val (.int p4), .val (.int p5), .unset, .unset, .unset, .unset, .unset, .unset, .unset, .unset, .unset, .unset, .unset, .unset, .unset, .unset, .unset] [(.int (4 : Int32))])) rfl (hb hby at_1) rfl (by decide) (cap := 4) (by decide) (by decide) (by decide) (by decide)
  obtain ⟨b1, g1⟩ : ∃ z, z = h0.size := ⟨_, rfl⟩
  rw [← g1] at A1 st1
  refine Gl.st st1 ?_
  have gzb1 : n0 ≤ b1 := Nat.le_trans Z0 (Nat.le_of_eq g1.symm)
  have Z1 : n0 ≤ h1.size := Nat.le_trans Z0 E1.1
  have V1 : Arv Z h1 b1 k1 .byte (4 : Int32) [(.int (0 : Int32)), (.int (0 : Int32)), (.int (0 : Int32)), (.int (0 : Int32))] (.int (0 : Int32)) := (Arv.new A1 (by decide)).pad (pad_rep [] (.int (0 : Int32)) 4)
  show Gl _ _ _ _ _ _ _ (T1.setTop (mkF m 3 #[.val (.int p1), .val (.int p2), .val (.int p3), .val (.int p4), .val (.int p5), .unset, .unset, .unset, .unset, .unset, .unset, .unset, .unset, .unset, .unset, .unset, .unset, .unset, .unset, .unset] [(.ref b1)]))
  refine Gl.st (fun t k => XS.dup X1.here hx rfl (hb hby at_3) rfl rfl k) ?_
  show Gl _ _ _ _ _ _ _ (T1.setTop (mkF m 4 #[.val (.int p1), .val (.int p2), .val (.int p3), .val (.int p4), .val (.int p5), .unset, .unset, .unset, .unset, .unset, .unset, .unset, .unset, .unset, .unset, .unset, .unset, .unset, .unset, .unset] [(.ref b1), (.ref b1)]))
  refine Gl.st (fun t k => XS.iconst X1.here hx rfl (hb hby at_4) k) ?_
  show Gl _ _ _ _ _ _ _ (T1.setTop (mkF m 5 #[.val (.int p1), .val (.int p2), .val (.int p3), .val (.int p4), .val (.int p5), .unset, .unset, .unset, .unset, .unset, .unset, .unset, .unset, .unset, .unset, .unset, .unset, .unset, .unset, .unset] [(.int (0 : Int32)), (.ref b1), (.ref b1)]))
  refine Gl.st (fun t k => XS.iloadN X1.here hx rfl (hb hby at_5) rfl  k) ?_
  show Gl _ _ _ _ _ _ _ (T1.setTop (mkF m 6 #[.val (.int p1), .val (.int p2), .val (.int p3), .val (.int p4), .val (.int p5), .unset, .unset, .unset, .unset, .unset, .unset, .unset, .unset, .unset, .unset, .unset, .unset, .unset, .unset, .unset] [(.int p1), (.int (0 : Int32)), (.ref b1), (.ref b1)]))
  obtain ⟨_, _, ⟨T2, L2, k2, n2⟩, -, X2, ⟨Lc2, hQ2, l2, y2, z2⟩, st2⟩ := Jvm.LawKit.callS X1 hx (y := (⟨"com/example/millrace/millrace/ParserSkipSpacePinLaw", "draw", "(I)B"⟩ : MethodName)) hown (mvT hZ (hw _ (List.mem_of_getElem? (i := 1) rfl))) (mvT hZ (hw _ (List.mem_of_getElem? (i := 2) rfl))) (mvT hZ (hw _ (List.mem_of_getElem? (i := 3) rfl))) (mvT hZ (hw _ (List.mem_of_getElem? (i := 4) rfl))) (by decide) (backOf (W := 3) (rm1 l Z a0 hw [] p1 h1 n0) hZ (hw _ (List.mem_of_getElem? (i := 4) rfl)) (hw _ (List.mem_of_getElem? (i := 3) rfl)) (by decide) (by decide)) (g := (mkF m 6 #[.val (.int p1), .val (.int p2), .val (.int p3), .val (.int p4), .val (.int p5), .unset, .unset, .unset, .unset, .unset, .unset, .unset, .unset, .unset, .unset, .unset, .unset, .unset, .unset, .unset] [(.int p1), (.int (0 : Int32)), (.ref b1), (.ref b1)])) rfl (by rw [hml]; rfl) (argsL := [(.int p1)]) (rest := [(.int (0 : Int32)), (.ref b1), (.ref b1)]) (lenOf pd_1 rfl) rfl (by show 2 * 0 + _ ≤ _; exact Nat.le_of_eq rfl) (hb hby at_6) (fun _ _ => ⟨rfl, e1, (by decide : 1 + 0 ≤ _), (by decide : 4 + 0 ≤ _)⟩)
  dsimp only [Pt.U, Pt.locs, Pt.cells, Pt.slots] at X2 l2 y2 z2 st2 hQ2
  rw [y2, z2] at X2
  obtain ⟨rfl, N2q, e2⟩ := hQ2
  have N2 : Fr n0 L2 := by rw [l2]; exact Fr.app N0 N2q
  refine Gl.st st2 ?_
  show Gl _ _ _ _ _ _ _ (T2.setTop (mkF m 9 #[.val (.int p1), .val (.int p2), .val (.int p3), .val (.int p4), .val (.int p5), .unset, .unset, .unset, .unset, .unset, .unset, .unset, .unset, .unset, .unset, .unset, .unset, .unset, .unset, .unset] [(.int (own_draw p1)), (.int (0 : Int32)), (.ref b1), (.ref b1)]))
  have Vx3 := V1
  obtain ⟨cl3, Ar3, qk3, S3, M3, H3, G3⟩ := Vx3
  have hin3 : ¬ ((0 : Int32) < 0 ∨ cl3.slots.size ≤ ((0 : Int32)).toNatClampNeg) := inb_of S3 ⟨by decide, by decide⟩
  obtain ⟨T3, h3, X3, e3, W3, st3⟩ := stB X2 hx hZ e2 Ar3 (j := (0 : Int32)) hin3 (g := (mkF m 9 #[.val (.int p1), .val (.int p2), .val (.int p3), .val (.int p4), .val (.int p5), .unset, .unset, .unset, .unset, .unset, .unset, .unset, .unset, .unset, .unset, .unset, .unset, .unset, .unset, .unset] [(.int (own_draw p1)), (.int (0 : Int32)), (.ref b1), (.ref b1)])) rfl rfl (hb hby at_9)
  refine Gl.st st3 ?_
  have Z3 : n0 ≤ h3.size := Nat.le_trans Z1 (Keep.of_wr W3).1
  have N3 := Fr.snoc X3 N2 gzb1
  have V3 : Arv Z h3 b1 k1 .byte (4 : Int32) [(.int (nar .byte (own_draw p1))), (.int (0 : Int32)), (.int (0 : Int32)), (.int (0 : Int32))] (.int (0 : Int32)) := Arv.set Ar3 qk3 S3 M3 H3 G3 (fits_nar_byte _) W3 0 rfl (Nat.le_of_ble_eq_true rfl)
  show Gl _ _ _ _ _ _ _ (T3.setTop (mkF m 10 #[.val (.int p1), .val (.int p2), .val (.int p3), .val (.int p4), .val (.int p5), .unset, .unset, .unset, .unset, .unset, .unset, .unset, .unset, .unset, .unset, .unset, .unset, .unset, .unset, .unset] [(.ref b1)]))
  refine Gl.st (fun t k => XS.dup X3.here hx rfl (hb hby at_10) rfl rfl k) ?_
  show Gl _ _ _ _ _ _ _ (T3.setTop (mkF m 11 #[.val (.int p1), .val (.int p2), .val (.int p3), .val (.int p4), .val (.int p5), .unset, .unset, .unset, .unset, .unset, .unset, .unset, .unset, .unset, .unset, .unset, .unset, .unset, .unset, .unset] [(.ref b1), (.ref b1)]))
  refine Gl.st (fun t k => XS.iconst X3.here hx rfl (hb hby at_11) k) ?_
  show Gl _ _ _ _ _ _ _ (T3.setTop (mkF m 12 #[.val (.int p1), .val (.int p2), .val (.int p3), .val (.int p4), .val (.int p5), .unset, .unset, .unset, .unset, .unset, .unset, .unset, .unset, .unset, .unset, .unset, .unset, .unset, .unset, .unset] [(.int (1 : Int32)), (.ref b1), (.ref b1)]))
  refine Gl.st (fun t k => XS.iloadN X3.here hx rfl (hb hby at_12) rfl  k) ?_
  show Gl _ _ _ _ _ _ _ (T3.setTop (mkF m 13 #[.val (.int p1), .val (.int p2), .val (.int p3), .val (.int p4), .val (.int p5), .unset, .unset, .unset, .unset, .unset, .unset, .unset, .unset, .unset, .unset, .unset, .unset, .unset, .unset, .unset] [(.int p2), (.int (1 : Int32)), (.ref b1), (.ref b1)]))
  obtain ⟨_, _, ⟨T4, L4, k4, n4⟩, -, X4, ⟨Lc4, hQ4, l4, y4, z4⟩, st4⟩ := Jvm.LawKit.callS X3 hx (y := (⟨"com/example/millrace/millrace/ParserSkipSpacePinLaw", "draw", "(I)B"⟩ : MethodName)) hown (mvT hZ (hw _ (List.mem_of_getElem? (i := 1) rfl))) (mvT hZ (hw _ (List.mem_of_getElem? (i := 2) rfl))) (mvT hZ (hw _ (List.mem_of_getElem? (i := 3) rfl))) (mvT hZ (hw _ (List.mem_of_getElem? (i := 4) rfl))) (by decide) (backOf (W := 3) (rm1 l Z a0 hw [] p2 h3 n0) hZ (hw _ (List.mem_of_getElem? (i := 4) rfl)) (hw _ (List.mem_of_getElem? (i := 3) rfl)) (by decide) (by decide)) (g := (mkF m 13 #[.val (.int p1), .val (.int p2), .val (.int p3), .val (.int p4), .val (.int p5), .unset, .unset, .unset, .unset, .unset, .unset, .unset, .unset, .unset, .unset, .unset, .unset, .unset, .unset, .unset] [(.int p2), (.int (1 : Int32)), (.ref b1), (.ref b1)])) rfl (by rw [hml]; rfl) (argsL := [(.int p2)]) (rest := [(.int (1 : Int32)), (.ref b1), (.ref b1)]) (lenOf pd_1 rfl) rfl (by show 2 * 0 + _ ≤ _; exact Nat.le_of_eq rfl) (hb hby at_13) (fun _ _ => ⟨rfl, e3, (by decide : 1 + 0 ≤ _), (by decide : 4 + 0 ≤ _)⟩)
  dsimp only [Pt.U, Pt.locs, Pt.cells, Pt.slots] at X4 l4 y4 z4 st4 hQ4
  rw [y4, z4] at X4
  obtain ⟨rfl, N4q, e4⟩ := hQ4
  have N4 : Fr n0 L4 := by rw [l4]; exact Fr.app N3 N4q
  refine Gl.st st4 ?_
  show Gl _ _ _ _ _ _ _ (T4.setTop (mkF m 16 #[.val (.int p1), .val (.int p2), .val (.int p3), .val (.int p4), .val (.int p5), .unset, .unset, .unset, .unset, .unset, .unset, .unset, .unset, .unset, .unset, .unset, .unset, .unset, .unset, .unset] [(.int (own_draw p2)), (.int (1 : Int32)), (.ref b1), (.ref b1)]))
  have Vx5 := V3
  obtain ⟨cl5, Ar5, qk5, S5, M5, H5, G5⟩ := Vx5
  have hin5 : ¬ ((1 : Int32) < 0 ∨ cl5.slots.size ≤ ((1 : Int32)).toNatClampNeg) := inb_of S5 ⟨by decide, by decide⟩
  obtain ⟨T5, h5, X5, e5, W5, st5⟩ := stB X4 hx hZ e4 Ar5 (j := (1 : Int32)) hin5 (g := (mkF m 16 #[.val (.int p1), .val (.int p2), .val (.int p3), .val (.int p4), .val (.int p5), .unset, .unset, .unset, .unset, .unset, .unset, .unset, .unset, .unset, .unset, .unset, .unset, .unset, .unset, .unset] [(.int (own_draw p2)), (.int (1 : Int32)), (.ref b1), (.ref b1)])) rfl rfl (hb hby at_16)
  refine Gl.st st5 ?_
  have Z5 : n0 ≤ h5.size := Nat.le_trans Z3 (Keep.of_wr W5).1
  have N5 := Fr.snoc X5 N4 gzb1
  have V5 : Arv Z h5 b1 k1 .byte (4 : Int32) [(.int (nar .byte (own_draw p1))), (.int (nar .byte (own_draw p2))), (.int (0 : Int32)), (.int (0 : Int32))] (.int (0 : Int32)) := Arv.set Ar5 qk5 S5 M5 H5 G5 (fits_nar_byte _) W5 1 rfl (Nat.le_of_ble_eq_true rfl)
  show Gl _ _ _ _ _ _ _ (T5.setTop (mkF m 17 #[.val (.int p1), .val (.int p2), .val (.int p3), .val (.int p4), .val (.int p5), .unset, .unset, .unset, .unset, .unset, .unset, .unset, .unset, .unset, .unset, .unset, .unset, .unset, .unset, .unset] [(.ref b1)]))
  refine Gl.st (fun t k => XS.dup X5.here hx rfl (hb hby at_17) rfl rfl k) ?_
  show Gl _ _ _ _ _ _ _ (T5.setTop (mkF m 18 #[.val (.int p1), .val (.int p2), .val (.int p3), .val (.int p4), .val (.int p5), .unset, .unset, .unset, .unset, .unset, .unset, .unset, .unset, .unset, .unset, .unset, .unset, .unset, .unset, .unset] [(.ref b1), (.ref b1)]))
  refine Gl.st (fun t k => XS.iconst X5.here hx rfl (hb hby at_18) k) ?_
  show Gl _ _ _ _ _ _ _ (T5.setTop (mkF m 19 #[.val (.int p1), .val (.int p2), .val (.int p3), .val (.int p4), .val (.int p5), .unset, .unset, .unset, .unset, .unset, .unset, .unset, .unset, .unset, .unset, .unset, .unset, .unset, .unset, .unset] [(.int (2 : Int32)), (.ref b1), (.ref b1)]))
  refine Gl.st (fun t k => XS.iloadN X5.here hx rfl (hb hby at_19) rfl  k) ?_
  show Gl _ _ _ _ _ _ _ (T5.setTop (mkF m 20 #[.val (.int p1), .val (.int p2), .val (.int p3), .val (.int p4), .val (.int p5), .unset, .unset, .unset, .unset, .unset, .unset, .unset, .unset, .unset, .unset, .unset, .unset, .unset, .unset, .unset] [(.int p3), (.int (2 : Int32)), (.ref b1), (.ref b1)]))
  obtain ⟨_, _, ⟨T6, L6, k6, n6⟩, -, X6, ⟨Lc6, hQ6, l6, y6, z6⟩, st6⟩ := Jvm.LawKit.callS X5 hx (y := (⟨"com/example/millrace/millrace/ParserSkipSpacePinLaw", "draw", "(I)B"⟩ : MethodName)) hown (mvT hZ (hw _ (List.mem_of_getElem? (i := 1) rfl))) (mvT hZ (hw _ (List.mem_of_getElem? (i := 2) rfl))) (mvT hZ (hw _ (List.mem_of_getElem? (i := 3) rfl))) (mvT hZ (hw _ (List.mem_of_getElem? (i := 4) rfl))) (by decide) (backOf (W := 3) (rm1 l Z a0 hw [] p3 h5 n0) hZ (hw _ (List.mem_of_getElem? (i := 4) rfl)) (hw _ (List.mem_of_getElem? (i := 3) rfl)) (by decide) (by decide)) (g := (mkF m 20 #[.val (.int p1), .val (.int p2), .val (.int p3), .val (.int p4), .val (.int p5), .unset, .unset, .unset, .unset, .unset, .unset, .unset, .unset, .unset, .unset, .unset, .unset, .unset, .unset, .unset] [(.int p3), (.int (2 : Int32)), (.ref b1), (.ref b1)])) rfl (by rw [hml]; rfl) (argsL := [(.int p3)]) (rest := [(.int (2 : Int32)), (.ref b1), (.ref b1)]) (lenOf pd_1 rfl) rfl (by show 2 * 0 + _ ≤ _; exact Nat.le_of_eq rfl) (hb hby at_20) (fun _ _ => ⟨rfl, e5, (by decide : 1 + 0 ≤ _), (by decide : 4 + 0 ≤ _)⟩)
  dsimp only [Pt.U, Pt.locs, Pt.cells, Pt.slots] at X6 l6 y6 z6 st6 hQ6
  rw [y6, z6] at X6
  obtain ⟨rfl, N6q, e6⟩ := hQ6
  have N6 : Fr n0 L6 := by rw [l6]; exact Fr.app N5 N6q
  refine Gl.st st6 ?_
  show Gl _ _ _ _ _ _ _ (T6.setTop (mkF m 23 #[.val (.int p1), .val (.int p2), .val (.int p3), .val (.int p4), .val (.int p5), .unset, .unset, .unset, .unset, .unset, .unset, .unset, .unset, .unset, .unset, .unset, .unset, .unset, .unset, .unset] [(.int (own_draw p3)), (.int (2 : Int32)), (.ref b1), (.ref b1)]))
  have Vx7 := V5
  obtain ⟨cl7, Ar7, qk7, S7, M7, H7, G7⟩ := Vx7
  have hin7 : ¬ ((2 : Int32) < 0 ∨ cl7.slots.size ≤ ((2 : Int32)).toNatClampNeg) := inb_of S7 ⟨by decide, by decide⟩
  obtain ⟨T7, h7, X7, e7, W7, st7⟩ := stB X6 hx hZ e6 Ar7 (j := (2 : Int32)) hin7 (g := (mkF m 23 #[.val (.int p1), .val (.int p2), .val (.int p3), .val (.int p4), .val (.int p5), .unset, .unset, .unset, .unset, .unset, .unset, .unset, .unset, .unset, .unset, .unset, .unset, .unset, .unset, .unset] [(.int (own_draw p3)), (.int (2 : Int32)), (.ref b1), (.ref b1)])) rfl rfl (hb hby at_23)
  refine Gl.st st7 ?_
  have Z7 : n0 ≤ h7.size := Nat.le_trans Z5 (Keep.of_wr W7).1
  have N7 := Fr.snoc X7 N6 gzb1
  have V7 : Arv Z h7 b1 k1 .byte (4 : Int32) [(.int (nar .byte (own_draw p1))), (.int (nar .byte (own_draw p2))), (.int (nar .byte (own_draw p3))), (.int (0 : Int32))] (.int (0 : Int32)) := Arv.set Ar7 qk7 S7 M7 H7 G7 (fits_nar_byte _) W7 2 rfl (Nat.le_of_ble_eq_true rfl)
  show Gl _ _ _ _ _ _ _ (T7.setTop (mkF m 24 #[.val (.int p1), .val (.int p2), .val (.int p3), .val (.int p4), .val (.int p5), .unset, .unset, .unset, .unset, .unset, .unset, .unset, .unset, .unset, .unset, .unset, .unset, .unset, .unset, .unset] [(.ref b1)]))
  refine Gl.st (fun t k => XS.dup X7.here hx rfl (hb hby at_24) rfl rfl k) ?_
  show Gl _ _ _ _ _ _ _ (T7.setTop (mkF m 25 #[.val (.int p1), .val (.int p2), .val (.int p3), .val (.int p4), .val (.int p5), .unset, .unset, .unset, .unset, .unset, .unset, .unset, .unset, .unset, .unset, .unset, .unset, .unset, .unset, .unset] [(.ref b1), (.ref b1)]))
  refine Gl.st (fun t k => XS.iconst X7.here hx rfl (hb hby at_25) k) ?_
  show Gl _ _ _ _ _ _ _ (T7.setTop (mkF m 26 #[.val (.int p1), .val (.int p2), .val (.int p3), .val (.int p4), .val (.int p5), .unset, .unset, .unset, .unset, .unset, .unset, .unset, .unset, .unset, .unset, .unset, .unset, .unset, .unset, .unset] [(.int (3 : Int32)), (.ref b1), (.ref b1)]))
  refine Gl.st (fun t k => XS.iloadN X7.here hx rfl (hb hby at_26) rfl  k) ?_
  show Gl _ _ _ _ _ _ _ (T7.setTop (mkF m 27 #[.val (.int p1), .val (.int p2), .val (.int p3), .val (.int p4), .val (.int p5), .unset, .unset, .unset, .unset, .unset, .unset, .unset, .unset, .unset, .unset, .unset, .unset, .unset, .unset, .unset] [(.int p4), (.int (3 : Int32)), (.ref b1), (.ref b1)]))
  obtain ⟨_, _, ⟨T8, L8, k8, n8⟩, -, X8, ⟨Lc8, hQ8, l8, y8, z8⟩, st8⟩ := Jvm.LawKit.callS X7 hx (y := (⟨"com/example/millrace/millrace/ParserSkipSpacePinLaw", "draw", "(I)B"⟩ : MethodName)) hown (mvT hZ (hw _ (List.mem_of_getElem? (i := 1) rfl))) (mvT hZ (hw _ (List.mem_of_getElem? (i := 2) rfl))) (mvT hZ (hw _ (List.mem_of_getElem? (i := 3) rfl))) (mvT hZ (hw _ (List.mem_of_getElem? (i := 4) rfl))) (by decide) (backOf (W := 3) (rm1 l Z a0 hw [] p4 h7 n0) hZ (hw _ (List.mem_of_getElem? (i := 4) rfl)) (hw _ (List.mem_of_getElem? (i := 3) rfl)) (by decide) (by decide)) (g := (mkF m 27 #[.val (.int p1), .val (.int p2), .val (.int p3), .val (.int p4), .val (.int p5), .unset, .unset, .unset, .unset, .unset, .unset, .unset, .unset, .unset, .unset, .unset, .unset, .unset, .unset, .unset] [(.int p4), (.int (3 : Int32)), (.ref b1), (.ref b1)])) rfl (by rw [hml]; rfl) (argsL := [(.int p4)]) (rest := [(.int (3 : Int32)), (.ref b1), (.ref b1)]) (lenOf pd_1 rfl) rfl (by show 2 * 0 + _ ≤ _; exact Nat.le_of_eq rfl) (hb hby at_27) (fun _ _ => ⟨rfl, e7, (by decide : 1 + 0 ≤ _), (by decide : 4 + 0 ≤ _)⟩)
  dsimp only [Pt.U, Pt.locs, Pt.cells, Pt.slots] at X8 l8 y8 z8 st8 hQ8
  rw [y8, z8] at X8
  obtain ⟨rfl, N8q, e8⟩ := hQ8
  have N8 : Fr n0 L8 := by rw [l8]; exact Fr.app N7 N8q
  refine Gl.st st8 ?_
  show Gl _ _ _ _ _ _ _ (T8.setTop (mkF m 30 #[.val (.int p1), .val (.int p2), .val (.int p3), .val (.int p4), .val (.int p5), .unset, .unset, .unset, .unset, .unset, .unset, .unset, .unset, .unset, .unset, .unset, .unset, .unset, .unset, .unset] [(.int (own_draw p4)), (.int (3 : Int32)), (.ref b1), (.ref b1)]))
  have Vx9 := V7
  obtain ⟨cl9, Ar9, qk9, S9, M9, H9, G9⟩ := Vx9
  have hin9 : ¬ ((3 : Int32) < 0 ∨ cl9.slots.size ≤ ((3 : Int32)).toNatClampNeg) := inb_of S9 ⟨by decide, by decide⟩
  obtain ⟨T9, h9, X9, e9, W9, st9⟩ := stB X8 hx hZ e8 Ar9 (j := (3 : Int32)) hin9 (g := (mkF m 30 #[.val (.int p1), .val (.int p2), .val (.int p3), .val (.int p4), .val (.int p5), .unset, .unset, .unset, .unset, .unset, .unset, .unset, .unset, .unset, .unset, .unset, .unset, .unset, .unset, .unset] [(.int (own_draw p4)), (.int (3 : Int32)), (.ref b1), (.ref b1)])) rfl rfl (hb hby at_30)
  refine Gl.st st9 ?_
  have Z9 : n0 ≤ h9.size := Nat.le_trans Z7 (Keep.of_wr W9).1
  have N9 := Fr.snoc X9 N8 gzb1
  have V9 : Arv Z h9 b1 k1 .byte (4 : Int32) [(.int (nar .byte (own_draw p1))), (.int (nar .byte (own_draw p2))), (.int (nar .byte (own_draw p3))), (.int (nar .byte (own_draw p4)))] (.int (0 : Int32)) := Arv.set Ar9 qk9 S9 M9 H9 G9 (fits_nar_byte _) W9 3 rfl (Nat.le_of_ble_eq_true rfl)
  show Gl _ _ _ _ _ _ _ (T9.setTop (mkF m 31 #[.val (.int p1), .val (.int p2), .val (.int p3), .val (.int p4), .val (.int p5), .unset, .unset, .unset, .unset, .unset, .unset, .unset, .unset, .unset, .unset, .unset, .unset, .unset, .unset, .unset] [(.ref b1)]))
  refine Gl.st (fun t k => XS.astore X9.here hx rfl (hb hby at_31) rfl rfl (l' := #[.val (.int p1), .val (.int p2), .val (.int p3), .val (.int p4), .val (.int p5), .val (.ref b1), .unset, .unset, .unset, .unset, .unset, .unset, .unset, .unset, .unset, .unset, .unset, .unset, .unset, .unset]) rfl k) ?_
  show Gl _ _ _ _ _ _ _ (T9.setTop (mkF m 33 #[.val (.int p1), .val (.int p2), .val (.int p3), .val (.int p4), .val (.int p5), .val (.ref b1), .unset, .unset, .unset, .unset, .unset, .unset, .unset, .unset, .unset, .unset, .unset, .unset, .unset, .unset] []))
  refine Gl.st (fun t k => XS.iload X9.here hx rfl (hb hby at_33) rfl  k) ?_
  show Gl _ _ _ _ _ _ _ (T9.setTop (mkF m 35 #[.val (.int p1), .val (.int p2), .val (.int p3), .val (.int p4), .val (.int p5), .val (.ref b1), .unset, .unset, .unset, .unset, .unset, .unset, .unset, .unset, .unset, .unset, .unset, .unset, .unset, .unset] [(.int p5)]))
  refine Gl.st (fun t k => XS.sipush X9.here hx rfl (hb hby at_35) k) ?_
  show Gl _ _ _ _ _ _ _ (T9.setTop (mkF m 38 #[.val (.int p1), .val (.int p2), .val (.int p3), .val (.int p4), .val (.int p5), .val (.ref b1), .unset, .unset, .unset, .unset, .unset, .unset, .unset, .unset, .unset, .unset, .unset, .unset, .unset, .unset] [(.int (255 : Int32)), (.int p5)]))
  refine Gl.st (fun t k => XS.iand X9.here hx rfl (hb hby at_38) rfl k) ?_
  show Gl _ _ _ _ _ _ _ (T9.setTop (mkF m 39 #[.val (.int p1), .val (.int p2), .val (.int p3), .val (.int p4), .val (.int p5), .val (.ref b1), .unset, .unset, .unset, .unset, .unset, .unset, .unset, .unset, .unset, .unset, .unset, .unset, .unset, .unset] [(.int (p5 &&& (255 : Int32)))]))
  refine Gl.st (fun t k => XS.iconst X9.here hx rfl (hb hby at_39) k) ?_
  show Gl _ _ _ _ _ _ _ (T9.setTop (mkF m 40 #[.val (.int p1), .val (.int p2), .val (.int p3), .val (.int p4), .val (.int p5), .val (.ref b1), .unset, .unset, .unset, .unset, .unset, .unset, .unset, .unset, .unset, .unset, .unset, .unset, .unset, .unset] [(.int (5 : Int32)), (.int (p5 &&& (255 : Int32)))]))
  refine Gl.st (fun t k => iremM X9 hx rfl (hb hby at_40) rfl (by decide) k) ?_
  show Gl _ _ _ _ _ _ _ (T9.setTop (mkF m 41 #[.val (.int p1), .val (.int p2), .val (.int p3), .val (.int p4), .val (.int p5), .val (.ref b1), .unset, .unset, .unset, .unset, .unset, .unset, .unset, .unset, .unset, .unset, .unset, .unset, .unset, .unset] [(.int ((p5 &&& (255 : Int32)) % (5 : Int32)))]))
  refine Gl.st (fun t k => XS.istore X9.here hx rfl (hb hby at_41) rfl (l' := #[.val (.int p1), .val (.int p2), .val (.int p3), .val (.int p4), .val (.int p5), .val (.ref b1), .val (.int ((p5 &&& (255 : Int32)) % (5 : Int32))), .unset, .unset, .unset, .unset, .unset, .unset, .unset, .unset, .unset, .unset, .unset, .unset, .unset]) rfl k) ?_
  show Gl _ _ _ _ _ _ _ (T9.setTop (mkF m 43 #[.val (.int p1), .val (.int p2), .val (.int p3), .val (.int p4), .val (.int p5), .val (.ref b1), .val (.int ((p5 &&& (255 : Int32)) % (5 : Int32))), .unset, .unset, .unset, .unset, .unset, .unset, .unset, .unset, .unset, .unset, .unset, .unset, .unset] []))
  obtain ⟨uu, huu⟩ : ∃ z : Int32, z = ((p5 &&& (255 : Int32)) % (5 : Int32)) := ⟨_, rfl⟩
  rw [← huu]
  show Gl _ _ _ _ _ _ _ (T9.setTop (mkF m 43 #[.val (.int p1), .val (.int p2), .val (.int p3), .val (.int p4), .val (.int p5), .val (.ref b1), .val (.int uu), .unset, .unset, .unset, .unset, .unset, .unset, .unset, .unset, .unset, .unset, .unset, .unset, .unset] []))
  refine Gl.st (fun t k => XS.iload X9.here hx rfl (hb hby at_43) rfl  k) ?_
  show Gl _ _ _ _ _ _ _ (T9.setTop (mkF m 45 #[.val (.int p1), .val (.int p2), .val (.int p3), .val (.int p4), .val (.int p5), .val (.ref b1), .val (.int uu), .unset, .unset, .unset, .unset, .unset, .unset, .unset, .unset, .unset, .unset, .unset, .unset, .unset] [(.int p5)]))
  refine Gl.st (fun t k => XS.bipush X9.here hx rfl (hb hby at_45) k) ?_
  show Gl _ _ _ _ _ _ _ (T9.setTop (mkF m 47 #[.val (.int p1), .val (.int p2), .val (.int p3), .val (.int p4), .val (.int p5), .val (.ref b1), .val (.int uu), .unset, .unset, .unset, .unset, .unset, .unset, .unset, .unset, .unset, .unset, .unset, .unset, .unset] [(.int (8 : Int32)), (.int p5)]))
  refine Gl.st (fun t k => XS.iushr X9.here hx rfl (hb hby at_47) rfl k) ?_
  show Gl _ _ _ _ _ _ _ (T9.setTop (mkF m 48 #[.val (.int p1), .val (.int p2), .val (.int p3), .val (.int p4), .val (.int p5), .val (.ref b1), .val (.int uu), .unset, .unset, .unset, .unset, .unset, .unset, .unset, .unset, .unset, .unset, .unset, .unset, .unset] [(.int ((p5.toUInt32 >>> ((8 : Int32) &&& 31).toUInt32).toInt32))]))
  refine Gl.st (fun t k => XS.sipush X9.here hx rfl (hb hby at_48) k) ?_
  show Gl _ _ _ _ _ _ _ (T9.setTop (mkF m 51 #[.val (.int p1), .val (.int p2), .val (.int p3), .val (.int p4), .val (.int p5), .val (.ref b1), .val (.int uu), .unset, .unset, .unset, .unset, .unset, .unset, .unset, .unset, .unset, .unset, .unset, .unset, .unset] [(.int (255 : Int32)), (.int ((p5.toUInt32 >>> ((8 : Int32) &&& 31).toUInt32).toInt32))]))
  refine Gl.st (fun t k => XS.iand X9.here hx rfl (hb hby at_51) rfl k) ?_
  show Gl _ _ _ _ _ _ _ (T9.setTop (mkF m 52 #[.val (.int p1), .val (.int p2), .val (.int p3), .val (.int p4), .val (.int p5), .val (.ref b1), .val (.int uu), .unset, .unset, .unset, .unset, .unset, .unset, .unset, .unset, .unset, .unset, .unset, .unset, .unset] [(.int (((p5.toUInt32 >>> ((8 : Int32) &&& 31).toUInt32).toInt32) &&& (255 : Int32)))]))
  refine Gl.st (fun t k => XS.iconst X9.here hx rfl (hb hby at_52) k) ?_
  show Gl _ _ _ _ _ _ _ (T9.setTop (mkF m 53 #[.val (.int p1), .val (.int p2), .val (.int p3), .val (.int p4), .val (.int p5), .val (.ref b1), .val (.int uu), .unset, .unset, .unset, .unset, .unset, .unset, .unset, .unset, .unset, .unset, .unset, .unset, .unset] [(.int (5 : Int32)), (.int (((p5.toUInt32 >>> ((8 : Int32) &&& 31).toUInt32).toInt32) &&& (255 : Int32)))]))
  refine Gl.st (fun t k => iremM X9 hx rfl (hb hby at_53) rfl (by decide) k) ?_
  show Gl _ _ _ _ _ _ _ (T9.setTop (mkF m 54 #[.val (.int p1), .val (.int p2), .val (.int p3), .val (.int p4), .val (.int p5), .val (.ref b1), .val (.int uu), .unset, .unset, .unset, .unset, .unset, .unset, .unset, .unset, .unset, .unset, .unset, .unset, .unset] [(.int ((((p5.toUInt32 >>> ((8 : Int32) &&& 31).toUInt32).toInt32) &&& (255 : Int32)) % (5 : Int32)))]))
  refine Gl.st (fun t k => XS.istore X9.here hx rfl (hb hby at_54) rfl (l' := #[.val (.int p1), .val (.int p2), .val (.int p3), .val (.int p4), .val (.int p5), .val (.ref b1), .val (.int uu), .val (.int ((((p5.toUInt32 >>> ((8 : Int32) &&& 31).toUInt32).toInt32) &&& (255 : Int32)) % (5 : Int32))), .unset, .unset, .unset, .unset, .unset, .unset, .unset, .unset, .unset, .unset, .unset, .unset]) rfl k) ?_
  show Gl _ _ _ _ _ _ _ (T9.setTop (mkF m 56 #[.val (.int p1), .val (.int p2), .val (.int p3), .val (.int p4), .val (.int p5), .val (.ref b1), .val (.int uu), .val (.int ((((p5.toUInt32 >>> ((8 : Int32) &&& 31).toUInt32).toInt32) &&& (255 : Int32)) % (5 : Int32))), .unset, .unset, .unset, .unset, .unset, .unset, .unset, .unset, .unset, .unset, .unset, .unset] []))
  obtain ⟨vv, hvv⟩ : ∃ z : Int32, z = ((((p5.toUInt32 >>> ((8 : Int32) &&& 31).toUInt32).toInt32) &&& (255 : Int32)) % (5 : Int32)) := ⟨_, rfl⟩
  rw [← hvv]
  show Gl _ _ _ _ _ _ _ (T9.setTop (mkF m 56 #[.val (.int p1), .val (.int p2), .val (.int p3), .val (.int p4), .val (.int p5), .val (.ref b1), .val (.int uu), .val (.int vv), .unset, .unset, .unset, .unset, .unset, .unset, .unset, .unset, .unset, .unset, .unset, .unset] []))
  refine Gl.st (fun t k => XS.iload X9.here hx rfl (hb hby at_56) rfl  k) ?_
  show Gl _ _ _ _ _ _ _ (T9.setTop (mkF m 58 #[.val (.int p1), .val (.int p2), .val (.int p3), .val (.int p4), .val (.int p5), .val (.ref b1), .val (.int uu), .val (.int vv), .unset, .unset, .unset, .unset, .unset, .unset, .unset, .unset, .unset, .unset, .unset, .unset] [(.int uu)]))
  refine Gl.st (fun t k => XS.iload X9.here hx rfl (hb hby at_58) rfl  k) ?_
  show Gl _ _ _ _ _ _ _ (T9.setTop (mkF m 60 #[.val (.int p1), .val (.int p2), .val (.int p3), .val (.int p4), .val (.int p5), .val (.ref b1), .val (.int uu), .val (.int vv), .unset, .unset, .unset, .unset, .unset, .unset, .unset, .unset, .unset, .unset, .unset, .unset] [(.int vv), (.int uu)]))
  obtain ⟨_, _, ⟨T10, L10, k10, n10⟩, -, X10, ⟨Lc10, hQ10, l10, y10, z10⟩, st10⟩ := Jvm.LawKit.callS X9 hx (y := (⟨"java/lang/Math", "min", "(II)I"⟩ : MethodName)) hown (mvT hZ (hw _ (List.mem_of_getElem? (i := 5) rfl))) (mvT hZ (hw _ (List.mem_of_getElem? (i := 6) rfl))) (mvT hZ (hw _ (List.mem_of_getElem? (i := 7) rfl))) (mvT hZ (hw _ (List.mem_of_getElem? (i := 8) rfl))) (by decide) (backOf (W := 0) (rm2 l Z a0 hw [] uu vv h9 n0) hZ (hw _ (List.mem_of_getElem? (i := 8) rfl)) (hw _ (List.mem_of_getElem? (i := 7) rfl)) (by decide) (by decide)) (g := (mkF m 60 #[.val (.int p1), .val (.int p2), .val (.int p3), .val (.int p4), .val (.int p5), .val (.ref b1), .val (.int uu), .val (.int vv), .unset, .unset, .unset, .unset, .unset, .unset, .unset, .unset, .unset, .unset, .unset, .unset] [(.int vv), (.int uu)])) rfl (by rw [hml]; rfl) (argsL := [(.int uu), (.int vv)]) (rest := []) (lenOf pd_2 rfl) rfl (by show 2 * 0 + _ ≤ _; exact Nat.le_of_eq rfl) (hb hby at_60) (fun _ _ => ⟨rfl, e9, (by decide : 1 + 0 ≤ _), (by decide : 4 + 0 ≤ _)⟩)
  dsimp only [Pt.U, Pt.locs, Pt.cells, Pt.slots] at X10 l10 y10 z10 st10 hQ10
  rw [y10, z10] at X10
  obtain ⟨rfl, N10q, e10⟩ := hQ10
  have N10 : Fr n0 L10 := by rw [l10]; exact Fr.app N9 N10q
  refine Gl.st st10 ?_
  show Gl _ _ _ _ _ _ _ (T10.setTop (mkF m 63 #[.val (.int p1), .val (.int p2), .val (.int p3), .val (.int p4), .val (.int p5), .val (.ref b1), .val (.int uu), .val (.int vv), .unset, .unset, .unset, .unset, .unset, .unset, .unset, .unset, .unset, .unset, .unset, .unset] [(.int (own_min uu vv))]))
  refine Gl.st (fun t k => XS.istore X10.here hx rfl (hb hby at_63) rfl (l' := #[.val (.int p1), .val (.int p2), .val (.int p3), .val (.int p4), .val (.int p5), .val (.ref b1), .val (.int uu), .val (.int vv), .val (.int (own_min uu vv)), .unset, .unset, .unset, .unset, .unset, .unset, .unset, .unset, .unset, .unset, .unset]) rfl k) ?_
  show Gl _ _ _ _ _ _ _ (T10.setTop (mkF m 65 #[.val (.int p1), .val (.int p2), .val (.int p3), .val (.int p4), .val (.int p5), .val (.ref b1), .val (.int uu), .val (.int vv), .val (.int (own_min uu vv)), .unset, .unset, .unset, .unset, .unset, .unset, .unset, .unset, .unset, .unset, .unset] []))
  obtain ⟨fr, hfr⟩ : ∃ z : Int32, z = (own_min uu vv) := ⟨_, rfl⟩
  rw [← hfr]
  show Gl _ _ _ _ _ _ _ (T10.setTop (mkF m 65 #[.val (.int p1), .val (.int p2), .val (.int p3), .val (.int p4), .val (.int p5), .val (.ref b1), .val (.int uu), .val (.int vv), .val (.int fr), .unset, .unset, .unset, .unset, .unset, .unset, .unset, .unset, .unset, .unset, .unset] []))
  refine Gl.st (fun t k => XS.iload X10.here hx rfl (hb hby at_65) rfl  k) ?_
  show Gl _ _ _ _ _ _ _ (T10.setTop (mkF m 67 #[.val (.int p1), .val (.int p2), .val (.int p3), .val (.int p4), .val (.int p5), .val (.ref b1), .val (.int uu), .val (.int vv), .val (.int fr), .unset, .unset, .unset, .unset, .unset, .unset, .unset, .unset, .unset, .unset, .unset] [(.int uu)]))
  refine Gl.st (fun t k => XS.iload X10.here hx rfl (hb hby at_67) rfl  k) ?_
  show Gl _ _ _ _ _ _ _ (T10.setTop (mkF m 69 #[.val (.int p1), .val (.int p2), .val (.int p3), .val (.int p4), .val (.int p5), .val (.ref b1), .val (.int uu), .val (.int vv), .val (.int fr), .unset, .unset, .unset, .unset, .unset, .unset, .unset, .unset, .unset, .unset, .unset] [(.int vv), (.int uu)]))
  obtain ⟨_, _, ⟨T11, L11, k11, n11⟩, -, X11, ⟨Lc11, hQ11, l11, y11, z11⟩, st11⟩ := Jvm.LawKit.callS X10 hx (y := (⟨"java/lang/Math", "max", "(II)I"⟩ : MethodName)) hown (mvT hZ (hw _ (List.mem_of_getElem? (i := 9) rfl))) (mvT hZ (hw _ (List.mem_of_getElem? (i := 10) rfl))) (mvT hZ (hw _ (List.mem_of_getElem? (i := 7) rfl))) (mvT hZ (hw _ (List.mem_of_getElem? (i := 11) rfl))) (by decide) (backOf (W := 0) (rm3 l Z a0 hw [] uu vv h9 n0) hZ (hw _ (List.mem_of_getElem? (i := 11) rfl)) (hw _ (List.mem_of_getElem? (i := 7) rfl)) (by decide) (by decide)) (g := (mkF m 69 #[.val (.int p1), .val (.int p2), .val (.int p3), .val (.int p4), .val (.int p5), .val (.ref b1), .val (.int uu), .val (.int vv), .val (.int fr), .unset, .unset, .unset, .unset, .unset, .unset, .unset, .unset, .unset, .unset, .unset] [(.int vv), (.int uu)])) rfl (by rw [hml]; rfl) (argsL := [(.int uu), (.int vv)]) (rest := []) (lenOf pd_2 rfl) rfl (by show 2 * 0 + _ ≤ _; exact Nat.le_of_eq rfl) (hb hby at_69) (fun _ _ => ⟨rfl, e10, (by decide : 1 + 0 ≤ _), (by decide : 4 + 0 ≤ _)⟩)
  dsimp only [Pt.U, Pt.locs, Pt.cells, Pt.slots] at X11 l11 y11 z11 st11 hQ11
  rw [y11, z11] at X11
  obtain ⟨rfl, N11q, e11⟩ := hQ11
  have N11 : Fr n0 L11 := by rw [l11]; exact Fr.app N10 N11q
  refine Gl.st st11 ?_
  show Gl _ _ _ _ _ _ _ (T11.setTop (mkF m 72 #[.val (.int p1), .val (.int p2), .val (.int p3), .val (.int p4), .val (.int p5), .val (.ref b1), .val (.int uu), .val (.int vv), .val (.int fr), .unset, .unset, .unset, .unset, .unset, .unset, .unset, .unset, .unset, .unset, .unset] [(.int (own_max uu vv))]))
  refine Gl.st (fun t k => XS.istore X11.here hx rfl (hb hby at_72) rfl (l' := #[.val (.int p1), .val (.int p2), .val (.int p3), .val (.int p4), .val (.int p5), .val (.ref b1), .val (.int uu), .val (.int vv), .val (.int fr), .val (.int (own_max uu vv)), .unset, .unset, .unset, .unset, .unset, .unset, .unset, .unset, .unset, .unset]) rfl k) ?_
  show Gl _ _ _ _ _ _ _ (T11.setTop (mkF m 74 #[.val (.int p1), .val (.int p2), .val (.int p3), .val (.int p4), .val (.int p5), .val (.ref b1), .val (.int uu), .val (.int vv), .val (.int fr), .val (.int (own_max uu vv)), .unset, .unset, .unset, .unset, .unset, .unset, .unset, .unset, .unset, .unset] []))
  obtain ⟨tt, htt⟩ : ∃ z : Int32, z = (own_max uu vv) := ⟨_, rfl⟩
  rw [← htt]
  have hu : 0 ≤ uu.toInt ∧ uu.toInt ≤ 4 := by rw [huu]; exact own_u _
  have hv : 0 ≤ vv.toInt ∧ vv.toInt ≤ 4 := by rw [hvv]; exact own_u _
  have hft : 0 ≤ fr.toInt ∧ fr.toInt ≤ tt.toInt ∧ tt.toInt ≤ 4 := by rw [hfr, htt, own_min_i, own_max_i]; omega
  show Gl _ _ _ _ _ _ _ (T11.setTop (mkF m 74 #[.val (.int p1), .val (.int p2), .val (.int p3), .val (.int p4), .val (.int p5), .val (.ref b1), .val (.int uu), .val (.int vv), .val (.int fr), .val (.int tt), .unset, .unset, .unset, .unset, .unset, .unset, .unset, .unset, .unset, .unset] []))
  refine Gl.st (fun t k => XS.iload X11.here hx rfl (hb hby at_74) rfl  k) ?_
  show Gl _ _ _ _ _ _ _ (T11.setTop (mkF m 76 #[.val (.int p1), .val (.int p2), .val (.int p3), .val (.int p4), .val (.int p5), .val (.ref b1), .val (.int uu), .val (.int vv), .val (.int fr), .val (.int tt), .unset, .unset, .unset, .unset, .unset, .unset, .unset, .unset, .unset, .unset] [(.int p5)]))
  refine Gl.st (fun t k => XS.bipush X11.here hx rfl (hb hby at_76) k) ?_
  show Gl _ _ _ _ _ _ _ (T11.setTop (mkF m 78 #[.val (.int p1), .val (.int p2), .val (.int p3), .val (.int p4), .val (.int p5), .val (.ref b1), .val (.int uu), .val (.int vv), .val (.int fr), .val (.int tt), .unset, .unset, .unset, .unset, .unset, .unset, .unset, .unset, .unset, .unset] [(.int (16 : Int32)), (.int p5)]))
  refine Gl.st (fun t k => XS.iushr X11.here hx rfl (hb hby at_78) rfl k) ?_
  show Gl _ _ _ _ _ _ _ (T11.setTop (mkF m 79 #[.val (.int p1), .val (.int p2), .val (.int p3), .val (.int p4), .val (.int p5), .val (.ref b1), .val (.int uu), .val (.int vv), .val (.int fr), .val (.int tt), .unset, .unset, .unset, .unset, .unset, .unset, .unset, .unset, .unset, .unset] [(.int ((p5.toUInt32 >>> ((16 : Int32) &&& 31).toUInt32).toInt32))]))
  refine Gl.st (fun t k => XS.iconst X11.here hx rfl (hb hby at_79) k) ?_
  show Gl _ _ _ _ _ _ _ (T11.setTop (mkF m 80 #[.val (.int p1), .val (.int p2), .val (.int p3), .val (.int p4), .val (.int p5), .val (.ref b1), .val (.int uu), .val (.int vv), .val (.int fr), .val (.int tt), .unset, .unset, .unset, .unset, .unset, .unset, .unset, .unset, .unset, .unset] [(.int (1 : Int32)), (.int ((p5.toUInt32 >>> ((16 : Int32) &&& 31).toUInt32).toInt32))]))
  refine Gl.st (fun t k => XS.iand X11.here hx rfl (hb hby at_80) rfl k) ?_
  show Gl _ _ _ _ _ _ _ (T11.setTop (mkF m 81 #[.val (.int p1), .val (.int p2), .val (.int p3), .val (.int p4), .val (.int p5), .val (.ref b1), .val (.int uu), .val (.int vv), .val (.int fr), .val (.int tt), .unset, .unset, .unset, .unset, .unset, .unset, .unset, .unset, .unset, .unset] [(.int (((p5.toUInt32 >>> ((16 : Int32) &&& 31).toUInt32).toInt32) &&& (1 : Int32)))]))
  have J12 : ∀ (Tj12 : State) (Lj12 : List Loc) (Xj12 : Stand p l e room_1 s m #[(.int p1), (.int p2), (.int p3), (.int p4), (.int p5)] below meth c Tj12 Lj12 1 4) (ej12 : Tj12.heap = h9) (Nj12 : Fr n0 Lj12) (z89s0 : Int32) (hz89s0 : z89s0 = (if (((p5.toUInt32 >>> ((16 : Int32) &&& 31).toUInt32).toInt32) &&& (1 : Int32)) = (0 : Int32) then (0 : Int32) else (1 : Int32))), Gl p e below s (Q0 Z p1 p2 p3 p4 p5 h0 n0) room_1.cells room_1.slots (Tj12.setTop (mkF m 89 #[.val (.int p1), .val (.int p2), .val (.int p3), .val (.int p4), .val (.int p5), .val (.ref b1), .val (.int uu), .val (.int vv), .val (.int fr), .val (.int tt), .unset, .unset, .unset, .unset, .unset, .unset, .unset, .unset, .unset, .unset] [(.int z89s0)])) := by
    intro Tj12 Lj12 Xj12 ej12 Nj12 z89s0 hz89s0
    show Gl _ _ _ _ _ _ _ (Tj12.setTop (mkF m 89 #[.val (.int p1), .val (.int p2), .val (.int p3), .val (.int p4), .val (.int p5), .val (.ref b1), .val (.int uu), .val (.int vv), .val (.int fr), .val (.int tt), .unset, .unset, .unset, .unset, .unset, .unset, .unset, .unset, .unset, .unset] [(.int z89s0)]))
    refine Gl.st (fun t k => XS.istore Xj12.here hx rfl (hb hby at_89) rfl (l' := #[.val (.int p1), .val (.int p2), .val (.int p3), .val (.int p4), .val (.int p5), .val (.ref b1), .val (.int uu), .val (.int vv), .val (.int fr), .val (.int tt), .val (.int z89s0), .unset, .unset, .unset, .unset, .unset, .unset, .unset, .unset, .unset]) rfl k) ?_
    show Gl _ _ _ _ _ _ _ (Tj12.setTop (mkF m 91 #[.val (.int p1), .val (.int p2), .val (.int p3), .val (.int p4), .val (.int p5), .val (.ref b1), .val (.int uu), .val (.int vv), .val (.int fr), .val (.int tt), .val (.int z89s0), .unset, .unset, .unset, .unset, .unset, .unset, .unset, .unset, .unset] []))
    refine Gl.st (fun t k => XS.iload Xj12.here hx rfl (hb hby at_91) rfl  k) ?_
    show Gl _ _ _ _ _ _ _ (Tj12.setTop (mkF m 93 #[.val (.int p1), .val (.int p2), .val (.int p3), .val (.int p4), .val (.int p5), .val (.ref b1), .val (.int uu), .val (.int vv), .val (.int fr), .val (.int tt), .val (.int z89s0), .unset, .unset, .unset, .unset, .unset, .unset, .unset, .unset, .unset] [(.int tt)]))
    refine Gl.st (fun t k => XS.istore Xj12.here hx rfl (hb hby at_93) rfl (l' := #[.val (.int p1), .val (.int p2), .val (.int p3), .val (.int p4), .val (.int p5), .val (.ref b1), .val (.int uu), .val (.int vv), .val (.int fr), .val (.int tt), .val (.int z89s0), .val (.int tt), .unset, .unset, .unset, .unset, .unset, .unset, .unset, .unset]) rfl k) ?_
    show Gl _ _ _ _ _ _ _ (Tj12.setTop (mkF m 95 #[.val (.int p1), .val (.int p2), .val (.int p3), .val (.int p4), .val (.int p5), .val (.ref b1), .val (.int uu), .val (.int vv), .val (.int fr), .val (.int tt), .val (.int z89s0), .val (.int tt), .unset, .unset, .unset, .unset, .unset, .unset, .unset, .unset] []))
    refine Gl.st (fun t k => XS.aload Xj12.here hx rfl (hb hby at_95) rfl rfl k) ?_
    show Gl _ _ _ _ _ _ _ (Tj12.setTop (mkF m 97 #[.val (.int p1), .val (.int p2), .val (.int p3), .val (.int p4), .val (.int p5), .val (.ref b1), .val (.int uu), .val (.int vv), .val (.int fr), .val (.int tt), .val (.int z89s0), .val (.int tt), .unset, .unset, .unset, .unset, .unset, .unset, .unset, .unset] [(.ref b1)]))
    refine Gl.st (fun t k => XS.iconst Xj12.here hx rfl (hb hby at_97) k) ?_
    show Gl _ _ _ _ _ _ _ (Tj12.setTop (mkF m 98 #[.val (.int p1), .val (.int p2), .val (.int p3), .val (.int p4), .val (.int p5), .val (.ref b1), .val (.int uu), .val (.int vv), .val (.int fr), .val (.int tt), .val (.int z89s0), .val (.int tt), .unset, .unset, .unset, .unset, .unset, .unset, .unset, .unset] [(.int (3 : Int32)), (.ref b1)]))
    refine Gl.st (fun t k => XS.iload Xj12.here hx rfl (hb hby at_98) rfl  k) ?_
    show Gl _ _ _ _ _ _ _ (Tj12.setTop (mkF m 100 #[.val (.int p1), .val (.int p2), .val (.int p3), .val (.int p4), .val (.int p5), .val (.ref b1), .val (.int uu), .val (.int vv), .val (.int fr), .val (.int tt), .val (.int z89s0), .val (.int tt), .unset, .unset, .unset, .unset, .unset, .unset, .unset, .unset] [(.int fr), (.int (3 : Int32)), (.ref b1)]))
    refine Gl.st (fun t k => XS.iload Xj12.here hx rfl (hb hby at_100) rfl  k) ?_
    show Gl _ _ _ _ _ _ _ (Tj12.setTop (mkF m 102 #[.val (.int p1), .val (.int p2), .val (.int p3), .val (.int p4), .val (.int p5), .val (.ref b1), .val (.int uu), .val (.int vv), .val (.int fr), .val (.int tt), .val (.int z89s0), .val (.int tt), .unset, .unset, .unset, .unset, .unset, .unset, .unset, .unset] [(.int tt), (.int fr), (.int (3 : Int32)), (.ref b1)]))
    refine Gl.st (fun t k => XS.iload Xj12.here hx rfl (hb hby at_102) rfl  k) ?_
    show Gl _ _ _ _ _ _ _ (Tj12.setTop (mkF m 104 #[.val (.int p1), .val (.int p2), .val (.int p3), .val (.int p4), .val (.int p5), .val (.ref b1), .val (.int uu), .val (.int vv), .val (.int fr), .val (.int tt), .val (.int z89s0), .val (.int tt), .unset, .unset, .unset, .unset, .unset, .unset, .unset, .unset] [(.int tt), (.int tt), (.int fr), (.int (3 : Int32)), (.ref b1)]))
    obtain ⟨_, _, ⟨T13, L13, k13, n13⟩, -, X13, ⟨Lc13, hQ13, l13, y13, z13⟩, st13⟩ := Jvm.LawKit.callS Xj12 hx (y := (⟨"com/example/millrace/millrace/ParserSkipSpacePinLaw", "stopAt", "([BIIII)I"⟩ : MethodName)) hown (mvT hZ (hw _ (List.mem_of_getElem? (i := 12) rfl))) (mvT hZ (hw _ (List.mem_of_getElem? (i := 13) rfl))) (mvT hZ (hw _ (List.mem_of_getElem? (i := 3) rfl))) (mvT hZ (hw _ (List.mem_of_getElem? (i := 14) rfl))) (by decide) (backOf (W := 0) (rm4v3 l Z a0 hw [] b1 fr tt tt (k1) ((nar .byte (own_draw p1))) ((nar .byte (own_draw p2))) ((nar .byte (own_draw p3))) ((nar .byte (own_draw p4))) h9 n0  V9) hZ (hw _ (List.mem_of_getElem? (i := 14) rfl)) (hw _ (List.mem_of_getElem? (i := 3) rfl)) (by decide) (by decide)) (g := (mkF m 104 #[.val (.int p1), .val (.int p2), .val (.int p3), .val (.int p4), .val (.int p5), .val (.ref b1), .val (.int uu), .val (.int vv), .val (.int fr), .val (.int tt), .val (.int z89s0), .val (.int tt), .unset, .unset, .unset, .unset, .unset, .unset, .unset, .unset] [(.int tt), (.int tt), (.int fr), (.int (3 : Int32)), (.ref b1)])) rfl (by rw [hml]; rfl) (argsL := [(.ref b1), (.int (3 : Int32)), (.int fr), (.int tt), (.int tt)]) (rest := []) (lenOf pd_3 rfl) rfl (by show 2 * 0 + _ ≤ _; exact Nat.le_of_eq rfl) (hb hby at_104) (fun _ _ => ⟨rfl, ej12, (by decide : 1 + 0 ≤ _), (by decide : 4 + 0 ≤ _)⟩)
    dsimp only [Pt.U, Pt.locs, Pt.cells, Pt.slots] at X13 l13 y13 z13 st13 hQ13
    rw [y13, z13] at X13
    obtain ⟨rfl, N13q, e13⟩ := hQ13
    have N13 : Fr n0 L13 := by rw [l13]; exact Fr.app Nj12 N13q
    refine Gl.st st13 ?_
    show Gl _ _ _ _ _ _ _ (T13.setTop (mkF m 107 #[.val (.int p1), .val (.int p2), .val (.int p3), .val (.int p4), .val (.int p5), .val (.ref b1), .val (.int uu), .val (.int vv), .val (.int fr), .val (.int tt), .val (.int z89s0), .val (.int tt), .unset, .unset, .unset, .unset, .unset, .unset, .unset, .unset] [(.int (own_stop3 fr tt tt (nar .byte (own_draw p1)) (nar .byte (own_draw p2)) (nar .byte (own_draw p3)) (nar .byte (own_draw p4))))]))
    refine Gl.st (fun t k => XS.istore X13.here hx rfl (hb hby at_107) rfl (l' := #[.val (.int p1), .val (.int p2), .val (.int p3), .val (.int p4), .val (.int p5), .val (.ref b1), .val (.int uu), .val (.int vv), .val (.int fr), .val (.int tt), .val (.int z89s0), .val (.int (own_stop3 fr tt tt (nar .byte (own_draw p1)) (nar .byte (own_draw p2)) (nar .byte (own_draw p3)) (nar .byte (own_draw p4)))), .unset, .unset, .unset, .unset, .unset, .unset, .unset, .unset]) rfl k) ?_
    show Gl _ _ _ _ _ _ _ (T13.setTop (mkF m 109 #[.val (.int p1), .val (.int p2), .val (.int p3), .val (.int p4), .val (.int p5), .val (.ref b1), .val (.int uu), .val (.int vv), .val (.int fr), .val (.int tt), .val (.int z89s0), .val (.int (own_stop3 fr tt tt (nar .byte (own_draw p1)) (nar .byte (own_draw p2)) (nar .byte (own_draw p3)) (nar .byte (own_draw p4)))), .unset, .unset, .unset, .unset, .unset, .unset, .unset, .unset] []))
    obtain ⟨ed, hed⟩ : ∃ z : Int32, z = (own_stop3 fr tt tt (nar .byte (own_draw p1)) (nar .byte (own_draw p2)) (nar .byte (own_draw p3)) (nar .byte (own_draw p4))) := ⟨_, rfl⟩
    rw [← hed]
    show Gl _ _ _ _ _ _ _ (T13.setTop (mkF m 109 #[.val (.int p1), .val (.int p2), .val (.int p3), .val (.int p4), .val (.int p5), .val (.ref b1), .val (.int uu), .val (.int vv), .val (.int fr), .val (.int tt), .val (.int z89s0), .val (.int ed), .unset, .unset, .unset, .unset, .unset, .unset, .unset, .unset] []))
    refine Gl.st (fun t k => XS.aload X13.here hx rfl (hb hby at_109) rfl rfl k) ?_
    show Gl _ _ _ _ _ _ _ (T13.setTop (mkF m 111 #[.val (.int p1), .val (.int p2), .val (.int p3), .val (.int p4), .val (.int p5), .val (.ref b1), .val (.int uu), .val (.int vv), .val (.int fr), .val (.int tt), .val (.int z89s0), .val (.int ed), .unset, .unset, .unset, .unset, .unset, .unset, .unset, .unset] [(.ref b1)]))
    refine Gl.st (fun t k => XS.iconst X13.here hx rfl (hb hby at_111) k) ?_
    show Gl _ _ _ _ _ _ _ (T13.setTop (mkF m 112 #[.val (.int p1), .val (.int p2), .val (.int p3), .val (.int p4), .val (.int p5), .val (.ref b1), .val (.int uu), .val (.int vv), .val (.int fr), .val (.int tt), .val (.int z89s0), .val (.int ed), .unset, .unset, .unset, .unset, .unset, .unset, .unset, .unset] [(.int (2 : Int32)), (.ref b1)]))
    refine Gl.st (fun t k => XS.iload X13.here hx rfl (hb hby at_112) rfl  k) ?_
    show Gl _ _ _ _ _ _ _ (T13.setTop (mkF m 114 #[.val (.int p1), .val (.int p2), .val (.int p3), .val (.int p4), .val (.int p5), .val (.ref b1), .val (.int uu), .val (.int vv), .val (.int fr), .val (.int tt), .val (.int z89s0), .val (.int ed), .unset, .unset, .unset, .unset, .unset, .unset, .unset, .unset] [(.int fr), (.int (2 : Int32)), (.ref b1)]))
    refine Gl.st (fun t k => XS.iload X13.here hx rfl (hb hby at_114) rfl  k) ?_
    show Gl _ _ _ _ _ _ _ (T13.setTop (mkF m 116 #[.val (.int p1), .val (.int p2), .val (.int p3), .val (.int p4), .val (.int p5), .val (.ref b1), .val (.int uu), .val (.int vv), .val (.int fr), .val (.int tt), .val (.int z89s0), .val (.int ed), .unset, .unset, .unset, .unset, .unset, .unset, .unset, .unset] [(.int tt), (.int fr), (.int (2 : Int32)), (.ref b1)]))
    refine Gl.st (fun t k => XS.iload X13.here hx rfl (hb hby at_116) rfl  k) ?_
    show Gl _ _ _ _ _ _ _ (T13.setTop (mkF m 118 #[.val (.int p1), .val (.int p2), .val (.int p3), .val (.int p4), .val (.int p5), .val (.ref b1), .val (.int uu), .val (.int vv), .val (.int fr), .val (.int tt), .val (.int z89s0), .val (.int ed), .unset, .unset, .unset, .unset, .unset, .unset, .unset, .unset] [(.int ed), (.int tt), (.int fr), (.int (2 : Int32)), (.ref b1)]))
    obtain ⟨_, _, ⟨T14, L14, k14, n14⟩, -, X14, ⟨Lc14, hQ14, l14, y14, z14⟩, st14⟩ := Jvm.LawKit.callS X13 hx (y := (⟨"com/example/millrace/millrace/ParserSkipSpacePinLaw", "stopAt", "([BIIII)I"⟩ : MethodName)) hown (mvT hZ (hw _ (List.mem_of_getElem? (i := 12) rfl))) (mvT hZ (hw _ (List.mem_of_getElem? (i := 13) rfl))) (mvT hZ (hw _ (List.mem_of_getElem? (i := 3) rfl))) (mvT hZ (hw _ (List.mem_of_getElem? (i := 14) rfl))) (by decide) (backOf (W := 0) (rm4v2 l Z a0 hw [] b1 fr tt ed (k1) ((nar .byte (own_draw p1))) ((nar .byte (own_draw p2))) ((nar .byte (own_draw p3))) ((nar .byte (own_draw p4))) h9 n0  V9) hZ (hw _ (List.mem_of_getElem? (i := 14) rfl)) (hw _ (List.mem_of_getElem? (i := 3) rfl)) (by decide) (by decide)) (g := (mkF m 118 #[.val (.int p1), .val (.int p2), .val (.int p3), .val (.int p4), .val (.int p5), .val (.ref b1), .val (.int uu), .val (.int vv), .val (.int fr), .val (.int tt), .val (.int z89s0), .val (.int ed), .unset, .unset, .unset, .unset, .unset, .unset, .unset, .unset] [(.int ed), (.int tt), (.int fr), (.int (2 : Int32)), (.ref b1)])) rfl (by rw [hml]; rfl) (argsL := [(.ref b1), (.int (2 : Int32)), (.int fr), (.int tt), (.int ed)]) (rest := []) (lenOf pd_3 rfl) rfl (by show 2 * 0 + _ ≤ _; exact Nat.le_of_eq rfl) (hb hby at_118) (fun _ _ => ⟨rfl, e13, (by decide : 1 + 0 ≤ _), (by decide : 4 + 0 ≤ _)⟩)
    dsimp only [Pt.U, Pt.locs, Pt.cells, Pt.slots] at X14 l14 y14 z14 st14 hQ14
    rw [y14, z14] at X14
    obtain ⟨rfl, N14q, e14⟩ := hQ14
    have N14 : Fr n0 L14 := by rw [l14]; exact Fr.app N13 N14q
    refine Gl.st st14 ?_
    show Gl _ _ _ _ _ _ _ (T14.setTop (mkF m 121 #[.val (.int p1), .val (.int p2), .val (.int p3), .val (.int p4), .val (.int p5), .val (.ref b1), .val (.int uu), .val (.int vv), .val (.int fr), .val (.int tt), .val (.int z89s0), .val (.int ed), .unset, .unset, .unset, .unset, .unset, .unset, .unset, .unset] [(.int (own_stop2 fr tt ed (nar .byte (own_draw p1)) (nar .byte (own_draw p2)) (nar .byte (own_draw p3)) (nar .byte (own_draw p4))))]))
    refine Gl.st (fun t k => XS.istore X14.here hx rfl (hb hby at_121) rfl (l' := #[.val (.int p1), .val (.int p2), .val (.int p3), .val (.int p4), .val (.int p5), .val (.ref b1), .val (.int uu), .val (.int vv), .val (.int fr), .val (.int tt), .val (.int z89s0), .val (.int (own_stop2 fr tt ed (nar .byte (own_draw p1)) (nar .byte (own_draw p2)) (nar .byte (own_draw p3)) (nar .byte (own_draw p4)))), .unset, .unset, .unset, .unset, .unset, .unset, .unset, .unset]) rfl k) ?_
    show Gl _ _ _ _ _ _ _ (T14.setTop (mkF m 123 #[.val (.int p1), .val (.int p2), .val (.int p3), .val (.int p4), .val (.int p5), .val (.ref b1), .val (.int uu), .val (.int vv), .val (.int fr), .val (.int tt), .val (.int z89s0), .val (.int (own_stop2 fr tt ed (nar .byte (own_draw p1)) (nar .byte (own_draw p2)) (nar .byte (own_draw p3)) (nar .byte (own_draw p4)))), .unset, .unset, .unset, .unset, .unset, .unset, .unset, .unset] []))
    obtain ⟨ec, hec⟩ : ∃ z : Int32, z = (own_stop2 fr tt ed (nar .byte (own_draw p1)) (nar .byte (own_draw p2)) (nar .byte (own_draw p3)) (nar .byte (own_draw p4))) := ⟨_, rfl⟩
    rw [← hec]
    show Gl _ _ _ _ _ _ _ (T14.setTop (mkF m 123 #[.val (.int p1), .val (.int p2), .val (.int p3), .val (.int p4), .val (.int p5), .val (.ref b1), .val (.int uu), .val (.int vv), .val (.int fr), .val (.int tt), .val (.int z89s0), .val (.int ec), .unset, .unset, .unset, .unset, .unset, .unset, .unset, .unset] []))
    refine Gl.st (fun t k => XS.aload X14.here hx rfl (hb hby at_123) rfl rfl k) ?_
    show Gl _ _ _ _ _ _ _ (T14.setTop (mkF m 125 #[.val (.int p1), .val (.int p2), .val (.int p3), .val (.int p4), .val (.int p5), .val (.ref b1), .val (.int uu), .val (.int vv), .val (.int fr), .val (.int tt), .val (.int z89s0), .val (.int ec), .unset, .unset, .unset, .unset, .unset, .unset, .unset, .unset] [(.ref b1)]))
    refine Gl.st (fun t k => XS.iconst X14.here hx rfl (hb hby at_125) k) ?_
    show Gl _ _ _ _ _ _ _ (T14.setTop (mkF m 126 #[.val (.int p1), .val (.int p2), .val (.int p3), .val (.int p4), .val (.int p5), .val (.ref b1), .val (.int uu), .val (.int vv), .val (.int fr), .val (.int tt), .val (.int z89s0), .val (.int ec), .unset, .unset, .unset, .unset, .unset, .unset, .unset, .unset] [(.int (1 : Int32)), (.ref b1)]))
    refine Gl.st (fun t k => XS.iload X14.here hx rfl (hb hby at_126) rfl  k) ?_
    show Gl _ _ _ _ _ _ _ (T14.setTop (mkF m 128 #[.val (.int p1), .val (.int p2), .val (.int p3), .val (.int p4), .val (.int p5), .val (.ref b1), .val (.int uu), .val (.int vv), .val (.int fr), .val (.int tt), .val (.int z89s0), .val (.int ec), .unset, .unset, .unset, .unset, .unset, .unset, .unset, .unset] [(.int fr), (.int (1 : Int32)), (.ref b1)]))
    refine Gl.st (fun t k => XS.iload X14.here hx rfl (hb hby at_128) rfl  k) ?_
    show Gl _ _ _ _ _ _ _ (T14.setTop (mkF m 130 #[.val (.int p1), .val (.int p2), .val (.int p3), .val (.int p4), .val (.int p5), .val (.ref b1), .val (.int uu), .val (.int vv), .val (.int fr), .val (.int tt), .val (.int z89s0), .val (.int ec), .unset, .unset, .unset, .unset, .unset, .unset, .unset, .unset] [(.int tt), (.int fr), (.int (1 : Int32)), (.ref b1)]))
    refine Gl.st (fun t k => XS.iload X14.here hx rfl (hb hby at_130) rfl  k) ?_
    show Gl _ _ _ _ _ _ _ (T14.setTop (mkF m 132 #[.val (.int p1), .val (.int p2), .val (.int p3), .val (.int p4), .val (.int p5), .val (.ref b1), .val (.int uu), .val (.int vv), .val (.int fr), .val (.int tt), .val (.int z89s0), .val (.int ec), .unset, .unset, .unset, .unset, .unset, .unset, .unset, .unset] [(.int ec), (.int tt), (.int fr), (.int (1 : Int32)), (.ref b1)]))
    obtain ⟨_, _, ⟨T15, L15, k15, n15⟩, -, X15, ⟨Lc15, hQ15, l15, y15, z15⟩, st15⟩ := Jvm.LawKit.callS X14 hx (y := (⟨"com/example/millrace/millrace/ParserSkipSpacePinLaw", "stopAt", "([BIIII)I"⟩ : MethodName)) hown (mvT hZ (hw _ (List.mem_of_getElem? (i := 12) rfl))) (mvT hZ (hw _ (List.mem_of_getElem? (i := 13) rfl))) (mvT hZ (hw _ (List.mem_of_getElem? (i := 3) rfl))) (mvT hZ (hw _ (List.mem_of_getElem? (i := 14) rfl))) (by decide) (backOf (W := 0) (rm4v1 l Z a0 hw [] b1 fr tt ec (k1) ((nar .byte (own_draw p1))) ((nar .byte (own_draw p2))) ((nar .byte (own_draw p3))) ((nar .byte (own_draw p4))) h9 n0  V9) hZ (hw _ (List.mem_of_getElem? (i := 14) rfl)) (hw _ (List.mem_of_getElem? (i := 3) rfl)) (by decide) (by decide)) (g := (mkF m 132 #[.val (.int p1), .val (.int p2), .val (.int p3), .val (.int p4), .val (.int p5), .val (.ref b1), .val (.int uu), .val (.int vv), .val (.int fr), .val (.int tt), .val (.int z89s0), .val (.int ec), .unset, .unset, .unset, .unset, .unset, .unset, .unset, .unset] [(.int ec), (.int tt), (.int fr), (.int (1 : Int32)), (.ref b1)])) rfl (by rw [hml]; rfl) (argsL := [(.ref b1), (.int (1 : Int32)), (.int fr), (.int tt), (.int ec)]) (rest := []) (lenOf pd_3 rfl) rfl (by show 2 * 0 + _ ≤ _; exact Nat.le_of_eq rfl) (hb hby at_132) (fun _ _ => ⟨rfl, e14, (by decide : 1 + 0 ≤ _), (by decide : 4 + 0 ≤ _)⟩)
    dsimp only [Pt.U, Pt.locs, Pt.cells, Pt.slots] at X15 l15 y15 z15 st15 hQ15
    rw [y15, z15] at X15
    obtain ⟨rfl, N15q, e15⟩ := hQ15
    have N15 : Fr n0 L15 := by rw [l15]; exact Fr.app N14 N15q
    refine Gl.st st15 ?_
    show Gl _ _ _ _ _ _ _ (T15.setTop (mkF m 135 #[.val (.int p1), .val (.int p2), .val (.int p3), .val (.int p4), .val (.int p5), .val (.ref b1), .val (.int uu), .val (.int vv), .val (.int fr), .val (.int tt), .val (.int z89s0), .val (.int ec), .unset, .unset, .unset, .unset, .unset, .unset, .unset, .unset] [(.int (own_stop1 fr tt ec (nar .byte (own_draw p1)) (nar .byte (own_draw p2)) (nar .byte (own_draw p3)) (nar .byte (own_draw p4))))]))
    refine Gl.st (fun t k => XS.istore X15.here hx rfl (hb hby at_135) rfl (l' := #[.val (.int p1), .val (.int p2), .val (.int p3), .val (.int p4), .val (.int p5), .val (.ref b1), .val (.int uu), .val (.int vv), .val (.int fr), .val (.int tt), .val (.int z89s0), .val (.int (own_stop1 fr tt ec (nar .byte (own_draw p1)) (nar .byte (own_draw p2)) (nar .byte (own_draw p3)) (nar .byte (own_draw p4)))), .unset, .unset, .unset, .unset, .unset, .unset, .unset, .unset]) rfl k) ?_
    show Gl _ _ _ _ _ _ _ (T15.setTop (mkF m 137 #[.val (.int p1), .val (.int p2), .val (.int p3), .val (.int p4), .val (.int p5), .val (.ref b1), .val (.int uu), .val (.int vv), .val (.int fr), .val (.int tt), .val (.int z89s0), .val (.int (own_stop1 fr tt ec (nar .byte (own_draw p1)) (nar .byte (own_draw p2)) (nar .byte (own_draw p3)) (nar .byte (own_draw p4)))), .unset, .unset, .unset, .unset, .unset, .unset, .unset, .unset] []))
    obtain ⟨eb, heb⟩ : ∃ z : Int32, z = (own_stop1 fr tt ec (nar .byte (own_draw p1)) (nar .byte (own_draw p2)) (nar .byte (own_draw p3)) (nar .byte (own_draw p4))) := ⟨_, rfl⟩
    rw [← heb]
    show Gl _ _ _ _ _ _ _ (T15.setTop (mkF m 137 #[.val (.int p1), .val (.int p2), .val (.int p3), .val (.int p4), .val (.int p5), .val (.ref b1), .val (.int uu), .val (.int vv), .val (.int fr), .val (.int tt), .val (.int z89s0), .val (.int eb), .unset, .unset, .unset, .unset, .unset, .unset, .unset, .unset] []))
    refine Gl.st (fun t k => XS.aload X15.here hx rfl (hb hby at_137) rfl rfl k) ?_
    show Gl _ _ _ _ _ _ _ (T15.setTop (mkF m 139 #[.val (.int p1), .val (.int p2), .val (.int p3), .val (.int p4), .val (.int p5), .val (.ref b1), .val (.int uu), .val (.int vv), .val (.int fr), .val (.int tt), .val (.int z89s0), .val (.int eb), .unset, .unset, .unset, .unset, .unset, .unset, .unset, .unset] [(.ref b1)]))
    refine Gl.st (fun t k => XS.iconst X15.here hx rfl (hb hby at_139) k) ?_
    show Gl _ _ _ _ _ _ _ (T15.setTop (mkF m 140 #[.val (.int p1), .val (.int p2), .val (.int p3), .val (.int p4), .val (.int p5), .val (.ref b1), .val (.int uu), .val (.int vv), .val (.int fr), .val (.int tt), .val (.int z89s0), .val (.int eb), .unset, .unset, .unset, .unset, .unset, .unset, .unset, .unset] [(.int (0 : Int32)), (.ref b1)]))
    refine Gl.st (fun t k => XS.iload X15.here hx rfl (hb hby at_140) rfl  k) ?_
    show Gl _ _ _ _ _ _ _ (T15.setTop (mkF m 142 #[.val (.int p1), .val (.int p2), .val (.int p3), .val (.int p4), .val (.int p5), .val (.ref b1), .val (.int uu), .val (.int vv), .val (.int fr), .val (.int tt), .val (.int z89s0), .val (.int eb), .unset, .unset, .unset, .unset, .unset, .unset, .unset, .unset] [(.int fr), (.int (0 : Int32)), (.ref b1)]))
    refine Gl.st (fun t k => XS.iload X15.here hx rfl (hb hby at_142) rfl  k) ?_
    show Gl _ _ _ _ _ _ _ (T15.setTop (mkF m 144 #[.val (.int p1), .val (.int p2), .val (.int p3), .val (.int p4), .val (.int p5), .val (.ref b1), .val (.int uu), .val (.int vv), .val (.int fr), .val (.int tt), .val (.int z89s0), .val (.int eb), .unset, .unset, .unset, .unset, .unset, .unset, .unset, .unset] [(.int tt), (.int fr), (.int (0 : Int32)), (.ref b1)]))
    refine Gl.st (fun t k => XS.iload X15.here hx rfl (hb hby at_144) rfl  k) ?_
    show Gl _ _ _ _ _ _ _ (T15.setTop (mkF m 146 #[.val (.int p1), .val (.int p2), .val (.int p3), .val (.int p4), .val (.int p5), .val (.ref b1), .val (.int uu), .val (.int vv), .val (.int fr), .val (.int tt), .val (.int z89s0), .val (.int eb), .unset, .unset, .unset, .unset, .unset, .unset, .unset, .unset] [(.int eb), (.int tt), (.int fr), (.int (0 : Int32)), (.ref b1)]))
    obtain ⟨_, _, ⟨T16, L16, k16, n16⟩, -, X16, ⟨Lc16, hQ16, l16, y16, z16⟩, st16⟩ := Jvm.LawKit.callS X15 hx (y := (⟨"com/example/millrace/millrace/ParserSkipSpacePinLaw", "stopAt", "([BIIII)I"⟩ : MethodName)) hown (mvT hZ (hw _ (List.mem_of_getElem? (i := 12) rfl))) (mvT hZ (hw _ (List.mem_of_getElem? (i := 13) rfl))) (mvT hZ (hw _ (List.mem_of_getElem? (i := 3) rfl))) (mvT hZ (hw _ (List.mem_of_getElem? (i := 14) rfl))) (by decide) (backOf (W := 0) (rm4v0 l Z a0 hw [] b1 fr tt eb (k1) ((nar .byte (own_draw p1))) ((nar .byte (own_draw p2))) ((nar .byte (own_draw p3))) ((nar .byte (own_draw p4))) h9 n0  V9) hZ (hw _ (List.mem_of_getElem? (i := 14) rfl)) (hw _ (List.mem_of_getElem? (i := 3) rfl)) (by decide) (by decide)) (g := (mkF m 146 #[.val (.int p1), .val (.int p2), .val (.int p3), .val (.int p4), .val (.int p5), .val (.ref b1), .val (.int uu), .val (.int vv), .val (.int fr), .val (.int tt), .val (.int z89s0), .val (.int eb), .unset, .unset, .unset, .unset, .unset, .unset, .unset, .unset] [(.int eb), (.int tt), (.int fr), (.int (0 : Int32)), (.ref b1)])) rfl (by rw [hml]; rfl) (argsL := [(.ref b1), (.int (0 : Int32)), (.int fr), (.int tt), (.int eb)]) (rest := []) (lenOf pd_3 rfl) rfl (by show 2 * 0 + _ ≤ _; exact Nat.le_of_eq rfl) (hb hby at_146) (fun _ _ => ⟨rfl, e15, (by decide : 1 + 0 ≤ _), (by decide : 4 + 0 ≤ _)⟩)
    dsimp only [Pt.U, Pt.locs, Pt.cells, Pt.slots] at X16 l16 y16 z16 st16 hQ16
    rw [y16, z16] at X16
    obtain ⟨rfl, N16q, e16⟩ := hQ16
    have N16 : Fr n0 L16 := by rw [l16]; exact Fr.app N15 N16q
    refine Gl.st st16 ?_
    show Gl _ _ _ _ _ _ _ (T16.setTop (mkF m 149 #[.val (.int p1), .val (.int p2), .val (.int p3), .val (.int p4), .val (.int p5), .val (.ref b1), .val (.int uu), .val (.int vv), .val (.int fr), .val (.int tt), .val (.int z89s0), .val (.int eb), .unset, .unset, .unset, .unset, .unset, .unset, .unset, .unset] [(.int (own_stop0 fr tt eb (nar .byte (own_draw p1)) (nar .byte (own_draw p2)) (nar .byte (own_draw p3)) (nar .byte (own_draw p4))))]))
    refine Gl.st (fun t k => XS.istore X16.here hx rfl (hb hby at_149) rfl (l' := #[.val (.int p1), .val (.int p2), .val (.int p3), .val (.int p4), .val (.int p5), .val (.ref b1), .val (.int uu), .val (.int vv), .val (.int fr), .val (.int tt), .val (.int z89s0), .val (.int (own_stop0 fr tt eb (nar .byte (own_draw p1)) (nar .byte (own_draw p2)) (nar .byte (own_draw p3)) (nar .byte (own_draw p4)))), .unset, .unset, .unset, .unset, .unset, .unset, .unset, .unset]) rfl k) ?_
    show Gl _ _ _ _ _ _ _ (T16.setTop (mkF m 151 #[.val (.int p1), .val (.int p2), .val (.int p3), .val (.int p4), .val (.int p5), .val (.ref b1), .val (.int uu), .val (.int vv), .val (.int fr), .val (.int tt), .val (.int z89s0), .val (.int (own_stop0 fr tt eb (nar .byte (own_draw p1)) (nar .byte (own_draw p2)) (nar .byte (own_draw p3)) (nar .byte (own_draw p4)))), .unset, .unset, .unset, .unset, .unset, .unset, .unset, .unset] []))
    obtain ⟨ea, hea⟩ : ∃ z : Int32, z = (own_stop0 fr tt eb (nar .byte (own_draw p1)) (nar .byte (own_draw p2)) (nar .byte (own_draw p3)) (nar .byte (own_draw p4))) := ⟨_, rfl⟩
    rw [← hea]
    show Gl _ _ _ _ _ _ _ (T16.setTop (mkF m 151 #[.val (.int p1), .val (.int p2), .val (.int p3), .val (.int p4), .val (.int p5), .val (.ref b1), .val (.int uu), .val (.int vv), .val (.int fr), .val (.int tt), .val (.int z89s0), .val (.int ea), .unset, .unset, .unset, .unset, .unset, .unset, .unset, .unset] []))
    refine Gl.st (fun t k => XS.aload X16.here hx rfl (hb hby at_151) rfl rfl k) ?_
    show Gl _ _ _ _ _ _ _ (T16.setTop (mkF m 153 #[.val (.int p1), .val (.int p2), .val (.int p3), .val (.int p4), .val (.int p5), .val (.ref b1), .val (.int uu), .val (.int vv), .val (.int fr), .val (.int tt), .val (.int z89s0), .val (.int ea), .unset, .unset, .unset, .unset, .unset, .unset, .unset, .unset] [(.ref b1)]))
    refine Gl.st (fun t k => XS.iconst X16.here hx rfl (hb hby at_153) k) ?_
    show Gl _ _ _ _ _ _ _ (T16.setTop (mkF m 154 #[.val (.int p1), .val (.int p2), .val (.int p3), .val (.int p4), .val (.int p5), .val (.ref b1), .val (.int uu), .val (.int vv), .val (.int fr), .val (.int tt), .val (.int z89s0), .val (.int ea), .unset, .unset, .unset, .unset, .unset, .unset, .unset, .unset] [(.int (0 : Int32)), (.ref b1)]))
    refine Gl.st (fun t k => XS.iload X16.here hx rfl (hb hby at_154) rfl  k) ?_
    show Gl _ _ _ _ _ _ _ (T16.setTop (mkF m 156 #[.val (.int p1), .val (.int p2), .val (.int p3), .val (.int p4), .val (.int p5), .val (.ref b1), .val (.int uu), .val (.int vv), .val (.int fr), .val (.int tt), .val (.int z89s0), .val (.int ea), .unset, .unset, .unset, .unset, .unset, .unset, .unset, .unset] [(.int fr), (.int (0 : Int32)), (.ref b1)]))
    refine Gl.st (fun t k => XS.iload X16.here hx rfl (hb hby at_156) rfl  k) ?_
    show Gl _ _ _ _ _ _ _ (T16.setTop (mkF m 158 #[.val (.int p1), .val (.int p2), .val (.int p3), .val (.int p4), .val (.int p5), .val (.ref b1), .val (.int uu), .val (.int vv), .val (.int fr), .val (.int tt), .val (.int z89s0), .val (.int ea), .unset, .unset, .unset, .unset, .unset, .unset, .unset, .unset] [(.int ea), (.int fr), (.int (0 : Int32)), (.ref b1)]))
    obtain ⟨_, _, ⟨T17, L17, k17, n17⟩, -, X17, ⟨Lc17, hQ17, l17, y17, z17⟩, st17⟩ := Jvm.LawKit.callS X16 hx (y := (⟨"com/example/millrace/millrace/ParserSkipSpacePinLaw", "breakAt", "([BIII)I"⟩ : MethodName)) hown (mvT hZ (hw _ (List.mem_of_getElem? (i := 15) rfl))) (mvT hZ (hw _ (List.mem_of_getElem? (i := 16) rfl))) (mvT hZ (hw _ (List.mem_of_getElem? (i := 3) rfl))) (mvT hZ (hw _ (List.mem_of_getElem? (i := 17) rfl))) (by decide) (backOf (W := 0) (rm5v0 l Z a0 hw [] b1 fr ea (k1) ((nar .byte (own_draw p1))) ((nar .byte (own_draw p2))) ((nar .byte (own_draw p3))) ((nar .byte (own_draw p4))) h9 n0  V9) hZ (hw _ (List.mem_of_getElem? (i := 17) rfl)) (hw _ (List.mem_of_getElem? (i := 3) rfl)) (by decide) (by decide)) (g := (mkF m 158 #[.val (.int p1), .val (.int p2), .val (.int p3), .val (.int p4), .val (.int p5), .val (.ref b1), .val (.int uu), .val (.int vv), .val (.int fr), .val (.int tt), .val (.int z89s0), .val (.int ea), .unset, .unset, .unset, .unset, .unset, .unset, .unset, .unset] [(.int ea), (.int fr), (.int (0 : Int32)), (.ref b1)])) rfl (by rw [hml]; rfl) (argsL := [(.ref b1), (.int (0 : Int32)), (.int fr), (.int ea)]) (rest := []) (lenOf pd_4 rfl) rfl (by show 2 * 0 + _ ≤ _; exact Nat.le_of_eq rfl) (hb hby at_158) (fun _ _ => ⟨rfl, e16, (by decide : 1 + 0 ≤ _), (by decide : 4 + 0 ≤ _)⟩)
    dsimp only [Pt.U, Pt.locs, Pt.cells, Pt.slots] at X17 l17 y17 z17 st17 hQ17
    rw [y17, z17] at X17
    obtain ⟨rfl, N17q, e17⟩ := hQ17
    have N17 : Fr n0 L17 := by rw [l17]; exact Fr.app N16 N17q
    refine Gl.st st17 ?_
    show Gl _ _ _ _ _ _ _ (T17.setTop (mkF m 161 #[.val (.int p1), .val (.int p2), .val (.int p3), .val (.int p4), .val (.int p5), .val (.ref b1), .val (.int uu), .val (.int vv), .val (.int fr), .val (.int tt), .val (.int z89s0), .val (.int ea), .unset, .unset, .unset, .unset, .unset, .unset, .unset, .unset] [(.int (own_break0 fr ea (nar .byte (own_draw p1)) (nar .byte (own_draw p2)) (nar .byte (own_draw p3)) (nar .byte (own_draw p4))))]))
    refine Gl.st (fun t k => XS.aload X17.here hx rfl (hb hby at_161) rfl rfl k) ?_
    show Gl _ _ _ _ _ _ _ (T17.setTop (mkF m 163 #[.val (.int p1), .val (.int p2), .val (.int p3), .val (.int p4), .val (.int p5), .val (.ref b1), .val (.int uu), .val (.int vv), .val (.int fr), .val (.int tt), .val (.int z89s0), .val (.int ea), .unset, .unset, .unset, .unset, .unset, .unset, .unset, .unset] [(.ref b1), (.int (own_break0 fr ea (nar .byte (own_draw p1)) (nar .byte (own_draw p2)) (nar .byte (own_draw p3)) (nar .byte (own_draw p4))))]))
    refine Gl.st (fun t k => XS.iconst X17.here hx rfl (hb hby at_163) k) ?_
    show Gl _ _ _ _ _ _ _ (T17.setTop (mkF m 164 #[.val (.int p1), .val (.int p2), .val (.int p3), .val (.int p4), .val (.int p5), .val (.ref b1), .val (.int uu), .val (.int vv), .val (.int fr), .val (.int tt), .val (.int z89s0), .val (.int ea), .unset, .unset, .unset, .unset, .unset, .unset, .unset, .unset] [(.int (1 : Int32)), (.ref b1), (.int (own_break0 fr ea (nar .byte (own_draw p1)) (nar .byte (own_draw p2)) (nar .byte (own_draw p3)) (nar .byte (own_draw p4))))]))
    refine Gl.st (fun t k => XS.iload X17.here hx rfl (hb hby at_164) rfl  k) ?_
    show Gl _ _ _ _ _ _ _ (T17.setTop (mkF m 166 #[.val (.int p1), .val (.int p2), .val (.int p3), .val (.int p4), .val (.int p5), .val (.ref b1), .val (.int uu), .val (.int vv), .val (.int fr), .val (.int tt), .val (.int z89s0), .val (.int ea), .unset, .unset, .unset, .unset, .unset, .unset, .unset, .unset] [(.int fr), (.int (1 : Int32)), (.ref b1), (.int (own_break0 fr ea (nar .byte (own_draw p1)) (nar .byte (own_draw p2)) (nar .byte (own_draw p3)) (nar .byte (own_draw p4))))]))
    refine Gl.st (fun t k => XS.iload X17.here hx rfl (hb hby at_166) rfl  k) ?_
    show Gl _ _ _ _ _ _ _ (T17.setTop (mkF m 168 #[.val (.int p1), .val (.int p2), .val (.int p3), .val (.int p4), .val (.int p5), .val (.ref b1), .val (.int uu), .val (.int vv), .val (.int fr), .val (.int tt), .val (.int z89s0), .val (.int ea), .unset, .unset, .unset, .unset, .unset, .unset, .unset, .unset] [(.int ea), (.int fr), (.int (1 : Int32)), (.ref b1), (.int (own_break0 fr ea (nar .byte (own_draw p1)) (nar .byte (own_draw p2)) (nar .byte (own_draw p3)) (nar .byte (own_draw p4))))]))
    obtain ⟨_, _, ⟨T18, L18, k18, n18⟩, -, X18, ⟨Lc18, hQ18, l18, y18, z18⟩, st18⟩ := Jvm.LawKit.callS X17 hx (y := (⟨"com/example/millrace/millrace/ParserSkipSpacePinLaw", "breakAt", "([BIII)I"⟩ : MethodName)) hown (mvT hZ (hw _ (List.mem_of_getElem? (i := 15) rfl))) (mvT hZ (hw _ (List.mem_of_getElem? (i := 16) rfl))) (mvT hZ (hw _ (List.mem_of_getElem? (i := 3) rfl))) (mvT hZ (hw _ (List.mem_of_getElem? (i := 17) rfl))) (by decide) (backOf (W := 1) (rm5v1 l Z a0 hw [] b1 fr ea (k1) ((nar .byte (own_draw p1))) ((nar .byte (own_draw p2))) ((nar .byte (own_draw p3))) ((nar .byte (own_draw p4))) h9 n0  V9) hZ (hw _ (List.mem_of_getElem? (i := 17) rfl)) (hw _ (List.mem_of_getElem? (i := 3) rfl)) (by decide) (by decide)) (g := (mkF m 168 #[.val (.int p1), .val (.int p2), .val (.int p3), .val (.int p4), .val (.int p5), .val (.ref b1), .val (.int uu), .val (.int vv), .val (.int fr), .val (.int tt), .val (.int z89s0), .val (.int ea), .unset, .unset, .unset, .unset, .unset, .unset, .unset, .unset] [(.int ea), (.int fr), (.int (1 : Int32)), (.ref b1), (.int (own_break0 fr ea (nar .byte (own_draw p1)) (nar .byte (own_draw p2)) (nar .byte (own_draw p3)) (nar .byte (own_draw p4))))])) rfl (by rw [hml]; rfl) (argsL := [(.ref b1), (.int (1 : Int32)), (.int fr), (.int ea)]) (rest := [(.int (own_break0 fr ea (nar .byte (own_draw p1)) (nar .byte (own_draw p2)) (nar .byte (own_draw p3)) (nar .byte (own_draw p4))))]) (lenOf pd_4 rfl) rfl (by show 2 * 0 + _ ≤ _; exact Nat.le_of_eq rfl) (hb hby at_168) (fun _ _ => ⟨rfl, e17, (by decide : 1 + 0 ≤ _), (by decide : 4 + 0 ≤ _)⟩)
    dsimp only [Pt.U, Pt.locs, Pt.cells, Pt.slots] at X18 l18 y18 z18 st18 hQ18
    rw [y18, z18] at X18
    obtain ⟨rfl, N18q, e18⟩ := hQ18
    have N18 : Fr n0 L18 := by rw [l18]; exact Fr.app N17 N18q
    refine Gl.st st18 ?_
    show Gl _ _ _ _ _ _ _ (T18.setTop (mkF m 171 #[.val (.int p1), .val (.int p2), .val (.int p3), .val (.int p4), .val (.int p5), .val (.ref b1), .val (.int uu), .val (.int vv), .val (.int fr), .val (.int tt), .val (.int z89s0), .val (.int ea), .unset, .unset, .unset, .unset, .unset, .unset, .unset, .unset] [(.int (own_break1 fr ea (nar .byte (own_draw p1)) (nar .byte (own_draw p2)) (nar .byte (own_draw p3)) (nar .byte (own_draw p4)))), (.int (own_break0 fr ea (nar .byte (own_draw p1)) (nar .byte (own_draw p2)) (nar .byte (own_draw p3)) (nar .byte (own_draw p4))))]))
    refine Gl.st (fun t k => XS.iadd X18.here hx rfl (hb hby at_171) rfl k) ?_
    show Gl _ _ _ _ _ _ _ (T18.setTop (mkF m 172 #[.val (.int p1), .val (.int p2), .val (.int p3), .val (.int p4), .val (.int p5), .val (.ref b1), .val (.int uu), .val (.int vv), .val (.int fr), .val (.int tt), .val (.int z89s0), .val (.int ea), .unset, .unset, .unset, .unset, .unset, .unset, .unset, .unset] [(.int ((own_break0 fr ea (nar .byte (own_draw p1)) (nar .byte (own_draw p2)) (nar .byte (own_draw p3)) (nar .byte (own_draw p4))) + (own_break1 fr ea (nar .byte (own_draw p1)) (nar .byte (own_draw p2)) (nar .byte (own_draw p3)) (nar .byte (own_draw p4)))))]))
    refine Gl.st (fun t k => XS.aload X18.here hx rfl (hb hby at_172) rfl rfl k) ?_
    show Gl _ _ _ _ _ _ _ (T18.setTop (mkF m 174 #[.val (.int p1), .val (.int p2), .val (.int p3), .val (.int p4), .val (.int p5), .val (.ref b1), .val (.int uu), .val (.int vv), .val (.int fr), .val (.int tt), .val (.int z89s0), .val (.int ea), .unset, .unset, .unset, .unset, .unset, .unset, .unset, .unset] [(.ref b1), (.int ((own_break0 fr ea (nar .byte (own_draw p1)) (nar .byte (own_draw p2)) (nar .byte (own_draw p3)) (nar .byte (own_draw p4))) + (own_break1 fr ea (nar .byte (own_draw p1)) (nar .byte (own_draw p2)) (nar .byte (own_draw p3)) (nar .byte (own_draw p4)))))]))
    refine Gl.st (fun t k => XS.iconst X18.here hx rfl (hb hby at_174) k) ?_
    show Gl _ _ _ _ _ _ _ (T18.setTop (mkF m 175 #[.val (.int p1), .val (.int p2), .val (.int p3), .val (.int p4), .val (.int p5), .val (.ref b1), .val (.int uu), .val (.int vv), .val (.int fr), .val (.int tt), .val (.int z89s0), .val (.int ea), .unset, .unset, .unset, .unset, .unset, .unset, .unset, .unset] [(.int (2 : Int32)), (.ref b1), (.int ((own_break0 fr ea (nar .byte (own_draw p1)) (nar .byte (own_draw p2)) (nar .byte (own_draw p3)) (nar .byte (own_draw p4))) + (own_break1 fr ea (nar .byte (own_draw p1)) (nar .byte (own_draw p2)) (nar .byte (own_draw p3)) (nar .byte (own_draw p4)))))]))
    refine Gl.st (fun t k => XS.iload X18.here hx rfl (hb hby at_175) rfl  k) ?_
    show Gl _ _ _ _ _ _ _ (T18.setTop (mkF m 177 #[.val (.int p1), .val (.int p2), .val (.int p3), .val (.int p4), .val (.int p5), .val (.ref b1), .val (.int uu), .val (.int vv), .val (.int fr), .val (.int tt), .val (.int z89s0), .val (.int ea), .unset, .unset, .unset, .unset, .unset, .unset, .unset, .unset] [(.int fr), (.int (2 : Int32)), (.ref b1), (.int ((own_break0 fr ea (nar .byte (own_draw p1)) (nar .byte (own_draw p2)) (nar .byte (own_draw p3)) (nar .byte (own_draw p4))) + (own_break1 fr ea (nar .byte (own_draw p1)) (nar .byte (own_draw p2)) (nar .byte (own_draw p3)) (nar .byte (own_draw p4)))))]))
    refine Gl.st (fun t k => XS.iload X18.here hx rfl (hb hby at_177) rfl  k) ?_
    show Gl _ _ _ _ _ _ _ (T18.setTop (mkF m 179 #[.val (.int p1), .val (.int p2), .val (.int p3), .val (.int p4), .val (.int p5), .val (.ref b1), .val (.int uu), .val (.int vv), .val (.int fr), .val (.int tt), .val (.int z89s0), .val (.int ea), .unset, .unset, .unset, .unset, .unset, .unset, .unset, .unset] [(.int ea), (.int fr), (.int (2 : Int32)), (.ref b1), (.int ((own_break0 fr ea (nar .byte (own_draw p1)) (nar .byte (own_draw p2)) (nar .byte (own_draw p3)) (nar .byte (own_draw p4))) + (own_break1 fr ea (nar .byte (own_draw p1)) (nar .byte (own_draw p2)) (nar .byte (own_draw p3)) (nar .byte (own_draw p4)))))]))
    obtain ⟨_, _, ⟨T19, L19, k19, n19⟩, -, X19, ⟨Lc19, hQ19, l19, y19, z19⟩, st19⟩ := Jvm.LawKit.callS X18 hx (y := (⟨"com/example/millrace/millrace/ParserSkipSpacePinLaw", "breakAt", "([BIII)I"⟩ : MethodName)) hown (mvT hZ (hw _ (List.mem_of_getElem? (i := 15) rfl))) (mvT hZ (hw _ (List.mem_of_getElem? (i := 16) rfl))) (mvT hZ (hw _ (List.mem_of_getElem? (i := 3) rfl))) (mvT hZ (hw _ (List.mem_of_getElem? (i := 17) rfl))) (by decide) (backOf (W := 1) (rm5v2 l Z a0 hw [] b1 fr ea (k1) ((nar .byte (own_draw p1))) ((nar .byte (own_draw p2))) ((nar .byte (own_draw p3))) ((nar .byte (own_draw p4))) h9 n0  V9) hZ (hw _ (List.mem_of_getElem? (i := 17) rfl)) (hw _ (List.mem_of_getElem? (i := 3) rfl)) (by decide) (by decide)) (g := (mkF m 179 #[.val (.int p1), .val (.int p2), .val (.int p3), .val (.int p4), .val (.int p5), .val (.ref b1), .val (.int uu), .val (.int vv), .val (.int fr), .val (.int tt), .val (.int z89s0), .val (.int ea), .unset, .unset, .unset, .unset, .unset, .unset, .unset, .unset] [(.int ea), (.int fr), (.int (2 : Int32)), (.ref b1), (.int ((own_break0 fr ea (nar .byte (own_draw p1)) (nar .byte (own_draw p2)) (nar .byte (own_draw p3)) (nar .byte (own_draw p4))) + (own_break1 fr ea (nar .byte (own_draw p1)) (nar .byte (own_draw p2)) (nar .byte (own_draw p3)) (nar .byte (own_draw p4)))))])) rfl (by rw [hml]; rfl) (argsL := [(.ref b1), (.int (2 : Int32)), (.int fr), (.int ea)]) (rest := [(.int ((own_break0 fr ea (nar .byte (own_draw p1)) (nar .byte (own_draw p2)) (nar .byte (own_draw p3)) (nar .byte (own_draw p4))) + (own_break1 fr ea (nar .byte (own_draw p1)) (nar .byte (own_draw p2)) (nar .byte (own_draw p3)) (nar .byte (own_draw p4)))))]) (lenOf pd_4 rfl) rfl (by show 2 * 0 + _ ≤ _; exact Nat.le_of_eq rfl) (hb hby at_179) (fun _ _ => ⟨rfl, e18, (by decide : 1 + 0 ≤ _), (by decide : 4 + 0 ≤ _)⟩)
    dsimp only [Pt.U, Pt.locs, Pt.cells, Pt.slots] at X19 l19 y19 z19 st19 hQ19
    rw [y19, z19] at X19
    obtain ⟨rfl, N19q, e19⟩ := hQ19
    have N19 : Fr n0 L19 := by rw [l19]; exact Fr.app N18 N19q
    refine Gl.st st19 ?_
    show Gl _ _ _ _ _ _ _ (T19.setTop (mkF m 182 #[.val (.int p1), .val (.int p2), .val (.int p3), .val (.int p4), .val (.int p5), .val (.ref b1), .val (.int uu), .val (.int vv), .val (.int fr), .val (.int tt), .val (.int z89s0), .val (.int ea), .unset, .unset, .unset, .unset, .unset, .unset, .unset, .unset] [(.int (own_break2 fr ea (nar .byte (own_draw p1)) (nar .byte (own_draw p2)) (nar .byte (own_draw p3)) (nar .byte (own_draw p4)))), (.int ((own_break0 fr ea (nar .byte (own_draw p1)) (nar .byte (own_draw p2)) (nar .byte (own_draw p3)) (nar .byte (own_draw p4))) + (own_break1 fr ea (nar .byte (own_draw p1)) (nar .byte (own_draw p2)) (nar .byte (own_draw p3)) (nar .byte (own_draw p4)))))]))
    refine Gl.st (fun t k => XS.iadd X19.here hx rfl (hb hby at_182) rfl k) ?_
    show Gl _ _ _ _ _ _ _ (T19.setTop (mkF m 183 #[.val (.int p1), .val (.int p2), .val (.int p3), .val (.int p4), .val (.int p5), .val (.ref b1), .val (.int uu), .val (.int vv), .val (.int fr), .val (.int tt), .val (.int z89s0), .val (.int ea), .unset, .unset, .unset, .unset, .unset, .unset, .unset, .unset] [(.int (((own_break0 fr ea (nar .byte (own_draw p1)) (nar .byte (own_draw p2)) (nar .byte (own_draw p3)) (nar .byte (own_draw p4))) + (own_break1 fr ea (nar .byte (own_draw p1)) (nar .byte (own_draw p2)) (nar .byte (own_draw p3)) (nar .byte (own_draw p4)))) + (own_break2 fr ea (nar .byte (own_draw p1)) (nar .byte (own_draw p2)) (nar .byte (own_draw p3)) (nar .byte (own_draw p4)))))]))
    refine Gl.st (fun t k => XS.aload X19.here hx rfl (hb hby at_183) rfl rfl k) ?_
    show Gl _ _ _ _ _ _ _ (T19.setTop (mkF m 185 #[.val (.int p1), .val (.int p2), .val (.int p3), .val (.int p4), .val (.int p5), .val (.ref b1), .val (.int uu), .val (.int vv), .val (.int fr), .val (.int tt), .val (.int z89s0), .val (.int ea), .unset, .unset, .unset, .unset, .unset, .unset, .unset, .unset] [(.ref b1), (.int (((own_break0 fr ea (nar .byte (own_draw p1)) (nar .byte (own_draw p2)) (nar .byte (own_draw p3)) (nar .byte (own_draw p4))) + (own_break1 fr ea (nar .byte (own_draw p1)) (nar .byte (own_draw p2)) (nar .byte (own_draw p3)) (nar .byte (own_draw p4)))) + (own_break2 fr ea (nar .byte (own_draw p1)) (nar .byte (own_draw p2)) (nar .byte (own_draw p3)) (nar .byte (own_draw p4)))))]))
    refine Gl.st (fun t k => XS.iconst X19.here hx rfl (hb hby at_185) k) ?_
    show Gl _ _ _ _ _ _ _ (T19.setTop (mkF m 186 #[.val (.int p1), .val (.int p2), .val (.int p3), .val (.int p4), .val (.int p5), .val (.ref b1), .val (.int uu), .val (.int vv), .val (.int fr), .val (.int tt), .val (.int z89s0), .val (.int ea), .unset, .unset, .unset, .unset, .unset, .unset, .unset, .unset] [(.int (3 : Int32)), (.ref b1), (.int (((own_break0 fr ea (nar .byte (own_draw p1)) (nar .byte (own_draw p2)) (nar .byte (own_draw p3)) (nar .byte (own_draw p4))) + (own_break1 fr ea (nar .byte (own_draw p1)) (nar .byte (own_draw p2)) (nar .byte (own_draw p3)) (nar .byte (own_draw p4)))) + (own_break2 fr ea (nar .byte (own_draw p1)) (nar .byte (own_draw p2)) (nar .byte (own_draw p3)) (nar .byte (own_draw p4)))))]))
    refine Gl.st (fun t k => XS.iload X19.here hx rfl (hb hby at_186) rfl  k) ?_
    show Gl _ _ _ _ _ _ _ (T19.setTop (mkF m 188 #[.val (.int p1), .val (.int p2), .val (.int p3), .val (.int p4), .val (.int p5), .val (.ref b1), .val (.int uu), .val (.int vv), .val (.int fr), .val (.int tt), .val (.int z89s0), .val (.int ea), .unset, .unset, .unset, .unset, .unset, .unset, .unset, .unset] [(.int fr), (.int (3 : Int32)), (.ref b1), (.int (((own_break0 fr ea (nar .byte (own_draw p1)) (nar .byte (own_draw p2)) (nar .byte (own_draw p3)) (nar .byte (own_draw p4))) + (own_break1 fr ea (nar .byte (own_draw p1)) (nar .byte (own_draw p2)) (nar .byte (own_draw p3)) (nar .byte (own_draw p4)))) + (own_break2 fr ea (nar .byte (own_draw p1)) (nar .byte (own_draw p2)) (nar .byte (own_draw p3)) (nar .byte (own_draw p4)))))]))
    refine Gl.st (fun t k => XS.iload X19.here hx rfl (hb hby at_188) rfl  k) ?_
    show Gl _ _ _ _ _ _ _ (T19.setTop (mkF m 190 #[.val (.int p1), .val (.int p2), .val (.int p3), .val (.int p4), .val (.int p5), .val (.ref b1), .val (.int uu), .val (.int vv), .val (.int fr), .val (.int tt), .val (.int z89s0), .val (.int ea), .unset, .unset, .unset, .unset, .unset, .unset, .unset, .unset] [(.int ea), (.int fr), (.int (3 : Int32)), (.ref b1), (.int (((own_break0 fr ea (nar .byte (own_draw p1)) (nar .byte (own_draw p2)) (nar .byte (own_draw p3)) (nar .byte (own_draw p4))) + (own_break1 fr ea (nar .byte (own_draw p1)) (nar .byte (own_draw p2)) (nar .byte (own_draw p3)) (nar .byte (own_draw p4)))) + (own_break2 fr ea (nar .byte (own_draw p1)) (nar .byte (own_draw p2)) (nar .byte (own_draw p3)) (nar .byte (own_draw p4)))))]))
    obtain ⟨_, _, ⟨T20, L20, k20, n20⟩, -, X20, ⟨Lc20, hQ20, l20, y20, z20⟩, st20⟩ := Jvm.LawKit.callS X19 hx (y := (⟨"com/example/millrace/millrace/ParserSkipSpacePinLaw", "breakAt", "([BIII)I"⟩ : MethodName)) hown (mvT hZ (hw _ (List.mem_of_getElem? (i := 15) rfl))) (mvT hZ (hw _ (List.mem_of_getElem? (i := 16) rfl))) (mvT hZ (hw _ (List.mem_of_getElem? (i := 3) rfl))) (mvT hZ (hw _ (List.mem_of_getElem? (i := 17) rfl))) (by decide) (backOf (W := 1) (rm5v3 l Z a0 hw [] b1 fr ea (k1) ((nar .byte (own_draw p1))) ((nar .byte (own_draw p2))) ((nar .byte (own_draw p3))) ((nar .byte (own_draw p4))) h9 n0  V9) hZ (hw _ (List.mem_of_getElem? (i := 17) rfl)) (hw _ (List.mem_of_getElem? (i := 3) rfl)) (by decide) (by decide)) (g := (mkF m 190 #[.val (.int p1), .val (.int p2), .val (.int p3), .val (.int p4), .val (.int p5), .val (.ref b1), .val (.int uu), .val (.int vv), .val (.int fr), .val (.int tt), .val (.int z89s0), .val (.int ea), .unset, .unset, .unset, .unset, .unset, .unset, .unset, .unset] [(.int ea), (.int fr), (.int (3 : Int32)), (.ref b1), (.int (((own_break0 fr ea (nar .byte (own_draw p1)) (nar .byte (own_draw p2)) (nar .byte (own_draw p3)) (nar .byte (own_draw p4))) + (own_break1 fr ea (nar .byte (own_draw p1)) (nar .byte (own_draw p2)) (nar .byte (own_draw p3)) (nar .byte (own_draw p4)))) + (own_break2 fr ea (nar .byte (own_draw p1)) (nar .byte (own_draw p2)) (nar .byte (own_draw p3)) (nar .byte (own_draw p4)))))])) rfl (by rw [hml]; rfl) (argsL := [(.ref b1), (.int (3 : Int32)), (.int fr), (.int ea)]) (rest := [(.int (((own_break0 fr ea (nar .byte (own_draw p1)) (nar .byte (own_draw p2)) (nar .byte (own_draw p3)) (nar .byte (own_draw p4))) + (own_break1 fr ea (nar .byte (own_draw p1)) (nar .byte (own_draw p2)) (nar .byte (own_draw p3)) (nar .byte (own_draw p4)))) + (own_break2 fr ea (nar .byte (own_draw p1)) (nar .byte (own_draw p2)) (nar .byte (own_draw p3)) (nar .byte (own_draw p4)))))]) (lenOf pd_4 rfl) rfl (by show 2 * 0 + _ ≤ _; exact Nat.le_of_eq rfl) (hb hby at_190) (fun _ _ => ⟨rfl, e19, (by decide : 1 + 0 ≤ _), (by decide : 4 + 0 ≤ _)⟩)
    dsimp only [Pt.U, Pt.locs, Pt.cells, Pt.slots] at X20 l20 y20 z20 st20 hQ20
    rw [y20, z20] at X20
    obtain ⟨rfl, N20q, e20⟩ := hQ20
    have N20 : Fr n0 L20 := by rw [l20]; exact Fr.app N19 N20q
    refine Gl.st st20 ?_
    show Gl _ _ _ _ _ _ _ (T20.setTop (mkF m 193 #[.val (.int p1), .val (.int p2), .val (.int p3), .val (.int p4), .val (.int p5), .val (.ref b1), .val (.int uu), .val (.int vv), .val (.int fr), .val (.int tt), .val (.int z89s0), .val (.int ea), .unset, .unset, .unset, .unset, .unset, .unset, .unset, .unset] [(.int (own_break3 fr ea (nar .byte (own_draw p1)) (nar .byte (own_draw p2)) (nar .byte (own_draw p3)) (nar .byte (own_draw p4)))), (.int (((own_break0 fr ea (nar .byte (own_draw p1)) (nar .byte (own_draw p2)) (nar .byte (own_draw p3)) (nar .byte (own_draw p4))) + (own_break1 fr ea (nar .byte (own_draw p1)) (nar .byte (own_draw p2)) (nar .byte (own_draw p3)) (nar .byte (own_draw p4)))) + (own_break2 fr ea (nar .byte (own_draw p1)) (nar .byte (own_draw p2)) (nar .byte (own_draw p3)) (nar .byte (own_draw p4)))))]))
    refine Gl.st (fun t k => XS.iadd X20.here hx rfl (hb hby at_193) rfl k) ?_
    show Gl _ _ _ _ _ _ _ (T20.setTop (mkF m 194 #[.val (.int p1), .val (.int p2), .val (.int p3), .val (.int p4), .val (.int p5), .val (.ref b1), .val (.int uu), .val (.int vv), .val (.int fr), .val (.int tt), .val (.int z89s0), .val (.int ea), .unset, .unset, .unset, .unset, .unset, .unset, .unset, .unset] [(.int ((((own_break0 fr ea (nar .byte (own_draw p1)) (nar .byte (own_draw p2)) (nar .byte (own_draw p3)) (nar .byte (own_draw p4))) + (own_break1 fr ea (nar .byte (own_draw p1)) (nar .byte (own_draw p2)) (nar .byte (own_draw p3)) (nar .byte (own_draw p4)))) + (own_break2 fr ea (nar .byte (own_draw p1)) (nar .byte (own_draw p2)) (nar .byte (own_draw p3)) (nar .byte (own_draw p4)))) + (own_break3 fr ea (nar .byte (own_draw p1)) (nar .byte (own_draw p2)) (nar .byte (own_draw p3)) (nar .byte (own_draw p4)))))]))
    refine Gl.st (fun t k => XS.istore X20.here hx rfl (hb hby at_194) rfl (l' := #[.val (.int p1), .val (.int p2), .val (.int p3), .val (.int p4), .val (.int p5), .val (.ref b1), .val (.int uu), .val (.int vv), .val (.int fr), .val (.int tt), .val (.int z89s0), .val (.int ea), .val (.int ((((own_break0 fr ea (nar .byte (own_draw p1)) (nar .byte (own_draw p2)) (nar .byte (own_draw p3)) (nar .byte (own_draw p4))) + (own_break1 fr ea (nar .byte (own_draw p1)) (nar .byte (own_draw p2)) (nar .byte (own_draw p3)) (nar .byte (own_draw p4)))) + (own_break2 fr ea (nar .byte (own_draw p1)) (nar .byte (own_draw p2)) (nar .byte (own_draw p3)) (nar .byte (own_draw p4)))) + (own_break3 fr ea (nar .byte (own_draw p1)) (nar .byte (own_draw p2)) (nar .byte (own_draw p3)) (nar .byte (own_draw p4))))), .unset, .unset, .unset, .unset, .unset, .unset, .unset]) rfl k) ?_
    show Gl _ _ _ _ _ _ _ (T20.setTop (mkF m 196 #[.val (.int p1), .val (.int p2), .val (.int p3), .val (.int p4), .val (.int p5), .val (.ref b1), .val (.int uu), .val (.int vv), .val (.int fr), .val (.int tt), .val (.int z89s0), .val (.int ea), .val (.int ((((own_break0 fr ea (nar .byte (own_draw p1)) (nar .byte (own_draw p2)) (nar .byte (own_draw p3)) (nar .byte (own_draw p4))) + (own_break1 fr ea (nar .byte (own_draw p1)) (nar .byte (own_draw p2)) (nar .byte (own_draw p3)) (nar .byte (own_draw p4)))) + (own_break2 fr ea (nar .byte (own_draw p1)) (nar .byte (own_draw p2)) (nar .byte (own_draw p3)) (nar .byte (own_draw p4)))) + (own_break3 fr ea (nar .byte (own_draw p1)) (nar .byte (own_draw p2)) (nar .byte (own_draw p3)) (nar .byte (own_draw p4))))), .unset, .unset, .unset, .unset, .unset, .unset, .unset] []))
    obtain ⟨br, hbr⟩ : ∃ z : Int32, z = ((((own_break0 fr ea (nar .byte (own_draw p1)) (nar .byte (own_draw p2)) (nar .byte (own_draw p3)) (nar .byte (own_draw p4))) + (own_break1 fr ea (nar .byte (own_draw p1)) (nar .byte (own_draw p2)) (nar .byte (own_draw p3)) (nar .byte (own_draw p4)))) + (own_break2 fr ea (nar .byte (own_draw p1)) (nar .byte (own_draw p2)) (nar .byte (own_draw p3)) (nar .byte (own_draw p4)))) + (own_break3 fr ea (nar .byte (own_draw p1)) (nar .byte (own_draw p2)) (nar .byte (own_draw p3)) (nar .byte (own_draw p4)))) := ⟨_, rfl⟩
    rw [← hbr]
    have hfin := own_final _ _ _ _ fr tt ed ec eb ea br hft.1 hft.2.1 hft.2.2 hed hec heb hea hbr
    show Gl _ _ _ _ _ _ _ (T20.setTop (mkF m 196 #[.val (.int p1), .val (.int p2), .val (.int p3), .val (.int p4), .val (.int p5), .val (.ref b1), .val (.int uu), .val (.int vv), .val (.int fr), .val (.int tt), .val (.int z89s0), .val (.int ea), .val (.int br), .unset, .unset, .unset, .unset, .unset, .unset, .unset] []))
    obtain ⟨T21, h21, X21, e21, E21, A21, D21, -, st21⟩ := newO X20 hx hZ hown (hw _ (List.mem_of_getElem? (i := 18) rfl)) (hw _ (List.mem_of_getElem? (i := 19) rfl)) (hw _ (List.mem_of_getElem? (i := 20) rfl)) e20 (g := (mkF m 196 #[.val (.int p1), .val (.int p2), .val (.int p3), .val (.int p4), .val (.int p5), .val (.ref b1), .val (.int uu), .val (.int vv), .val (.int fr), .val (.int tt), .val (.int z89s0), .val (.int ea), .val (.int br), .unset, .unset, .unset, .unset, .unset, .unset, .unset] [])) rfl (hb hby at_196) (by decide) (by decide)
    obtain ⟨b21, g21⟩ : ∃ z, z = h9.size := ⟨_, rfl⟩
    rw [← g21] at A21 D21 st21
    refine Gl.st st21 ?_
    have ne_b1_b21 : b1 ≠ b21 := Nat.ne_of_lt (Nat.lt_of_lt_of_le V9.lt (Nat.le_of_eq g21.symm))
    have gzb21 : n0 ≤ b21 := Nat.le_trans Z9 (Nat.le_of_eq g21.symm)
    have Z21 : n0 ≤ h21.size := Nat.le_trans Z9 E21.1
    have V9'22 : Arv Z h21 b1 k1 .byte (4 : Int32) [(.int (nar .byte (own_draw p1))), (.int (nar .byte (own_draw p2))), (.int (nar .byte (own_draw p3))), (.int (nar .byte (own_draw p4)))] (.int (0 : Int32)) := V9.ext E21
    have F21_text : Fld Z h21 b21 "com/example/millrace/millrace/JsonObject$Parser" "text" "[B" .null := D21 (Or.inr (hw _ (List.mem_of_getElem? (i := 28) rfl))) (ty := (.array .byte)) (by decide)
    have F21_at : Fld Z h21 b21 "com/example/millrace/millrace/JsonObject$Parser" "at" "I" (.int (0 : Int32)) := D21 (Or.inl (hw _ (List.mem_of_getElem? (i := 30) rfl))) (ty := .int) (by decide)
    have F21_end : Fld Z h21 b21 "com/example/millrace/millrace/JsonObject$Parser" "end" "I" (.int (0 : Int32)) := D21 (Or.inr (hw _ (List.mem_of_getElem? (i := 32) rfl))) (ty := .int) (by decide)
    have F21_build : Fld Z h21 b21 "com/example/millrace/millrace/JsonObject$Parser" "build" "Z" (.int (0 : Int32)) := D21 (Or.inl (hw _ (List.mem_of_getElem? (i := 34) rfl))) (ty := .boolean) (by decide)
    have F21_breaks : Fld Z h21 b21 "com/example/millrace/millrace/JsonObject$Parser" "breaks" "I" (.int (0 : Int32)) := D21 (Or.inl (hw _ (List.mem_of_getElem? (i := 51) rfl))) (ty := .int) (by decide)
    show Gl _ _ _ _ _ _ _ (T21.setTop (mkF m 199 #[.val (.int p1), .val (.int p2), .val (.int p3), .val (.int p4), .val (.int p5), .val (.ref b1), .val (.int uu), .val (.int vv), .val (.int fr), .val (.int tt), .val (.int z89s0), .val (.int ea), .val (.int br), .unset, .unset, .unset, .unset, .unset, .unset, .unset] [(.ref b21)]))
    refine Gl.st (fun t k => XS.dup X21.here hx rfl (hb hby at_199) rfl rfl k) ?_
    show Gl _ _ _ _ _ _ _ (T21.setTop (mkF m 200 #[.val (.int p1), .val (.int p2), .val (.int p3), .val (.int p4), .val (.int p5), .val (.ref b1), .val (.int uu), .val (.int vv), .val (.int fr), .val (.int tt), .val (.int z89s0), .val (.int ea), .val (.int br), .unset, .unset, .unset, .unset, .unset, .unset, .unset] [(.ref b21), (.ref b21)]))
    refine Gl.st (fun t k => XS.aload X21.here hx rfl (hb hby at_200) rfl rfl k) ?_
    show Gl _ _ _ _ _ _ _ (T21.setTop (mkF m 202 #[.val (.int p1), .val (.int p2), .val (.int p3), .val (.int p4), .val (.int p5), .val (.ref b1), .val (.int uu), .val (.int vv), .val (.int fr), .val (.int tt), .val (.int z89s0), .val (.int ea), .val (.int br), .unset, .unset, .unset, .unset, .unset, .unset, .unset] [(.ref b1), (.ref b21), (.ref b21)]))
    refine Gl.st (fun t k => XS.iload X21.here hx rfl (hb hby at_202) rfl  k) ?_
    show Gl _ _ _ _ _ _ _ (T21.setTop (mkF m 204 #[.val (.int p1), .val (.int p2), .val (.int p3), .val (.int p4), .val (.int p5), .val (.ref b1), .val (.int uu), .val (.int vv), .val (.int fr), .val (.int tt), .val (.int z89s0), .val (.int ea), .val (.int br), .unset, .unset, .unset, .unset, .unset, .unset, .unset] [(.int fr), (.ref b1), (.ref b21), (.ref b21)]))
    refine Gl.st (fun t k => XS.iload X21.here hx rfl (hb hby at_204) rfl  k) ?_
    show Gl _ _ _ _ _ _ _ (T21.setTop (mkF m 206 #[.val (.int p1), .val (.int p2), .val (.int p3), .val (.int p4), .val (.int p5), .val (.ref b1), .val (.int uu), .val (.int vv), .val (.int fr), .val (.int tt), .val (.int z89s0), .val (.int ea), .val (.int br), .unset, .unset, .unset, .unset, .unset, .unset, .unset] [(.int tt), (.int fr), (.ref b1), (.ref b21), (.ref b21)]))
    refine Gl.st (fun t k => XS.iload X21.here hx rfl (hb hby at_206) rfl  k) ?_
    show Gl _ _ _ _ _ _ _ (T21.setTop (mkF m 208 #[.val (.int p1), .val (.int p2), .val (.int p3), .val (.int p4), .val (.int p5), .val (.ref b1), .val (.int uu), .val (.int vv), .val (.int fr), .val (.int tt), .val (.int z89s0), .val (.int ea), .val (.int br), .unset, .unset, .unset, .unset, .unset, .unset, .unset] [(.int z89s0), (.int tt), (.int fr), (.ref b1), (.ref b21), (.ref b21)]))
    obtain ⟨_, _, ⟨T23, L23, k23, n23⟩, -, X23, ⟨Lc23, hQ23, l23, y23, z23⟩, st23⟩ := X21.specialBack hx (y := (⟨"com/example/millrace/millrace/JsonObject$Parser", "<init>", "([BIIZ)V"⟩ : MethodName)) rfl hown (mvT hZ (hw _ (List.mem_of_getElem? (i := 21) rfl))) (mvT hZ (hw _ (List.mem_of_getElem? (i := 22) rfl))) (mvT hZ (hw _ (List.mem_of_getElem? (i := 23) rfl))) (by decide) (backOf (W := 1) (rm6 l Z a0 hw [] b21 b1 fr tt z89s0 (.null) ((.int (0 : Int32))) ((.int (0 : Int32))) ((.int (0 : Int32))) ((.int (0 : Int32))) h21 n0 Z21 A21 F21_text F21_at F21_end F21_build F21_breaks gzb21) hZ (hw _ (List.mem_of_getElem? (i := 23) rfl)) (hw _ (List.mem_of_getElem? (i := 20) rfl)) (by decide) (by decide)) (g := (mkF m 208 #[.val (.int p1), .val (.int p2), .val (.int p3), .val (.int p4), .val (.int p5), .val (.ref b1), .val (.int uu), .val (.int vv), .val (.int fr), .val (.int tt), .val (.int z89s0), .val (.int ea), .val (.int br), .unset, .unset, .unset, .unset, .unset, .unset, .unset] [(.int z89s0), (.int tt), (.int fr), (.ref b1), (.ref b21), (.ref b21)])) rfl (by rw [hml]; rfl) (Steps.refl _) (a := b21) (argsL := [(.ref b1), (.int fr), (.int tt), (.int z89s0)]) (rest := [(.ref b21)]) (lenOf pd_5 rfl) rfl (by show 2 * 0 + _ ≤ _; exact Nat.le_of_eq rfl) (hb hby at_208) (fun _ _ => ⟨rfl, e21, (by decide : 2 + 0 ≤ _), (by decide : 9 + 0 ≤ _)⟩)
    dsimp only [Pt.U, Pt.locs, Pt.cells, Pt.slots] at X23 l23 y23 z23 st23 hQ23
    rw [y23, z23] at X23
    obtain ⟨rfl, N23q, Kq23, Fq23_0, Fq23_1, Fq23_2, Fq23_3, Fq23_4, Fq23_5⟩ := hQ23
    have N23 : Fr n0 L23 := by rw [l23]; exact Fr.app N20 N23q
    have Z23 : n0 ≤ T23.heap.size := Nat.le_trans Z21 Kq23.1
    have V9'24 : Arv Z T23.heap b1 k1 .byte (4 : Int32) [(.int (nar .byte (own_draw p1))), (.int (nar .byte (own_draw p2))), (.int (nar .byte (own_draw p3))), (.int (nar .byte (own_draw p4)))] (.int (0 : Int32)) := V9'22.keep Kq23 (ninS ne_b1_b21 nin0)
    refine Gl.to st23 ?_
    show Gl _ _ _ _ _ _ _ (T23.setTop (mkF m 211 #[.val (.int p1), .val (.int p2), .val (.int p3), .val (.int p4), .val (.int p5), .val (.ref b1), .val (.int uu), .val (.int vv), .val (.int fr), .val (.int tt), .val (.int z89s0), .val (.int ea), .val (.int br), .unset, .unset, .unset, .unset, .unset, .unset, .unset] [(.ref b21)]))
    refine Gl.st (fun t k => XS.astore X23.here hx rfl (hb hby at_211) rfl rfl (l' := #[.val (.int p1), .val (.int p2), .val (.int p3), .val (.int p4), .val (.int p5), .val (.ref b1), .val (.int uu), .val (.int vv), .val (.int fr), .val (.int tt), .val (.int z89s0), .val (.int ea), .val (.int br), .val (.ref b21), .unset, .unset, .unset, .unset, .unset, .unset]) rfl k) ?_
    show Gl _ _ _ _ _ _ _ (T23.setTop (mkF m 213 #[.val (.int p1), .val (.int p2), .val (.int p3), .val (.int p4), .val (.int p5), .val (.ref b1), .val (.int uu), .val (.int vv), .val (.int fr), .val (.int tt), .val (.int z89s0), .val (.int ea), .val (.int br), .val (.ref b21), .unset, .unset, .unset, .unset, .unset, .unset] []))
    refine Gl.st (fun t k => XS.aload X23.here hx rfl (hb hby at_213) rfl rfl k) ?_
    show Gl _ _ _ _ _ _ _ (T23.setTop (mkF m 215 #[.val (.int p1), .val (.int p2), .val (.int p3), .val (.int p4), .val (.int p5), .val (.ref b1), .val (.int uu), .val (.int vv), .val (.int fr), .val (.int tt), .val (.int z89s0), .val (.int ea), .val (.int br), .val (.ref b21), .unset, .unset, .unset, .unset, .unset, .unset] [(.ref b21)]))
    obtain ⟨cq25, kq25, qa25, qb25, qc25⟩ := isOf hZ rfl Fq23_0
    obtain ⟨_, _, ⟨T25, L25, k25, n25⟩, -, X25, ⟨Lc25, hQ25, l25, y25, z25⟩, st25⟩ := X23.virtualBack hx (y := (⟨"com/example/millrace/millrace/JsonObject$Parser", "skipSpace", "()I"⟩ : MethodName)) (z := (⟨"com/example/millrace/millrace/JsonObject$Parser", "skipSpace", "()I"⟩ : MethodName)) hown (mvT hZ (hw _ (List.mem_of_getElem? (i := 35) rfl))) (mvT hZ (hw _ (List.mem_of_getElem? (i := 36) rfl))) (notFace_of_selects (args := #[]) (mvT hZ (hw _ (List.mem_of_getElem? (i := 38) rfl)))) (mvT hZ (hw _ (List.mem_of_getElem? (i := 38) rfl))) (mvT hZ (hw _ (List.mem_of_getElem? (i := 37) rfl))) (by decide) (backOf (W := 0) (rm8 l Z a0 hw [] b21 (b1) (fr) (tt) ((0 : Int32)) (k1) ((nar .byte (own_draw p1))) ((nar .byte (own_draw p2))) ((nar .byte (own_draw p3))) ((nar .byte (own_draw p4))) T23.heap n0 Z23 Fq23_0 Fq23_1 Fq23_2 Fq23_3 Fq23_5 V9'24 gzb21 ne_b1_b21 hft.1 hft.2.1 hft.2.2) hZ (hw _ (List.mem_of_getElem? (i := 39) rfl)) (hw _ (List.mem_of_getElem? (i := 20) rfl)) (by decide) (by decide)) qa25 qc25 (g := (mkF m 215 #[.val (.int p1), .val (.int p2), .val (.int p3), .val (.int p4), .val (.int p5), .val (.ref b1), .val (.int uu), .val (.int vv), .val (.int fr), .val (.int tt), .val (.int z89s0), .val (.int ea), .val (.int br), .val (.ref b21), .unset, .unset, .unset, .unset, .unset, .unset] [(.ref b21)])) rfl (by rw [hml]; rfl) (Steps.refl _) (argsL := []) (rest := []) (lenOf pd_6 rfl) rfl (by show 2 * 0 + _ ≤ _; exact Nat.le_of_eq rfl) (hb hby at_215) (fun _ _ => ⟨rfl, rfl, (by decide : 2 + 0 ≤ _), (by decide : 9 + 0 ≤ _)⟩)
    dsimp only [Pt.U, Pt.locs, Pt.cells, Pt.slots] at X25 l25 y25 z25 st25 hQ25
    rw [y25, z25] at X25
    obtain ⟨rfl, N25q, Kq25, Fq25_0, Fq25_1, Fq25_2, Fq25_3, Fq25_4⟩ := hQ25
    have N25 : Fr n0 L25 := by rw [l25]; exact Fr.app N23 N25q
    have Z25 : n0 ≤ T25.heap.size := Nat.le_trans Z23 Kq25.1
    have V9'26 : Arv Z T25.heap b1 k1 .byte (4 : Int32) [(.int (nar .byte (own_draw p1))), (.int (nar .byte (own_draw p2))), (.int (nar .byte (own_draw p3))), (.int (nar .byte (own_draw p4)))] (.int (0 : Int32)) := V9'24.keep Kq25 (ninS ne_b1_b21 nin0)
    refine Gl.to st25 ?_
    have hp1 : 0 ≤ (own_pos [(nar .byte (own_draw p1)), (nar .byte (own_draw p2)), (nar .byte (own_draw p3)), (nar .byte (own_draw p4))] fr tt (0 : Int32)).toInt ∧ (own_pos [(nar .byte (own_draw p1)), (nar .byte (own_draw p2)), (nar .byte (own_draw p3)), (nar .byte (own_draw p4))] fr tt (0 : Int32)).toInt ≤ tt.toInt ∧ tt.toInt ≤ 4 := own_pos_rng _ _ _ _ hft.1 hft.2.1 hft.2.2
    show Gl _ _ _ _ _ _ _ (T25.setTop (mkF m 218 #[.val (.int p1), .val (.int p2), .val (.int p3), .val (.int p4), .val (.int p5), .val (.ref b1), .val (.int uu), .val (.int vv), .val (.int fr), .val (.int tt), .val (.int z89s0), .val (.int ea), .val (.int br), .val (.ref b21), .unset, .unset, .unset, .unset, .unset, .unset] [(.int (own_pos [(nar .byte (own_draw p1)), (nar .byte (own_draw p2)), (nar .byte (own_draw p3)), (nar .byte (own_draw p4))] fr tt (0 : Int32)))]))
    refine Gl.st (fun t k => XS.istore X25.here hx rfl (hb hby at_218) rfl (l' := #[.val (.int p1), .val (.int p2), .val (.int p3), .val (.int p4), .val (.int p5), .val (.ref b1), .val (.int uu), .val (.int vv), .val (.int fr), .val (.int tt), .val (.int z89s0), .val (.int ea), .val (.int br), .val (.ref b21), .val (.int (own_pos [(nar .byte (own_draw p1)), (nar .byte (own_draw p2)), (nar .byte (own_draw p3)), (nar .byte (own_draw p4))] fr tt (0 : Int32))), .unset, .unset, .unset, .unset, .unset]) rfl k) ?_
    show Gl _ _ _ _ _ _ _ (T25.setTop (mkF m 220 #[.val (.int p1), .val (.int p2), .val (.int p3), .val (.int p4), .val (.int p5), .val (.ref b1), .val (.int uu), .val (.int vv), .val (.int fr), .val (.int tt), .val (.int z89s0), .val (.int ea), .val (.int br), .val (.ref b21), .val (.int (own_pos [(nar .byte (own_draw p1)), (nar .byte (own_draw p2)), (nar .byte (own_draw p3)), (nar .byte (own_draw p4))] fr tt (0 : Int32))), .unset, .unset, .unset, .unset, .unset] []))
    refine Gl.st (fun t k => XS.aload X25.here hx rfl (hb hby at_220) rfl rfl k) ?_
    show Gl _ _ _ _ _ _ _ (T25.setTop (mkF m 222 #[.val (.int p1), .val (.int p2), .val (.int p3), .val (.int p4), .val (.int p5), .val (.ref b1), .val (.int uu), .val (.int vv), .val (.int fr), .val (.int tt), .val (.int z89s0), .val (.int ea), .val (.int br), .val (.ref b21), .val (.int (own_pos [(nar .byte (own_draw p1)), (nar .byte (own_draw p2)), (nar .byte (own_draw p3)), (nar .byte (own_draw p4))] fr tt (0 : Int32))), .unset, .unset, .unset, .unset, .unset] [(.ref b21)]))
    obtain ⟨cq27, kq27, qa27, qb27, qc27⟩ := isOf hZ rfl Fq25_0
    obtain ⟨_, _, ⟨T27, L27, k27, n27⟩, -, X27, ⟨Lc27, hQ27, l27, y27, z27⟩, st27⟩ := X25.virtualBack hx (y := (⟨"com/example/millrace/millrace/JsonObject$Parser", "at", "()I"⟩ : MethodName)) (z := (⟨"com/example/millrace/millrace/JsonObject$Parser", "at", "()I"⟩ : MethodName)) hown (mvT hZ (hw _ (List.mem_of_getElem? (i := 40) rfl))) (mvT hZ (hw _ (List.mem_of_getElem? (i := 41) rfl))) (notFace_of_selects (args := #[]) (mvT hZ (hw _ (List.mem_of_getElem? (i := 43) rfl)))) (mvT hZ (hw _ (List.mem_of_getElem? (i := 43) rfl))) (mvT hZ (hw _ (List.mem_of_getElem? (i := 42) rfl))) (by decide) (backOf (W := 0) (rm9 l Z a0 hw [] b21 ((own_pos [(nar .byte (own_draw p1)), (nar .byte (own_draw p2)), (nar .byte (own_draw p3)), (nar .byte (own_draw p4))] fr tt (0 : Int32))) T25.heap n0  Fq25_2) hZ (hw _ (List.mem_of_getElem? (i := 44) rfl)) (hw _ (List.mem_of_getElem? (i := 20) rfl)) (by decide) (by decide)) qa27 qc27 (g := (mkF m 222 #[.val (.int p1), .val (.int p2), .val (.int p3), .val (.int p4), .val (.int p5), .val (.ref b1), .val (.int uu), .val (.int vv), .val (.int fr), .val (.int tt), .val (.int z89s0), .val (.int ea), .val (.int br), .val (.ref b21), .val (.int (own_pos [(nar .byte (own_draw p1)), (nar .byte (own_draw p2)), (nar .byte (own_draw p3)), (nar .byte (own_draw p4))] fr tt (0 : Int32))), .unset, .unset, .unset, .unset, .unset] [(.ref b21)])) rfl (by rw [hml]; rfl) (Steps.refl _) (argsL := []) (rest := []) (lenOf pd_6 rfl) rfl (by show 2 * 0 + _ ≤ _; exact Nat.le_of_eq rfl) (hb hby at_222) (fun _ _ => ⟨rfl, rfl, (by decide : 2 + 0 ≤ _), (by decide : 9 + 0 ≤ _)⟩)
    dsimp only [Pt.U, Pt.locs, Pt.cells, Pt.slots] at X27 l27 y27 z27 st27 hQ27
    rw [y27, z27] at X27
    obtain ⟨rfl, N27q, e27⟩ := hQ27
    have N27 : Fr n0 L27 := by rw [l27]; exact Fr.app N25 N27q
    refine Gl.to st27 ?_
    show Gl _ _ _ _ _ _ _ (T27.setTop (mkF m 225 #[.val (.int p1), .val (.int p2), .val (.int p3), .val (.int p4), .val (.int p5), .val (.ref b1), .val (.int uu), .val (.int vv), .val (.int fr), .val (.int tt), .val (.int z89s0), .val (.int ea), .val (.int br), .val (.ref b21), .val (.int (own_pos [(nar .byte (own_draw p1)), (nar .byte (own_draw p2)), (nar .byte (own_draw p3)), (nar .byte (own_draw p4))] fr tt (0 : Int32))), .unset, .unset, .unset, .unset, .unset] [(.int (own_at (own_pos [(nar .byte (own_draw p1)), (nar .byte (own_draw p2)), (nar .byte (own_draw p3)), (nar .byte (own_draw p4))] fr tt (0 : Int32))))]))
    refine Gl.st (fun t k => XS.istore X27.here hx rfl (hb hby at_225) rfl (l' := #[.val (.int p1), .val (.int p2), .val (.int p3), .val (.int p4), .val (.int p5), .val (.ref b1), .val (.int uu), .val (.int vv), .val (.int fr), .val (.int tt), .val (.int z89s0), .val (.int ea), .val (.int br), .val (.ref b21), .val (.int (own_pos [(nar .byte (own_draw p1)), (nar .byte (own_draw p2)), (nar .byte (own_draw p3)), (nar .byte (own_draw p4))] fr tt (0 : Int32))), .val (.int (own_at (own_pos [(nar .byte (own_draw p1)), (nar .byte (own_draw p2)), (nar .byte (own_draw p3)), (nar .byte (own_draw p4))] fr tt (0 : Int32)))), .unset, .unset, .unset, .unset]) rfl k) ?_
    show Gl _ _ _ _ _ _ _ (T27.setTop (mkF m 227 #[.val (.int p1), .val (.int p2), .val (.int p3), .val (.int p4), .val (.int p5), .val (.ref b1), .val (.int uu), .val (.int vv), .val (.int fr), .val (.int tt), .val (.int z89s0), .val (.int ea), .val (.int br), .val (.ref b21), .val (.int (own_pos [(nar .byte (own_draw p1)), (nar .byte (own_draw p2)), (nar .byte (own_draw p3)), (nar .byte (own_draw p4))] fr tt (0 : Int32))), .val (.int (own_at (own_pos [(nar .byte (own_draw p1)), (nar .byte (own_draw p2)), (nar .byte (own_draw p3)), (nar .byte (own_draw p4))] fr tt (0 : Int32)))), .unset, .unset, .unset, .unset] []))
    refine Gl.st (fun t k => XS.aload X27.here hx rfl (hb hby at_227) rfl rfl k) ?_
    show Gl _ _ _ _ _ _ _ (T27.setTop (mkF m 229 #[.val (.int p1), .val (.int p2), .val (.int p3), .val (.int p4), .val (.int p5), .val (.ref b1), .val (.int uu), .val (.int vv), .val (.int fr), .val (.int tt), .val (.int z89s0), .val (.int ea), .val (.int br), .val (.ref b21), .val (.int (own_pos [(nar .byte (own_draw p1)), (nar .byte (own_draw p2)), (nar .byte (own_draw p3)), (nar .byte (own_draw p4))] fr tt (0 : Int32))), .val (.int (own_at (own_pos [(nar .byte (own_draw p1)), (nar .byte (own_draw p2)), (nar .byte (own_draw p3)), (nar .byte (own_draw p4))] fr tt (0 : Int32)))), .unset, .unset, .unset, .unset] [(.ref b21)]))
    obtain ⟨cq28, kq28, qa28, qb28, qc28⟩ := isOf hZ e27 Fq25_0
    obtain ⟨_, _, ⟨T28, L28, k28, n28⟩, -, X28, ⟨Lc28, hQ28, l28, y28, z28⟩, st28⟩ := X27.virtualBack hx (y := (⟨"com/example/millrace/millrace/JsonObject$Parser", "breaks", "()I"⟩ : MethodName)) (z := (⟨"com/example/millrace/millrace/JsonObject$Parser", "breaks", "()I"⟩ : MethodName)) hown (mvT hZ (hw _ (List.mem_of_getElem? (i := 45) rfl))) (mvT hZ (hw _ (List.mem_of_getElem? (i := 46) rfl))) (notFace_of_selects (args := #[]) (mvT hZ (hw _ (List.mem_of_getElem? (i := 48) rfl)))) (mvT hZ (hw _ (List.mem_of_getElem? (i := 48) rfl))) (mvT hZ (hw _ (List.mem_of_getElem? (i := 47) rfl))) (by decide) (backOf (W := 0) (rm10 l Z a0 hw [] b21 ((own_brs [(nar .byte (own_draw p1)), (nar .byte (own_draw p2)), (nar .byte (own_draw p3)), (nar .byte (own_draw p4))] fr tt (0 : Int32))) T25.heap n0  Fq25_4) hZ (hw _ (List.mem_of_getElem? (i := 49) rfl)) (hw _ (List.mem_of_getElem? (i := 20) rfl)) (by decide) (by decide)) qa28 qc28 (g := (mkF m 229 #[.val (.int p1), .val (.int p2), .val (.int p3), .val (.int p4), .val (.int p5), .val (.ref b1), .val (.int uu), .val (.int vv), .val (.int fr), .val (.int tt), .val (.int z89s0), .val (.int ea), .val (.int br), .val (.ref b21), .val (.int (own_pos [(nar .byte (own_draw p1)), (nar .byte (own_draw p2)), (nar .byte (own_draw p3)), (nar .byte (own_draw p4))] fr tt (0 : Int32))), .val (.int (own_at (own_pos [(nar .byte (own_draw p1)), (nar .byte (own_draw p2)), (nar .byte (own_draw p3)), (nar .byte (own_draw p4))] fr tt (0 : Int32)))), .unset, .unset, .unset, .unset] [(.ref b21)])) rfl (by rw [hml]; rfl) (Steps.refl _) (argsL := []) (rest := []) (lenOf pd_6 rfl) rfl (by show 2 * 0 + _ ≤ _; exact Nat.le_of_eq rfl) (hb hby at_229) (fun _ _ => ⟨rfl, e27, (by decide : 2 + 0 ≤ _), (by decide : 9 + 0 ≤ _)⟩)
    dsimp only [Pt.U, Pt.locs, Pt.cells, Pt.slots] at X28 l28 y28 z28 st28 hQ28
    rw [y28, z28] at X28
    obtain ⟨rfl, N28q, e28⟩ := hQ28
    have N28 : Fr n0 L28 := by rw [l28]; exact Fr.app N27 N28q
    refine Gl.to st28 ?_
    show Gl _ _ _ _ _ _ _ (T28.setTop (mkF m 232 #[.val (.int p1), .val (.int p2), .val (.int p3), .val (.int p4), .val (.int p5), .val (.ref b1), .val (.int uu), .val (.int vv), .val (.int fr), .val (.int tt), .val (.int z89s0), .val (.int ea), .val (.int br), .val (.ref b21), .val (.int (own_pos [(nar .byte (own_draw p1)), (nar .byte (own_draw p2)), (nar .byte (own_draw p3)), (nar .byte (own_draw p4))] fr tt (0 : Int32))), .val (.int (own_at (own_pos [(nar .byte (own_draw p1)), (nar .byte (own_draw p2)), (nar .byte (own_draw p3)), (nar .byte (own_draw p4))] fr tt (0 : Int32)))), .unset, .unset, .unset, .unset] [(.int (own_brkf (own_brs [(nar .byte (own_draw p1)), (nar .byte (own_draw p2)), (nar .byte (own_draw p3)), (nar .byte (own_draw p4))] fr tt (0 : Int32))))]))
    refine Gl.st (fun t k => XS.istore X28.here hx rfl (hb hby at_232) rfl (l' := #[.val (.int p1), .val (.int p2), .val (.int p3), .val (.int p4), .val (.int p5), .val (.ref b1), .val (.int uu), .val (.int vv), .val (.int fr), .val (.int tt), .val (.int z89s0), .val (.int ea), .val (.int br), .val (.ref b21), .val (.int (own_pos [(nar .byte (own_draw p1)), (nar .byte (own_draw p2)), (nar .byte (own_draw p3)), (nar .byte (own_draw p4))] fr tt (0 : Int32))), .val (.int (own_at (own_pos [(nar .byte (own_draw p1)), (nar .byte (own_draw p2)), (nar .byte (own_draw p3)), (nar .byte (own_draw p4))] fr tt (0 : Int32)))), .val (.int (own_brkf (own_brs [(nar .byte (own_draw p1)), (nar .byte (own_draw p2)), (nar .byte (own_draw p3)), (nar .byte (own_draw p4))] fr tt (0 : Int32)))), .unset, .unset, .unset]) rfl k) ?_
    show Gl _ _ _ _ _ _ _ (T28.setTop (mkF m 234 #[.val (.int p1), .val (.int p2), .val (.int p3), .val (.int p4), .val (.int p5), .val (.ref b1), .val (.int uu), .val (.int vv), .val (.int fr), .val (.int tt), .val (.int z89s0), .val (.int ea), .val (.int br), .val (.ref b21), .val (.int (own_pos [(nar .byte (own_draw p1)), (nar .byte (own_draw p2)), (nar .byte (own_draw p3)), (nar .byte (own_draw p4))] fr tt (0 : Int32))), .val (.int (own_at (own_pos [(nar .byte (own_draw p1)), (nar .byte (own_draw p2)), (nar .byte (own_draw p3)), (nar .byte (own_draw p4))] fr tt (0 : Int32)))), .val (.int (own_brkf (own_brs [(nar .byte (own_draw p1)), (nar .byte (own_draw p2)), (nar .byte (own_draw p3)), (nar .byte (own_draw p4))] fr tt (0 : Int32)))), .unset, .unset, .unset] []))
    refine Gl.st (fun t k => XS.aload X28.here hx rfl (hb hby at_234) rfl rfl k) ?_
    show Gl _ _ _ _ _ _ _ (T28.setTop (mkF m 236 #[.val (.int p1), .val (.int p2), .val (.int p3), .val (.int p4), .val (.int p5), .val (.ref b1), .val (.int uu), .val (.int vv), .val (.int fr), .val (.int tt), .val (.int z89s0), .val (.int ea), .val (.int br), .val (.ref b21), .val (.int (own_pos [(nar .byte (own_draw p1)), (nar .byte (own_draw p2)), (nar .byte (own_draw p3)), (nar .byte (own_draw p4))] fr tt (0 : Int32))), .val (.int (own_at (own_pos [(nar .byte (own_draw p1)), (nar .byte (own_draw p2)), (nar .byte (own_draw p3)), (nar .byte (own_draw p4))] fr tt (0 : Int32)))), .val (.int (own_brkf (own_brs [(nar .byte (own_draw p1)), (nar .byte (own_draw p2)), (nar .byte (own_draw p3)), (nar .byte (own_draw p4))] fr tt (0 : Int32)))), .unset, .unset, .unset] [(.ref b21)]))
    obtain ⟨cq29, kq29, qa29, qb29, qc29⟩ := isOf hZ e28 Fq25_0
    obtain ⟨_, _, ⟨T29, L29, k29, n29⟩, -, X29, ⟨Lc29, hQ29, l29, y29, z29⟩, st29⟩ := X28.virtualBack hx (y := (⟨"com/example/millrace/millrace/JsonObject$Parser", "skipSpace", "()I"⟩ : MethodName)) (z := (⟨"com/example/millrace/millrace/JsonObject$Parser", "skipSpace", "()I"⟩ : MethodName)) hown (mvT hZ (hw _ (List.mem_of_getElem? (i := 35) rfl))) (mvT hZ (hw _ (List.mem_of_getElem? (i := 36) rfl))) (notFace_of_selects (args := #[]) (mvT hZ (hw _ (List.mem_of_getElem? (i := 38) rfl)))) (mvT hZ (hw _ (List.mem_of_getElem? (i := 38) rfl))) (mvT hZ (hw _ (List.mem_of_getElem? (i := 37) rfl))) (by decide) (backOf (W := 0) (rm8 l Z a0 hw [] b21 (b1) ((own_pos [(nar .byte (own_draw p1)), (nar .byte (own_draw p2)), (nar .byte (own_draw p3)), (nar .byte (own_draw p4))] fr tt (0 : Int32))) (tt) ((own_brs [(nar .byte (own_draw p1)), (nar .byte (own_draw p2)), (nar .byte (own_draw p3)), (nar .byte (own_draw p4))] fr tt (0 : Int32))) (k1) ((nar .byte (own_draw p1))) ((nar .byte (own_draw p2))) ((nar .byte (own_draw p3))) ((nar .byte (own_draw p4))) T25.heap n0 Z25 Fq25_0 Fq25_1 Fq25_2 Fq25_3 Fq25_4 V9'26 gzb21 ne_b1_b21 hp1.1 hp1.2.1 hp1.2.2) hZ (hw _ (List.mem_of_getElem? (i := 39) rfl)) (hw _ (List.mem_of_getElem? (i := 20) rfl)) (by decide) (by decide)) qa29 qc29 (g := (mkF m 236 #[.val (.int p1), .val (.int p2), .val (.int p3), .val (.int p4), .val (.int p5), .val (.ref b1), .val (.int uu), .val (.int vv), .val (.int fr), .val (.int tt), .val (.int z89s0), .val (.int ea), .val (.int br), .val (.ref b21), .val (.int (own_pos [(nar .byte (own_draw p1)), (nar .byte (own_draw p2)), (nar .byte (own_draw p3)), (nar .byte (own_draw p4))] fr tt (0 : Int32))), .val (.int (own_at (own_pos [(nar .byte (own_draw p1)), (nar .byte (own_draw p2)), (nar .byte (own_draw p3)), (nar .byte (own_draw p4))] fr tt (0 : Int32)))), .val (.int (own_brkf (own_brs [(nar .byte (own_draw p1)), (nar .byte (own_draw p2)), (nar .byte (own_draw p3)), (nar .byte (own_draw p4))] fr tt (0 : Int32)))), .unset, .unset, .unset] [(.ref b21)])) rfl (by rw [hml]; rfl) (Steps.refl _) (argsL := []) (rest := []) (lenOf pd_6 rfl) rfl (by show 2 * 0 + _ ≤ _; exact Nat.le_of_eq rfl) (hb hby at_236) (fun _ _ => ⟨rfl, e28, (by decide : 2 + 0 ≤ _), (by decide : 9 + 0 ≤ _)⟩)
    dsimp only [Pt.U, Pt.locs, Pt.cells, Pt.slots] at X29 l29 y29 z29 st29 hQ29
    rw [y29, z29] at X29
    obtain ⟨rfl, N29q, Kq29, Fq29_0, Fq29_1, Fq29_2, Fq29_3, Fq29_4⟩ := hQ29
    have N29 : Fr n0 L29 := by rw [l29]; exact Fr.app N28 N29q
    have Z29 : n0 ≤ T29.heap.size := Nat.le_trans Z25 Kq29.1
    have V9'30 : Arv Z T29.heap b1 k1 .byte (4 : Int32) [(.int (nar .byte (own_draw p1))), (.int (nar .byte (own_draw p2))), (.int (nar .byte (own_draw p3))), (.int (nar .byte (own_draw p4)))] (.int (0 : Int32)) := V9'26.keep Kq29 (ninS ne_b1_b21 nin0)
    refine Gl.to st29 ?_
    show Gl _ _ _ _ _ _ _ (T29.setTop (mkF m 239 #[.val (.int p1), .val (.int p2), .val (.int p3), .val (.int p4), .val (.int p5), .val (.ref b1), .val (.int uu), .val (.int vv), .val (.int fr), .val (.int tt), .val (.int z89s0), .val (.int ea), .val (.int br), .val (.ref b21), .val (.int (own_pos [(nar .byte (own_draw p1)), (nar .byte (own_draw p2)), (nar .byte (own_draw p3)), (nar .byte (own_draw p4))] fr tt (0 : Int32))), .val (.int (own_at (own_pos [(nar .byte (own_draw p1)), (nar .byte (own_draw p2)), (nar .byte (own_draw p3)), (nar .byte (own_draw p4))] fr tt (0 : Int32)))), .val (.int (own_brkf (own_brs [(nar .byte (own_draw p1)), (nar .byte (own_draw p2)), (nar .byte (own_draw p3)), (nar .byte (own_draw p4))] fr tt (0 : Int32)))), .unset, .unset, .unset] [(.int (own_pos [(nar .byte (own_draw p1)), (nar .byte (own_draw p2)), (nar .byte (own_draw p3)), (nar .byte (own_draw p4))] (own_pos [(nar .byte (own_draw p1)), (nar .byte (own_draw p2)), (nar .byte (own_draw p3)), (nar .byte (own_draw p4))] fr tt (0 : Int32)) tt (own_brs [(nar .byte (own_draw p1)), (nar .byte (own_draw p2)), (nar .byte (own_draw p3)), (nar .byte (own_draw p4))] fr tt (0 : Int32))))]))
    refine Gl.st (fun t k => XS.istore X29.here hx rfl (hb hby at_239) rfl (l' := #[.val (.int p1), .val (.int p2), .val (.int p3), .val (.int p4), .val (.int p5), .val (.ref b1), .val (.int uu), .val (.int vv), .val (.int fr), .val (.int tt), .val (.int z89s0), .val (.int ea), .val (.int br), .val (.ref b21), .val (.int (own_pos [(nar .byte (own_draw p1)), (nar .byte (own_draw p2)), (nar .byte (own_draw p3)), (nar .byte (own_draw p4))] fr tt (0 : Int32))), .val (.int (own_at (own_pos [(nar .byte (own_draw p1)), (nar .byte (own_draw p2)), (nar .byte (own_draw p3)), (nar .byte (own_draw p4))] fr tt (0 : Int32)))), .val (.int (own_brkf (own_brs [(nar .byte (own_draw p1)), (nar .byte (own_draw p2)), (nar .byte (own_draw p3)), (nar .byte (own_draw p4))] fr tt (0 : Int32)))), .val (.int (own_pos [(nar .byte (own_draw p1)), (nar .byte (own_draw p2)), (nar .byte (own_draw p3)), (nar .byte (own_draw p4))] (own_pos [(nar .byte (own_draw p1)), (nar .byte (own_draw p2)), (nar .byte (own_draw p3)), (nar .byte (own_draw p4))] fr tt (0 : Int32)) tt (own_brs [(nar .byte (own_draw p1)), (nar .byte (own_draw p2)), (nar .byte (own_draw p3)), (nar .byte (own_draw p4))] fr tt (0 : Int32)))), .unset, .unset]) rfl k) ?_
    show Gl _ _ _ _ _ _ _ (T29.setTop (mkF m 241 #[.val (.int p1), .val (.int p2), .val (.int p3), .val (.int p4), .val (.int p5), .val (.ref b1), .val (.int uu), .val (.int vv), .val (.int fr), .val (.int tt), .val (.int z89s0), .val (.int ea), .val (.int br), .val (.ref b21), .val (.int (own_pos [(nar .byte (own_draw p1)), (nar .byte (own_draw p2)), (nar .byte (own_draw p3)), (nar .byte (own_draw p4))] fr tt (0 : Int32))), .val (.int (own_at (own_pos [(nar .byte (own_draw p1)), (nar .byte (own_draw p2)), (nar .byte (own_draw p3)), (nar .byte (own_draw p4))] fr tt (0 : Int32)))), .val (.int (own_brkf (own_brs [(nar .byte (own_draw p1)), (nar .byte (own_draw p2)), (nar .byte (own_draw p3)), (nar .byte (own_draw p4))] fr tt (0 : Int32)))), .val (.int (own_pos [(nar .byte (own_draw p1)), (nar .byte (own_draw p2)), (nar .byte (own_draw p3)), (nar .byte (own_draw p4))] (own_pos [(nar .byte (own_draw p1)), (nar .byte (own_draw p2)), (nar .byte (own_draw p3)), (nar .byte (own_draw p4))] fr tt (0 : Int32)) tt (own_brs [(nar .byte (own_draw p1)), (nar .byte (own_draw p2)), (nar .byte (own_draw p3)), (nar .byte (own_draw p4))] fr tt (0 : Int32)))), .unset, .unset] []))
    refine Gl.st (fun t k => XS.aload X29.here hx rfl (hb hby at_241) rfl rfl k) ?_
    show Gl _ _ _ _ _ _ _ (T29.setTop (mkF m 243 #[.val (.int p1), .val (.int p2), .val (.int p3), .val (.int p4), .val (.int p5), .val (.ref b1), .val (.int uu), .val (.int vv), .val (.int fr), .val (.int tt), .val (.int z89s0), .val (.int ea), .val (.int br), .val (.ref b21), .val (.int (own_pos [(nar .byte (own_draw p1)), (nar .byte (own_draw p2)), (nar .byte (own_draw p3)), (nar .byte (own_draw p4))] fr tt (0 : Int32))), .val (.int (own_at (own_pos [(nar .byte (own_draw p1)), (nar .byte (own_draw p2)), (nar .byte (own_draw p3)), (nar .byte (own_draw p4))] fr tt (0 : Int32)))), .val (.int (own_brkf (own_brs [(nar .byte (own_draw p1)), (nar .byte (own_draw p2)), (nar .byte (own_draw p3)), (nar .byte (own_draw p4))] fr tt (0 : Int32)))), .val (.int (own_pos [(nar .byte (own_draw p1)), (nar .byte (own_draw p2)), (nar .byte (own_draw p3)), (nar .byte (own_draw p4))] (own_pos [(nar .byte (own_draw p1)), (nar .byte (own_draw p2)), (nar .byte (own_draw p3)), (nar .byte (own_draw p4))] fr tt (0 : Int32)) tt (own_brs [(nar .byte (own_draw p1)), (nar .byte (own_draw p2)), (nar .byte (own_draw p3)), (nar .byte (own_draw p4))] fr tt (0 : Int32)))), .unset, .unset] [(.ref b21)]))
    obtain ⟨cq31, kq31, qa31, qb31, qc31⟩ := isOf hZ rfl Fq29_0
    obtain ⟨_, _, ⟨T31, L31, k31, n31⟩, -, X31, ⟨Lc31, hQ31, l31, y31, z31⟩, st31⟩ := X29.virtualBack hx (y := (⟨"com/example/millrace/millrace/JsonObject$Parser", "at", "()I"⟩ : MethodName)) (z := (⟨"com/example/millrace/millrace/JsonObject$Parser", "at", "()I"⟩ : MethodName)) hown (mvT hZ (hw _ (List.mem_of_getElem? (i := 40) rfl))) (mvT hZ (hw _ (List.mem_of_getElem? (i := 41) rfl))) (notFace_of_selects (args := #[]) (mvT hZ (hw _ (List.mem_of_getElem? (i := 43) rfl)))) (mvT hZ (hw _ (List.mem_of_getElem? (i := 43) rfl))) (mvT hZ (hw _ (List.mem_of_getElem? (i := 42) rfl))) (by decide) (backOf (W := 0) (rm9 l Z a0 hw [] b21 ((own_pos [(nar .byte (own_draw p1)), (nar .byte (own_draw p2)), (nar .byte (own_draw p3)), (nar .byte (own_draw p4))] (own_pos [(nar .byte (own_draw p1)), (nar .byte (own_draw p2)), (nar .byte (own_draw p3)), (nar .byte (own_draw p4))] fr tt (0 : Int32)) tt (own_brs [(nar .byte (own_draw p1)), (nar .byte (own_draw p2)), (nar .byte (own_draw p3)), (nar .byte (own_draw p4))] fr tt (0 : Int32)))) T29.heap n0  Fq29_2) hZ (hw _ (List.mem_of_getElem? (i := 44) rfl)) (hw _ (List.mem_of_getElem? (i := 20) rfl)) (by decide) (by decide)) qa31 qc31 (g := (mkF m 243 #[.val (.int p1), .val (.int p2), .val (.int p3), .val (.int p4), .val (.int p5), .val (.ref b1), .val (.int uu), .val (.int vv), .val (.int fr), .val (.int tt), .val (.int z89s0), .val (.int ea), .val (.int br), .val (.ref b21), .val (.int (own_pos [(nar .byte (own_draw p1)), (nar .byte (own_draw p2)), (nar .byte (own_draw p3)), (nar .byte (own_draw p4))] fr tt (0 : Int32))), .val (.int (own_at (own_pos [(nar .byte (own_draw p1)), (nar .byte (own_draw p2)), (nar .byte (own_draw p3)), (nar .byte (own_draw p4))] fr tt (0 : Int32)))), .val (.int (own_brkf (own_brs [(nar .byte (own_draw p1)), (nar .byte (own_draw p2)), (nar .byte (own_draw p3)), (nar .byte (own_draw p4))] fr tt (0 : Int32)))), .val (.int (own_pos [(nar .byte (own_draw p1)), (nar .byte (own_draw p2)), (nar .byte (own_draw p3)), (nar .byte (own_draw p4))] (own_pos [(nar .byte (own_draw p1)), (nar .byte (own_draw p2)), (nar .byte (own_draw p3)), (nar .byte (own_draw p4))] fr tt (0 : Int32)) tt (own_brs [(nar .byte (own_draw p1)), (nar .byte (own_draw p2)), (nar .byte (own_draw p3)), (nar .byte (own_draw p4))] fr tt (0 : Int32)))), .unset, .unset] [(.ref b21)])) rfl (by rw [hml]; rfl) (Steps.refl _) (argsL := []) (rest := []) (lenOf pd_6 rfl) rfl (by show 2 * 0 + _ ≤ _; exact Nat.le_of_eq rfl) (hb hby at_243) (fun _ _ => ⟨rfl, rfl, (by decide : 2 + 0 ≤ _), (by decide : 9 + 0 ≤ _)⟩)
    dsimp only [Pt.U, Pt.locs, Pt.cells, Pt.slots] at X31 l31 y31 z31 st31 hQ31
    rw [y31, z31] at X31
    obtain ⟨rfl, N31q, e31⟩ := hQ31
    have N31 : Fr n0 L31 := by rw [l31]; exact Fr.app N29 N31q
    refine Gl.to st31 ?_
    show Gl _ _ _ _ _ _ _ (T31.setTop (mkF m 246 #[.val (.int p1), .val (.int p2), .val (.int p3), .val (.int p4), .val (.int p5), .val (.ref b1), .val (.int uu), .val (.int vv), .val (.int fr), .val (.int tt), .val (.int z89s0), .val (.int ea), .val (.int br), .val (.ref b21), .val (.int (own_pos [(nar .byte (own_draw p1)), (nar .byte (own_draw p2)), (nar .byte (own_draw p3)), (nar .byte (own_draw p4))] fr tt (0 : Int32))), .val (.int (own_at (own_pos [(nar .byte (own_draw p1)), (nar .byte (own_draw p2)), (nar .byte (own_draw p3)), (nar .byte (own_draw p4))] fr tt (0 : Int32)))), .val (.int (own_brkf (own_brs [(nar .byte (own_draw p1)), (nar .byte (own_draw p2)), (nar .byte (own_draw p3)), (nar .byte (own_draw p4))] fr tt (0 : Int32)))), .val (.int (own_pos [(nar .byte (own_draw p1)), (nar .byte (own_draw p2)), (nar .byte (own_draw p3)), (nar .byte (own_draw p4))] (own_pos [(nar .byte (own_draw p1)), (nar .byte (own_draw p2)), (nar .byte (own_draw p3)), (nar .byte (own_draw p4))] fr tt (0 : Int32)) tt (own_brs [(nar .byte (own_draw p1)), (nar .byte (own_draw p2)), (nar .byte (own_draw p3)), (nar .byte (own_draw p4))] fr tt (0 : Int32)))), .unset, .unset] [(.int (own_at (own_pos [(nar .byte (own_draw p1)), (nar .byte (own_draw p2)), (nar .byte (own_draw p3)), (nar .byte (own_draw p4))] (own_pos [(nar .byte (own_draw p1)), (nar .byte (own_draw p2)), (nar .byte (own_draw p3)), (nar .byte (own_draw p4))] fr tt (0 : Int32)) tt (own_brs [(nar .byte (own_draw p1)), (nar .byte (own_draw p2)), (nar .byte (own_draw p3)), (nar .byte (own_draw p4))] fr tt (0 : Int32)))))]))
    refine Gl.st (fun t k => XS.istore X31.here hx rfl (hb hby at_246) rfl (l' := #[.val (.int p1), .val (.int p2), .val (.int p3), .val (.int p4), .val (.int p5), .val (.ref b1), .val (.int uu), .val (.int vv), .val (.int fr), .val (.int tt), .val (.int z89s0), .val (.int ea), .val (.int br), .val (.ref b21), .val (.int (own_pos [(nar .byte (own_draw p1)), (nar .byte (own_draw p2)), (nar .byte (own_draw p3)), (nar .byte (own_draw p4))] fr tt (0 : Int32))), .val (.int (own_at (own_pos [(nar .byte (own_draw p1)), (nar .byte (own_draw p2)), (nar .byte (own_draw p3)), (nar .byte (own_draw p4))] fr tt (0 : Int32)))), .val (.int (own_brkf (own_brs [(nar .byte (own_draw p1)), (nar .byte (own_draw p2)), (nar .byte (own_draw p3)), (nar .byte (own_draw p4))] fr tt (0 : Int32)))), .val (.int (own_pos [(nar .byte (own_draw p1)), (nar .byte (own_draw p2)), (nar .byte (own_draw p3)), (nar .byte (own_draw p4))] (own_pos [(nar .byte (own_draw p1)), (nar .byte (own_draw p2)), (nar .byte (own_draw p3)), (nar .byte (own_draw p4))] fr tt (0 : Int32)) tt (own_brs [(nar .byte (own_draw p1)), (nar .byte (own_draw p2)), (nar .byte (own_draw p3)), (nar .byte (own_draw p4))] fr tt (0 : Int32)))), .val (.int (own_at (own_pos [(nar .byte (own_draw p1)), (nar .byte (own_draw p2)), (nar .byte (own_draw p3)), (nar .byte (own_draw p4))] (own_pos [(nar .byte (own_draw p1)), (nar .byte (own_draw p2)), (nar .byte (own_draw p3)), (nar .byte (own_draw p4))] fr tt (0 : Int32)) tt (own_brs [(nar .byte (own_draw p1)), (nar .byte (own_draw p2)), (nar .byte (own_draw p3)), (nar .byte (own_draw p4))] fr tt (0 : Int32))))), .unset]) rfl k) ?_
    show Gl _ _ _ _ _ _ _ (T31.setTop (mkF m 248 #[.val (.int p1), .val (.int p2), .val (.int p3), .val (.int p4), .val (.int p5), .val (.ref b1), .val (.int uu), .val (.int vv), .val (.int fr), .val (.int tt), .val (.int z89s0), .val (.int ea), .val (.int br), .val (.ref b21), .val (.int (own_pos [(nar .byte (own_draw p1)), (nar .byte (own_draw p2)), (nar .byte (own_draw p3)), (nar .byte (own_draw p4))] fr tt (0 : Int32))), .val (.int (own_at (own_pos [(nar .byte (own_draw p1)), (nar .byte (own_draw p2)), (nar .byte (own_draw p3)), (nar .byte (own_draw p4))] fr tt (0 : Int32)))), .val (.int (own_brkf (own_brs [(nar .byte (own_draw p1)), (nar .byte (own_draw p2)), (nar .byte (own_draw p3)), (nar .byte (own_draw p4))] fr tt (0 : Int32)))), .val (.int (own_pos [(nar .byte (own_draw p1)), (nar .byte (own_draw p2)), (nar .byte (own_draw p3)), (nar .byte (own_draw p4))] (own_pos [(nar .byte (own_draw p1)), (nar .byte (own_draw p2)), (nar .byte (own_draw p3)), (nar .byte (own_draw p4))] fr tt (0 : Int32)) tt (own_brs [(nar .byte (own_draw p1)), (nar .byte (own_draw p2)), (nar .byte (own_draw p3)), (nar .byte (own_draw p4))] fr tt (0 : Int32)))), .val (.int (own_at (own_pos [(nar .byte (own_draw p1)), (nar .byte (own_draw p2)), (nar .byte (own_draw p3)), (nar .byte (own_draw p4))] (own_pos [(nar .byte (own_draw p1)), (nar .byte (own_draw p2)), (nar .byte (own_draw p3)), (nar .byte (own_draw p4))] fr tt (0 : Int32)) tt (own_brs [(nar .byte (own_draw p1)), (nar .byte (own_draw p2)), (nar .byte (own_draw p3)), (nar .byte (own_draw p4))] fr tt (0 : Int32))))), .unset] []))
    refine Gl.st (fun t k => XS.aload X31.here hx rfl (hb hby at_248) rfl rfl k) ?_
    show Gl _ _ _ _ _ _ _ (T31.setTop (mkF m 250 #[.val (.int p1), .val (.int p2), .val (.int p3), .val (.int p4), .val (.int p5), .val (.ref b1), .val (.int uu), .val (.int vv), .val (.int fr), .val (.int tt), .val (.int z89s0), .val (.int ea), .val (.int br), .val (.ref b21), .val (.int (own_pos [(nar .byte (own_draw p1)), (nar .byte (own_draw p2)), (nar .byte (own_draw p3)), (nar .byte (own_draw p4))] fr tt (0 : Int32))), .val (.int (own_at (own_pos [(nar .byte (own_draw p1)), (nar .byte (own_draw p2)), (nar .byte (own_draw p3)), (nar .byte (own_draw p4))] fr tt (0 : Int32)))), .val (.int (own_brkf (own_brs [(nar .byte (own_draw p1)), (nar .byte (own_draw p2)), (nar .byte (own_draw p3)), (nar .byte (own_draw p4))] fr tt (0 : Int32)))), .val (.int (own_pos [(nar .byte (own_draw p1)), (nar .byte (own_draw p2)), (nar .byte (own_draw p3)), (nar .byte (own_draw p4))] (own_pos [(nar .byte (own_draw p1)), (nar .byte (own_draw p2)), (nar .byte (own_draw p3)), (nar .byte (own_draw p4))] fr tt (0 : Int32)) tt (own_brs [(nar .byte (own_draw p1)), (nar .byte (own_draw p2)), (nar .byte (own_draw p3)), (nar .byte (own_draw p4))] fr tt (0 : Int32)))), .val (.int (own_at (own_pos [(nar .byte (own_draw p1)), (nar .byte (own_draw p2)), (nar .byte (own_draw p3)), (nar .byte (own_draw p4))] (own_pos [(nar .byte (own_draw p1)), (nar .byte (own_draw p2)), (nar .byte (own_draw p3)), (nar .byte (own_draw p4))] fr tt (0 : Int32)) tt (own_brs [(nar .byte (own_draw p1)), (nar .byte (own_draw p2)), (nar .byte (own_draw p3)), (nar .byte (own_draw p4))] fr tt (0 : Int32))))), .unset] [(.ref b21)]))
    obtain ⟨cq32, kq32, qa32, qb32, qc32⟩ := isOf hZ e31 Fq29_0
    obtain ⟨_, _, ⟨T32, L32, k32, n32⟩, -, X32, ⟨Lc32, hQ32, l32, y32, z32⟩, st32⟩ := X31.virtualBack hx (y := (⟨"com/example/millrace/millrace/JsonObject$Parser", "breaks", "()I"⟩ : MethodName)) (z := (⟨"com/example/millrace/millrace/JsonObject$Parser", "breaks", "()I"⟩ : MethodName)) hown (mvT hZ (hw _ (List.mem_of_getElem? (i := 45) rfl))) (mvT hZ (hw _ (List.mem_of_getElem? (i := 46) rfl))) (notFace_of_selects (args := #[]) (mvT hZ (hw _ (List.mem_of_getElem? (i := 48) rfl)))) (mvT hZ (hw _ (List.mem_of_getElem? (i := 48) rfl))) (mvT hZ (hw _ (List.mem_of_getElem? (i := 47) rfl))) (by decide) (backOf (W := 0) (rm10 l Z a0 hw [] b21 ((own_brs [(nar .byte (own_draw p1)), (nar .byte (own_draw p2)), (nar .byte (own_draw p3)), (nar .byte (own_draw p4))] (own_pos [(nar .byte (own_draw p1)), (nar .byte (own_draw p2)), (nar .byte (own_draw p3)), (nar .byte (own_draw p4))] fr tt (0 : Int32)) tt (own_brs [(nar .byte (own_draw p1)), (nar .byte (own_draw p2)), (nar .byte (own_draw p3)), (nar .byte (own_draw p4))] fr tt (0 : Int32)))) T29.heap n0  Fq29_4) hZ (hw _ (List.mem_of_getElem? (i := 49) rfl)) (hw _ (List.mem_of_getElem? (i := 20) rfl)) (by decide) (by decide)) qa32 qc32 (g := (mkF m 250 #[.val (.int p1), .val (.int p2), .val (.int p3), .val (.int p4), .val (.int p5), .val (.ref b1), .val (.int uu), .val (.int vv), .val (.int fr), .val (.int tt), .val (.int z89s0), .val (.int ea), .val (.int br), .val (.ref b21), .val (.int (own_pos [(nar .byte (own_draw p1)), (nar .byte (own_draw p2)), (nar .byte (own_draw p3)), (nar .byte (own_draw p4))] fr tt (0 : Int32))), .val (.int (own_at (own_pos [(nar .byte (own_draw p1)), (nar .byte (own_draw p2)), (nar .byte (own_draw p3)), (nar .byte (own_draw p4))] fr tt (0 : Int32)))), .val (.int (own_brkf (own_brs [(nar .byte (own_draw p1)), (nar .byte (own_draw p2)), (nar .byte (own_draw p3)), (nar .byte (own_draw p4))] fr tt (0 : Int32)))), .val (.int (own_pos [(nar .byte (own_draw p1)), (nar .byte (own_draw p2)), (nar .byte (own_draw p3)), (nar .byte (own_draw p4))] (own_pos [(nar .byte (own_draw p1)), (nar .byte (own_draw p2)), (nar .byte (own_draw p3)), (nar .byte (own_draw p4))] fr tt (0 : Int32)) tt (own_brs [(nar .byte (own_draw p1)), (nar .byte (own_draw p2)), (nar .byte (own_draw p3)), (nar .byte (own_draw p4))] fr tt (0 : Int32)))), .val (.int (own_at (own_pos [(nar .byte (own_draw p1)), (nar .byte (own_draw p2)), (nar .byte (own_draw p3)), (nar .byte (own_draw p4))] (own_pos [(nar .byte (own_draw p1)), (nar .byte (own_draw p2)), (nar .byte (own_draw p3)), (nar .byte (own_draw p4))] fr tt (0 : Int32)) tt (own_brs [(nar .byte (own_draw p1)), (nar .byte (own_draw p2)), (nar .byte (own_draw p3)), (nar .byte (own_draw p4))] fr tt (0 : Int32))))), .unset] [(.ref b21)])) rfl (by rw [hml]; rfl) (Steps.refl _) (argsL := []) (rest := []) (lenOf pd_6 rfl) rfl (by show 2 * 0 + _ ≤ _; exact Nat.le_of_eq rfl) (hb hby at_250) (fun _ _ => ⟨rfl, e31, (by decide : 2 + 0 ≤ _), (by decide : 9 + 0 ≤ _)⟩)
    dsimp only [Pt.U, Pt.locs, Pt.cells, Pt.slots] at X32 l32 y32 z32 st32 hQ32
    rw [y32, z32] at X32
    obtain ⟨rfl, N32q, e32⟩ := hQ32
    have N32 : Fr n0 L32 := by rw [l32]; exact Fr.app N31 N32q
    refine Gl.to st32 ?_
    show Gl _ _ _ _ _ _ _ (T32.setTop (mkF m 253 #[.val (.int p1), .val (.int p2), .val (.int p3), .val (.int p4), .val (.int p5), .val (.ref b1), .val (.int uu), .val (.int vv), .val (.int fr), .val (.int tt), .val (.int z89s0), .val (.int ea), .val (.int br), .val (.ref b21), .val (.int (own_pos [(nar .byte (own_draw p1)), (nar .byte (own_draw p2)), (nar .byte (own_draw p3)), (nar .byte (own_draw p4))] fr tt (0 : Int32))), .val (.int (own_at (own_pos [(nar .byte (own_draw p1)), (nar .byte (own_draw p2)), (nar .byte (own_draw p3)), (nar .byte (own_draw p4))] fr tt (0 : Int32)))), .val (.int (own_brkf (own_brs [(nar .byte (own_draw p1)), (nar .byte (own_draw p2)), (nar .byte (own_draw p3)), (nar .byte (own_draw p4))] fr tt (0 : Int32)))), .val (.int (own_pos [(nar .byte (own_draw p1)), (nar .byte (own_draw p2)), (nar .byte (own_draw p3)), (nar .byte (own_draw p4))] (own_pos [(nar .byte (own_draw p1)), (nar .byte (own_draw p2)), (nar .byte (own_draw p3)), (nar .byte (own_draw p4))] fr tt (0 : Int32)) tt (own_brs [(nar .byte (own_draw p1)), (nar .byte (own_draw p2)), (nar .byte (own_draw p3)), (nar .byte (own_draw p4))] fr tt (0 : Int32)))), .val (.int (own_at (own_pos [(nar .byte (own_draw p1)), (nar .byte (own_draw p2)), (nar .byte (own_draw p3)), (nar .byte (own_draw p4))] (own_pos [(nar .byte (own_draw p1)), (nar .byte (own_draw p2)), (nar .byte (own_draw p3)), (nar .byte (own_draw p4))] fr tt (0 : Int32)) tt (own_brs [(nar .byte (own_draw p1)), (nar .byte (own_draw p2)), (nar .byte (own_draw p3)), (nar .byte (own_draw p4))] fr tt (0 : Int32))))), .unset] [(.int (own_brkf (own_brs [(nar .byte (own_draw p1)), (nar .byte (own_draw p2)), (nar .byte (own_draw p3)), (nar .byte (own_draw p4))] (own_pos [(nar .byte (own_draw p1)), (nar .byte (own_draw p2)), (nar .byte (own_draw p3)), (nar .byte (own_draw p4))] fr tt (0 : Int32)) tt (own_brs [(nar .byte (own_draw p1)), (nar .byte (own_draw p2)), (nar .byte (own_draw p3)), (nar .byte (own_draw p4))] fr tt (0 : Int32)))))]))
    refine Gl.st (fun t k => XS.istore X32.here hx rfl (hb hby at_253) rfl (l' := #[.val (.int p1), .val (.int p2), .val (.int p3), .val (.int p4), .val (.int p5), .val (.ref b1), .val (.int uu), .val (.int vv), .val (.int fr), .val (.int tt), .val (.int z89s0), .val (.int ea), .val (.int br), .val (.ref b21), .val (.int (own_pos [(nar .byte (own_draw p1)), (nar .byte (own_draw p2)), (nar .byte (own_draw p3)), (nar .byte (own_draw p4))] fr tt (0 : Int32))), .val (.int (own_at (own_pos [(nar .byte (own_draw p1)), (nar .byte (own_draw p2)), (nar .byte (own_draw p3)), (nar .byte (own_draw p4))] fr tt (0 : Int32)))), .val (.int (own_brkf (own_brs [(nar .byte (own_draw p1)), (nar .byte (own_draw p2)), (nar .byte (own_draw p3)), (nar .byte (own_draw p4))] fr tt (0 : Int32)))), .val (.int (own_pos [(nar .byte (own_draw p1)), (nar .byte (own_draw p2)), (nar .byte (own_draw p3)), (nar .byte (own_draw p4))] (own_pos [(nar .byte (own_draw p1)), (nar .byte (own_draw p2)), (nar .byte (own_draw p3)), (nar .byte (own_draw p4))] fr tt (0 : Int32)) tt (own_brs [(nar .byte (own_draw p1)), (nar .byte (own_draw p2)), (nar .byte (own_draw p3)), (nar .byte (own_draw p4))] fr tt (0 : Int32)))), .val (.int (own_at (own_pos [(nar .byte (own_draw p1)), (nar .byte (own_draw p2)), (nar .byte (own_draw p3)), (nar .byte (own_draw p4))] (own_pos [(nar .byte (own_draw p1)), (nar .byte (own_draw p2)), (nar .byte (own_draw p3)), (nar .byte (own_draw p4))] fr tt (0 : Int32)) tt (own_brs [(nar .byte (own_draw p1)), (nar .byte (own_draw p2)), (nar .byte (own_draw p3)), (nar .byte (own_draw p4))] fr tt (0 : Int32))))), .val (.int (own_brkf (own_brs [(nar .byte (own_draw p1)), (nar .byte (own_draw p2)), (nar .byte (own_draw p3)), (nar .byte (own_draw p4))] (own_pos [(nar .byte (own_draw p1)), (nar .byte (own_draw p2)), (nar .byte (own_draw p3)), (nar .byte (own_draw p4))] fr tt (0 : Int32)) tt (own_brs [(nar .byte (own_draw p1)), (nar .byte (own_draw p2)), (nar .byte (own_draw p3)), (nar .byte (own_draw p4))] fr tt (0 : Int32)))))]) rfl k) ?_
    show Gl _ _ _ _ _ _ _ (T32.setTop (mkF m 255 #[.val (.int p1), .val (.int p2), .val (.int p3), .val (.int p4), .val (.int p5), .val (.ref b1), .val (.int uu), .val (.int vv), .val (.int fr), .val (.int tt), .val (.int z89s0), .val (.int ea), .val (.int br), .val (.ref b21), .val (.int (own_pos [(nar .byte (own_draw p1)), (nar .byte (own_draw p2)), (nar .byte (own_draw p3)), (nar .byte (own_draw p4))] fr tt (0 : Int32))), .val (.int (own_at (own_pos [(nar .byte (own_draw p1)), (nar .byte (own_draw p2)), (nar .byte (own_draw p3)), (nar .byte (own_draw p4))] fr tt (0 : Int32)))), .val (.int (own_brkf (own_brs [(nar .byte (own_draw p1)), (nar .byte (own_draw p2)), (nar .byte (own_draw p3)), (nar .byte (own_draw p4))] fr tt (0 : Int32)))), .val (.int (own_pos [(nar .byte (own_draw p1)), (nar .byte (own_draw p2)), (nar .byte (own_draw p3)), (nar .byte (own_draw p4))] (own_pos [(nar .byte (own_draw p1)), (nar .byte (own_draw p2)), (nar .byte (own_draw p3)), (nar .byte (own_draw p4))] fr tt (0 : Int32)) tt (own_brs [(nar .byte (own_draw p1)), (nar .byte (own_draw p2)), (nar .byte (own_draw p3)), (nar .byte (own_draw p4))] fr tt (0 : Int32)))), .val (.int (own_at (own_pos [(nar .byte (own_draw p1)), (nar .byte (own_draw p2)), (nar .byte (own_draw p3)), (nar .byte (own_draw p4))] (own_pos [(nar .byte (own_draw p1)), (nar .byte (own_draw p2)), (nar .byte (own_draw p3)), (nar .byte (own_draw p4))] fr tt (0 : Int32)) tt (own_brs [(nar .byte (own_draw p1)), (nar .byte (own_draw p2)), (nar .byte (own_draw p3)), (nar .byte (own_draw p4))] fr tt (0 : Int32))))), .val (.int (own_brkf (own_brs [(nar .byte (own_draw p1)), (nar .byte (own_draw p2)), (nar .byte (own_draw p3)), (nar .byte (own_draw p4))] (own_pos [(nar .byte (own_draw p1)), (nar .byte (own_draw p2)), (nar .byte (own_draw p3)), (nar .byte (own_draw p4))] fr tt (0 : Int32)) tt (own_brs [(nar .byte (own_draw p1)), (nar .byte (own_draw p2)), (nar .byte (own_draw p3)), (nar .byte (own_draw p4))] fr tt (0 : Int32)))))] []))
    refine Gl.st (fun t k => XS.iload X32.here hx rfl (hb hby at_255) rfl  k) ?_
    show Gl _ _ _ _ _ _ _ (T32.setTop (mkF m 257 #[.val (.int p1), .val (.int p2), .val (.int p3), .val (.int p4), .val (.int p5), .val (.ref b1), .val (.int uu), .val (.int vv), .val (.int fr), .val (.int tt), .val (.int z89s0), .val (.int ea), .val (.int br), .val (.ref b21), .val (.int (own_pos [(nar .byte (own_draw p1)), (nar .byte (own_draw p2)), (nar .byte (own_draw p3)), (nar .byte (own_draw p4))] fr tt (0 : Int32))), .val (.int (own_at (own_pos [(nar .byte (own_draw p1)), (nar .byte (own_draw p2)), (nar .byte (own_draw p3)), (nar .byte (own_draw p4))] fr tt (0 : Int32)))), .val (.int (own_brkf (own_brs [(nar .byte (own_draw p1)), (nar .byte (own_draw p2)), (nar .byte (own_draw p3)), (nar .byte (own_draw p4))] fr tt (0 : Int32)))), .val (.int (own_pos [(nar .byte (own_draw p1)), (nar .byte (own_draw p2)), (nar .byte (own_draw p3)), (nar .byte (own_draw p4))] (own_pos [(nar .byte (own_draw p1)), (nar .byte (own_draw p2)), (nar .byte (own_draw p3)), (nar .byte (own_draw p4))] fr tt (0 : Int32)) tt (own_brs [(nar .byte (own_draw p1)), (nar .byte (own_draw p2)), (nar .byte (own_draw p3)), (nar .byte (own_draw p4))] fr tt (0 : Int32)))), .val (.int (own_at (own_pos [(nar .byte (own_draw p1)), (nar .byte (own_draw p2)), (nar .byte (own_draw p3)), (nar .byte (own_draw p4))] (own_pos [(nar .byte (own_draw p1)), (nar .byte (own_draw p2)), (nar .byte (own_draw p3)), (nar .byte (own_draw p4))] fr tt (0 : Int32)) tt (own_brs [(nar .byte (own_draw p1)), (nar .byte (own_draw p2)), (nar .byte (own_draw p3)), (nar .byte (own_draw p4))] fr tt (0 : Int32))))), .val (.int (own_brkf (own_brs [(nar .byte (own_draw p1)), (nar .byte (own_draw p2)), (nar .byte (own_draw p3)), (nar .byte (own_draw p4))] (own_pos [(nar .byte (own_draw p1)), (nar .byte (own_draw p2)), (nar .byte (own_draw p3)), (nar .byte (own_draw p4))] fr tt (0 : Int32)) tt (own_brs [(nar .byte (own_draw p1)), (nar .byte (own_draw p2)), (nar .byte (own_draw p3)), (nar .byte (own_draw p4))] fr tt (0 : Int32)))))] [(.int (own_pos [(nar .byte (own_draw p1)), (nar .byte (own_draw p2)), (nar .byte (own_draw p3)), (nar .byte (own_draw p4))] fr tt (0 : Int32)))]))
    refine Gl.st (fun t k => XS.iload X32.here hx rfl (hb hby at_257) rfl  k) ?_
    show Gl _ _ _ _ _ _ _ (T32.setTop (mkF m 259 #[.val (.int p1), .val (.int p2), .val (.int p3), .val (.int p4), .val (.int p5), .val (.ref b1), .val (.int uu), .val (.int vv), .val (.int fr), .val (.int tt), .val (.int z89s0), .val (.int ea), .val (.int br), .val (.ref b21), .val (.int (own_pos [(nar .byte (own_draw p1)), (nar .byte (own_draw p2)), (nar .byte (own_draw p3)), (nar .byte (own_draw p4))] fr tt (0 : Int32))), .val (.int (own_at (own_pos [(nar .byte (own_draw p1)), (nar .byte (own_draw p2)), (nar .byte (own_draw p3)), (nar .byte (own_draw p4))] fr tt (0 : Int32)))), .val (.int (own_brkf (own_brs [(nar .byte (own_draw p1)), (nar .byte (own_draw p2)), (nar .byte (own_draw p3)), (nar .byte (own_draw p4))] fr tt (0 : Int32)))), .val (.int (own_pos [(nar .byte (own_draw p1)), (nar .byte (own_draw p2)), (nar .byte (own_draw p3)), (nar .byte (own_draw p4))] (own_pos [(nar .byte (own_draw p1)), (nar .byte (own_draw p2)), (nar .byte (own_draw p3)), (nar .byte (own_draw p4))] fr tt (0 : Int32)) tt (own_brs [(nar .byte (own_draw p1)), (nar .byte (own_draw p2)), (nar .byte (own_draw p3)), (nar .byte (own_draw p4))] fr tt (0 : Int32)))), .val (.int (own_at (own_pos [(nar .byte (own_draw p1)), (nar .byte (own_draw p2)), (nar .byte (own_draw p3)), (nar .byte (own_draw p4))] (own_pos [(nar .byte (own_draw p1)), (nar .byte (own_draw p2)), (nar .byte (own_draw p3)), (nar .byte (own_draw p4))] fr tt (0 : Int32)) tt (own_brs [(nar .byte (own_draw p1)), (nar .byte (own_draw p2)), (nar .byte (own_draw p3)), (nar .byte (own_draw p4))] fr tt (0 : Int32))))), .val (.int (own_brkf (own_brs [(nar .byte (own_draw p1)), (nar .byte (own_draw p2)), (nar .byte (own_draw p3)), (nar .byte (own_draw p4))] (own_pos [(nar .byte (own_draw p1)), (nar .byte (own_draw p2)), (nar .byte (own_draw p3)), (nar .byte (own_draw p4))] fr tt (0 : Int32)) tt (own_brs [(nar .byte (own_draw p1)), (nar .byte (own_draw p2)), (nar .byte (own_draw p3)), (nar .byte (own_draw p4))] fr tt (0 : Int32)))))] [(.int ea), (.int (own_pos [(nar .byte (own_draw p1)), (nar .byte (own_draw p2)), (nar .byte (own_draw p3)), (nar .byte (own_draw p4))] fr tt (0 : Int32)))]))
    have hc259_33 : (own_pos [(nar .byte (own_draw p1)), (nar .byte (own_draw p2)), (nar .byte (own_draw p3)), (nar .byte (own_draw p4))] fr tt (0 : Int32)) = ea := by exact hfin.1
    refine Gl.st (fun t k => XS.icmpNo X32.here hx rfl (hb hby at_259) rfl (teq hc259_33).2 k) ?_
    show Gl _ _ _ _ _ _ _ (T32.setTop (mkF m 262 #[.val (.int p1), .val (.int p2), .val (.int p3), .val (.int p4), .val (.int p5), .val (.ref b1), .val (.int uu), .val (.int vv), .val (.int fr), .val (.int tt), .val (.int z89s0), .val (.int ea), .val (.int br), .val (.ref b21), .val (.int (own_pos [(nar .byte (own_draw p1)), (nar .byte (own_draw p2)), (nar .byte (own_draw p3)), (nar .byte (own_draw p4))] fr tt (0 : Int32))), .val (.int (own_at (own_pos [(nar .byte (own_draw p1)), (nar .byte (own_draw p2)), (nar .byte (own_draw p3)), (nar .byte (own_draw p4))] fr tt (0 : Int32)))), .val (.int (own_brkf (own_brs [(nar .byte (own_draw p1)), (nar .byte (own_draw p2)), (nar .byte (own_draw p3)), (nar .byte (own_draw p4))] fr tt (0 : Int32)))), .val (.int (own_pos [(nar .byte (own_draw p1)), (nar .byte (own_draw p2)), (nar .byte (own_draw p3)), (nar .byte (own_draw p4))] (own_pos [(nar .byte (own_draw p1)), (nar .byte (own_draw p2)), (nar .byte (own_draw p3)), (nar .byte (own_draw p4))] fr tt (0 : Int32)) tt (own_brs [(nar .byte (own_draw p1)), (nar .byte (own_draw p2)), (nar .byte (own_draw p3)), (nar .byte (own_draw p4))] fr tt (0 : Int32)))), .val (.int (own_at (own_pos [(nar .byte (own_draw p1)), (nar .byte (own_draw p2)), (nar .byte (own_draw p3)), (nar .byte (own_draw p4))] (own_pos [(nar .byte (own_draw p1)), (nar .byte (own_draw p2)), (nar .byte (own_draw p3)), (nar .byte (own_draw p4))] fr tt (0 : Int32)) tt (own_brs [(nar .byte (own_draw p1)), (nar .byte (own_draw p2)), (nar .byte (own_draw p3)), (nar .byte (own_draw p4))] fr tt (0 : Int32))))), .val (.int (own_brkf (own_brs [(nar .byte (own_draw p1)), (nar .byte (own_draw p2)), (nar .byte (own_draw p3)), (nar .byte (own_draw p4))] (own_pos [(nar .byte (own_draw p1)), (nar .byte (own_draw p2)), (nar .byte (own_draw p3)), (nar .byte (own_draw p4))] fr tt (0 : Int32)) tt (own_brs [(nar .byte (own_draw p1)), (nar .byte (own_draw p2)), (nar .byte (own_draw p3)), (nar .byte (own_draw p4))] fr tt (0 : Int32)))))] []))
    refine Gl.st (fun t k => XS.iload X32.here hx rfl (hb hby at_262) rfl  k) ?_
    show Gl _ _ _ _ _ _ _ (T32.setTop (mkF m 264 #[.val (.int p1), .val (.int p2), .val (.int p3), .val (.int p4), .val (.int p5), .val (.ref b1), .val (.int uu), .val (.int vv), .val (.int fr), .val (.int tt), .val (.int z89s0), .val (.int ea), .val (.int br), .val (.ref b21), .val (.int (own_pos [(nar .byte (own_draw p1)), (nar .byte (own_draw p2)), (nar .byte (own_draw p3)), (nar .byte (own_draw p4))] fr tt (0 : Int32))), .val (.int (own_at (own_pos [(nar .byte (own_draw p1)), (nar .byte (own_draw p2)), (nar .byte (own_draw p3)), (nar .byte (own_draw p4))] fr tt (0 : Int32)))), .val (.int (own_brkf (own_brs [(nar .byte (own_draw p1)), (nar .byte (own_draw p2)), (nar .byte (own_draw p3)), (nar .byte (own_draw p4))] fr tt (0 : Int32)))), .val (.int (own_pos [(nar .byte (own_draw p1)), (nar .byte (own_draw p2)), (nar .byte (own_draw p3)), (nar .byte (own_draw p4))] (own_pos [(nar .byte (own_draw p1)), (nar .byte (own_draw p2)), (nar .byte (own_draw p3)), (nar .byte (own_draw p4))] fr tt (0 : Int32)) tt (own_brs [(nar .byte (own_draw p1)), (nar .byte (own_draw p2)), (nar .byte (own_draw p3)), (nar .byte (own_draw p4))] fr tt (0 : Int32)))), .val (.int (own_at (own_pos [(nar .byte (own_draw p1)), (nar .byte (own_draw p2)), (nar .byte (own_draw p3)), (nar .byte (own_draw p4))] (own_pos [(nar .byte (own_draw p1)), (nar .byte (own_draw p2)), (nar .byte (own_draw p3)), (nar .byte (own_draw p4))] fr tt (0 : Int32)) tt (own_brs [(nar .byte (own_draw p1)), (nar .byte (own_draw p2)), (nar .byte (own_draw p3)), (nar .byte (own_draw p4))] fr tt (0 : Int32))))), .val (.int (own_brkf (own_brs [(nar .byte (own_draw p1)), (nar .byte (own_draw p2)), (nar .byte (own_draw p3)), (nar .byte (own_draw p4))] (own_pos [(nar .byte (own_draw p1)), (nar .byte (own_draw p2)), (nar .byte (own_draw p3)), (nar .byte (own_draw p4))] fr tt (0 : Int32)) tt (own_brs [(nar .byte (own_draw p1)), (nar .byte (own_draw p2)), (nar .byte (own_draw p3)), (nar .byte (own_draw p4))] fr tt (0 : Int32)))))] [(.int (own_at (own_pos [(nar .byte (own_draw p1)), (nar .byte (own_draw p2)), (nar .byte (own_draw p3)), (nar .byte (own_draw p4))] fr tt (0 : Int32))))]))
    refine Gl.st (fun t k => XS.iload X32.here hx rfl (hb hby at_264) rfl  k) ?_
    show Gl _ _ _ _ _ _ _ (T32.setTop (mkF m 266 #[.val (.int p1), .val (.int p2), .val (.int p3), .val (.int p4), .val (.int p5), .val (.ref b1), .val (.int uu), .val (.int vv), .val (.int fr), .val (.int tt), .val (.int z89s0), .val (.int ea), .val (.int br), .val (.ref b21), .val (.int (own_pos [(nar .byte (own_draw p1)), (nar .byte (own_draw p2)), (nar .byte (own_draw p3)), (nar .byte (own_draw p4))] fr tt (0 : Int32))), .val (.int (own_at (own_pos [(nar .byte (own_draw p1)), (nar .byte (own_draw p2)), (nar .byte (own_draw p3)), (nar .byte (own_draw p4))] fr tt (0 : Int32)))), .val (.int (own_brkf (own_brs [(nar .byte (own_draw p1)), (nar .byte (own_draw p2)), (nar .byte (own_draw p3)), (nar .byte (own_draw p4))] fr tt (0 : Int32)))), .val (.int (own_pos [(nar .byte (own_draw p1)), (nar .byte (own_draw p2)), (nar .byte (own_draw p3)), (nar .byte (own_draw p4))] (own_pos [(nar .byte (own_draw p1)), (nar .byte (own_draw p2)), (nar .byte (own_draw p3)), (nar .byte (own_draw p4))] fr tt (0 : Int32)) tt (own_brs [(nar .byte (own_draw p1)), (nar .byte (own_draw p2)), (nar .byte (own_draw p3)), (nar .byte (own_draw p4))] fr tt (0 : Int32)))), .val (.int (own_at (own_pos [(nar .byte (own_draw p1)), (nar .byte (own_draw p2)), (nar .byte (own_draw p3)), (nar .byte (own_draw p4))] (own_pos [(nar .byte (own_draw p1)), (nar .byte (own_draw p2)), (nar .byte (own_draw p3)), (nar .byte (own_draw p4))] fr tt (0 : Int32)) tt (own_brs [(nar .byte (own_draw p1)), (nar .byte (own_draw p2)), (nar .byte (own_draw p3)), (nar .byte (own_draw p4))] fr tt (0 : Int32))))), .val (.int (own_brkf (own_brs [(nar .byte (own_draw p1)), (nar .byte (own_draw p2)), (nar .byte (own_draw p3)), (nar .byte (own_draw p4))] (own_pos [(nar .byte (own_draw p1)), (nar .byte (own_draw p2)), (nar .byte (own_draw p3)), (nar .byte (own_draw p4))] fr tt (0 : Int32)) tt (own_brs [(nar .byte (own_draw p1)), (nar .byte (own_draw p2)), (nar .byte (own_draw p3)), (nar .byte (own_draw p4))] fr tt (0 : Int32)))))] [(.int ea), (.int (own_at (own_pos [(nar .byte (own_draw p1)), (nar .byte (own_draw p2)), (nar .byte (own_draw p3)), (nar .byte (own_draw p4))] fr tt (0 : Int32))))]))
    have hc266_34 : (own_at (own_pos [(nar .byte (own_draw p1)), (nar .byte (own_draw p2)), (nar .byte (own_draw p3)), (nar .byte (own_draw p4))] fr tt (0 : Int32))) = ea := by exact hfin.1
    refine Gl.st (fun t k => XS.icmpNo X32.here hx rfl (hb hby at_266) rfl (teq hc266_34).2 k) ?_
    show Gl _ _ _ _ _ _ _ (T32.setTop (mkF m 269 #[.val (.int p1), .val (.int p2), .val (.int p3), .val (.int p4), .val (.int p5), .val (.ref b1), .val (.int uu), .val (.int vv), .val (.int fr), .val (.int tt), .val (.int z89s0), .val (.int ea), .val (.int br), .val (.ref b21), .val (.int (own_pos [(nar .byte (own_draw p1)), (nar .byte (own_draw p2)), (nar .byte (own_draw p3)), (nar .byte (own_draw p4))] fr tt (0 : Int32))), .val (.int (own_at (own_pos [(nar .byte (own_draw p1)), (nar .byte (own_draw p2)), (nar .byte (own_draw p3)), (nar .byte (own_draw p4))] fr tt (0 : Int32)))), .val (.int (own_brkf (own_brs [(nar .byte (own_draw p1)), (nar .byte (own_draw p2)), (nar .byte (own_draw p3)), (nar .byte (own_draw p4))] fr tt (0 : Int32)))), .val (.int (own_pos [(nar .byte (own_draw p1)), (nar .byte (own_draw p2)), (nar .byte (own_draw p3)), (nar .byte (own_draw p4))] (own_pos [(nar .byte (own_draw p1)), (nar .byte (own_draw p2)), (nar .byte (own_draw p3)), (nar .byte (own_draw p4))] fr tt (0 : Int32)) tt (own_brs [(nar .byte (own_draw p1)), (nar .byte (own_draw p2)), (nar .byte (own_draw p3)), (nar .byte (own_draw p4))] fr tt (0 : Int32)))), .val (.int (own_at (own_pos [(nar .byte (own_draw p1)), (nar .byte (own_draw p2)), (nar .byte (own_draw p3)), (nar .byte (own_draw p4))] (own_pos [(nar .byte (own_draw p1)), (nar .byte (own_draw p2)), (nar .byte (own_draw p3)), (nar .byte (own_draw p4))] fr tt (0 : Int32)) tt (own_brs [(nar .byte (own_draw p1)), (nar .byte (own_draw p2)), (nar .byte (own_draw p3)), (nar .byte (own_draw p4))] fr tt (0 : Int32))))), .val (.int (own_brkf (own_brs [(nar .byte (own_draw p1)), (nar .byte (own_draw p2)), (nar .byte (own_draw p3)), (nar .byte (own_draw p4))] (own_pos [(nar .byte (own_draw p1)), (nar .byte (own_draw p2)), (nar .byte (own_draw p3)), (nar .byte (own_draw p4))] fr tt (0 : Int32)) tt (own_brs [(nar .byte (own_draw p1)), (nar .byte (own_draw p2)), (nar .byte (own_draw p3)), (nar .byte (own_draw p4))] fr tt (0 : Int32)))))] []))
    refine Gl.st (fun t k => XS.iload X32.here hx rfl (hb hby at_269) rfl  k) ?_
    show Gl _ _ _ _ _ _ _ (T32.setTop (mkF m 271 #[.val (.int p1), .val (.int p2), .val (.int p3), .val (.int p4), .val (.int p5), .val (.ref b1), .val (.int uu), .val (.int vv), .val (.int fr), .val (.int tt), .val (.int z89s0), .val (.int ea), .val (.int br), .val (.ref b21), .val (.int (own_pos [(nar .byte (own_draw p1)), (nar .byte (own_draw p2)), (nar .byte (own_draw p3)), (nar .byte (own_draw p4))] fr tt (0 : Int32))), .val (.int (own_at (own_pos [(nar .byte (own_draw p1)), (nar .byte (own_draw p2)), (nar .byte (own_draw p3)), (nar .byte (own_draw p4))] fr tt (0 : Int32)))), .val (.int (own_brkf (own_brs [(nar .byte (own_draw p1)), (nar .byte (own_draw p2)), (nar .byte (own_draw p3)), (nar .byte (own_draw p4))] fr tt (0 : Int32)))), .val (.int (own_pos [(nar .byte (own_draw p1)), (nar .byte (own_draw p2)), (nar .byte (own_draw p3)), (nar .byte (own_draw p4))] (own_pos [(nar .byte (own_draw p1)), (nar .byte (own_draw p2)), (nar .byte (own_draw p3)), (nar .byte (own_draw p4))] fr tt (0 : Int32)) tt (own_brs [(nar .byte (own_draw p1)), (nar .byte (own_draw p2)), (nar .byte (own_draw p3)), (nar .byte (own_draw p4))] fr tt (0 : Int32)))), .val (.int (own_at (own_pos [(nar .byte (own_draw p1)), (nar .byte (own_draw p2)), (nar .byte (own_draw p3)), (nar .byte (own_draw p4))] (own_pos [(nar .byte (own_draw p1)), (nar .byte (own_draw p2)), (nar .byte (own_draw p3)), (nar .byte (own_draw p4))] fr tt (0 : Int32)) tt (own_brs [(nar .byte (own_draw p1)), (nar .byte (own_draw p2)), (nar .byte (own_draw p3)), (nar .byte (own_draw p4))] fr tt (0 : Int32))))), .val (.int (own_brkf (own_brs [(nar .byte (own_draw p1)), (nar .byte (own_draw p2)), (nar .byte (own_draw p3)), (nar .byte (own_draw p4))] (own_pos [(nar .byte (own_draw p1)), (nar .byte (own_draw p2)), (nar .byte (own_draw p3)), (nar .byte (own_draw p4))] fr tt (0 : Int32)) tt (own_brs [(nar .byte (own_draw p1)), (nar .byte (own_draw p2)), (nar .byte (own_draw p3)), (nar .byte (own_draw p4))] fr tt (0 : Int32)))))] [(.int (own_brkf (own_brs [(nar .byte (own_draw p1)), (nar .byte (own_draw p2)), (nar .byte (own_draw p3)), (nar .byte (own_draw p4))] fr tt (0 : Int32))))]))
    refine Gl.st (fun t k => XS.iload X32.here hx rfl (hb hby at_271) rfl  k) ?_
    show Gl _ _ _ _ _ _ _ (T32.setTop (mkF m 273 #[.val (.int p1), .val (.int p2), .val (.int p3), .val (.int p4), .val (.int p5), .val (.ref b1), .val (.int uu), .val (.int vv), .val (.int fr), .val (.int tt), .val (.int z89s0), .val (.int ea), .val (.int br), .val (.ref b21), .val (.int (own_pos [(nar .byte (own_draw p1)), (nar .byte (own_draw p2)), (nar .byte (own_draw p3)), (nar .byte (own_draw p4))] fr tt (0 : Int32))), .val (.int (own_at (own_pos [(nar .byte (own_draw p1)), (nar .byte (own_draw p2)), (nar .byte (own_draw p3)), (nar .byte (own_draw p4))] fr tt (0 : Int32)))), .val (.int (own_brkf (own_brs [(nar .byte (own_draw p1)), (nar .byte (own_draw p2)), (nar .byte (own_draw p3)), (nar .byte (own_draw p4))] fr tt (0 : Int32)))), .val (.int (own_pos [(nar .byte (own_draw p1)), (nar .byte (own_draw p2)), (nar .byte (own_draw p3)), (nar .byte (own_draw p4))] (own_pos [(nar .byte (own_draw p1)), (nar .byte (own_draw p2)), (nar .byte (own_draw p3)), (nar .byte (own_draw p4))] fr tt (0 : Int32)) tt (own_brs [(nar .byte (own_draw p1)), (nar .byte (own_draw p2)), (nar .byte (own_draw p3)), (nar .byte (own_draw p4))] fr tt (0 : Int32)))), .val (.int (own_at (own_pos [(nar .byte (own_draw p1)), (nar .byte (own_draw p2)), (nar .byte (own_draw p3)), (nar .byte (own_draw p4))] (own_pos [(nar .byte (own_draw p1)), (nar .byte (own_draw p2)), (nar .byte (own_draw p3)), (nar .byte (own_draw p4))] fr tt (0 : Int32)) tt (own_brs [(nar .byte (own_draw p1)), (nar .byte (own_draw p2)), (nar .byte (own_draw p3)), (nar .byte (own_draw p4))] fr tt (0 : Int32))))), .val (.int (own_brkf (own_brs [(nar .byte (own_draw p1)), (nar .byte (own_draw p2)), (nar .byte (own_draw p3)), (nar .byte (own_draw p4))] (own_pos [(nar .byte (own_draw p1)), (nar .byte (own_draw p2)), (nar .byte (own_draw p3)), (nar .byte (own_draw p4))] fr tt (0 : Int32)) tt (own_brs [(nar .byte (own_draw p1)), (nar .byte (own_draw p2)), (nar .byte (own_draw p3)), (nar .byte (own_draw p4))] fr tt (0 : Int32)))))] [(.int br), (.int (own_brkf (own_brs [(nar .byte (own_draw p1)), (nar .byte (own_draw p2)), (nar .byte (own_draw p3)), (nar .byte (own_draw p4))] fr tt (0 : Int32))))]))
    have hc273_35 : (own_brkf (own_brs [(nar .byte (own_draw p1)), (nar .byte (own_draw p2)), (nar .byte (own_draw p3)), (nar .byte (own_draw p4))] fr tt (0 : Int32))) = br := by exact hfin.2.1
    refine Gl.st (fun t k => XS.icmpNo X32.here hx rfl (hb hby at_273) rfl (teq hc273_35).2 k) ?_
    show Gl _ _ _ _ _ _ _ (T32.setTop (mkF m 276 #[.val (.int p1), .val (.int p2), .val (.int p3), .val (.int p4), .val (.int p5), .val (.ref b1), .val (.int uu), .val (.int vv), .val (.int fr), .val (.int tt), .val (.int z89s0), .val (.int ea), .val (.int br), .val (.ref b21), .val (.int (own_pos [(nar .byte (own_draw p1)), (nar .byte (own_draw p2)), (nar .byte (own_draw p3)), (nar .byte (own_draw p4))] fr tt (0 : Int32))), .val (.int (own_at (own_pos [(nar .byte (own_draw p1)), (nar .byte (own_draw p2)), (nar .byte (own_draw p3)), (nar .byte (own_draw p4))] fr tt (0 : Int32)))), .val (.int (own_brkf (own_brs [(nar .byte (own_draw p1)), (nar .byte (own_draw p2)), (nar .byte (own_draw p3)), (nar .byte (own_draw p4))] fr tt (0 : Int32)))), .val (.int (own_pos [(nar .byte (own_draw p1)), (nar .byte (own_draw p2)), (nar .byte (own_draw p3)), (nar .byte (own_draw p4))] (own_pos [(nar .byte (own_draw p1)), (nar .byte (own_draw p2)), (nar .byte (own_draw p3)), (nar .byte (own_draw p4))] fr tt (0 : Int32)) tt (own_brs [(nar .byte (own_draw p1)), (nar .byte (own_draw p2)), (nar .byte (own_draw p3)), (nar .byte (own_draw p4))] fr tt (0 : Int32)))), .val (.int (own_at (own_pos [(nar .byte (own_draw p1)), (nar .byte (own_draw p2)), (nar .byte (own_draw p3)), (nar .byte (own_draw p4))] (own_pos [(nar .byte (own_draw p1)), (nar .byte (own_draw p2)), (nar .byte (own_draw p3)), (nar .byte (own_draw p4))] fr tt (0 : Int32)) tt (own_brs [(nar .byte (own_draw p1)), (nar .byte (own_draw p2)), (nar .byte (own_draw p3)), (nar .byte (own_draw p4))] fr tt (0 : Int32))))), .val (.int (own_brkf (own_brs [(nar .byte (own_draw p1)), (nar .byte (own_draw p2)), (nar .byte (own_draw p3)), (nar .byte (own_draw p4))] (own_pos [(nar .byte (own_draw p1)), (nar .byte (own_draw p2)), (nar .byte (own_draw p3)), (nar .byte (own_draw p4))] fr tt (0 : Int32)) tt (own_brs [(nar .byte (own_draw p1)), (nar .byte (own_draw p2)), (nar .byte (own_draw p3)), (nar .byte (own_draw p4))] fr tt (0 : Int32)))))] []))
    refine Gl.st (fun t k => XS.iload X32.here hx rfl (hb hby at_276) rfl  k) ?_
    show Gl _ _ _ _ _ _ _ (T32.setTop (mkF m 278 #[.val (.int p1), .val (.int p2), .val (.int p3), .val (.int p4), .val (.int p5), .val (.ref b1), .val (.int uu), .val (.int vv), .val (.int fr), .val (.int tt), .val (.int z89s0), .val (.int ea), .val (.int br), .val (.ref b21), .val (.int (own_pos [(nar .byte (own_draw p1)), (nar .byte (own_draw p2)), (nar .byte (own_draw p3)), (nar .byte (own_draw p4))] fr tt (0 : Int32))), .val (.int (own_at (own_pos [(nar .byte (own_draw p1)), (nar .byte (own_draw p2)), (nar .byte (own_draw p3)), (nar .byte (own_draw p4))] fr tt (0 : Int32)))), .val (.int (own_brkf (own_brs [(nar .byte (own_draw p1)), (nar .byte (own_draw p2)), (nar .byte (own_draw p3)), (nar .byte (own_draw p4))] fr tt (0 : Int32)))), .val (.int (own_pos [(nar .byte (own_draw p1)), (nar .byte (own_draw p2)), (nar .byte (own_draw p3)), (nar .byte (own_draw p4))] (own_pos [(nar .byte (own_draw p1)), (nar .byte (own_draw p2)), (nar .byte (own_draw p3)), (nar .byte (own_draw p4))] fr tt (0 : Int32)) tt (own_brs [(nar .byte (own_draw p1)), (nar .byte (own_draw p2)), (nar .byte (own_draw p3)), (nar .byte (own_draw p4))] fr tt (0 : Int32)))), .val (.int (own_at (own_pos [(nar .byte (own_draw p1)), (nar .byte (own_draw p2)), (nar .byte (own_draw p3)), (nar .byte (own_draw p4))] (own_pos [(nar .byte (own_draw p1)), (nar .byte (own_draw p2)), (nar .byte (own_draw p3)), (nar .byte (own_draw p4))] fr tt (0 : Int32)) tt (own_brs [(nar .byte (own_draw p1)), (nar .byte (own_draw p2)), (nar .byte (own_draw p3)), (nar .byte (own_draw p4))] fr tt (0 : Int32))))), .val (.int (own_brkf (own_brs [(nar .byte (own_draw p1)), (nar .byte (own_draw p2)), (nar .byte (own_draw p3)), (nar .byte (own_draw p4))] (own_pos [(nar .byte (own_draw p1)), (nar .byte (own_draw p2)), (nar .byte (own_draw p3)), (nar .byte (own_draw p4))] fr tt (0 : Int32)) tt (own_brs [(nar .byte (own_draw p1)), (nar .byte (own_draw p2)), (nar .byte (own_draw p3)), (nar .byte (own_draw p4))] fr tt (0 : Int32)))))] [(.int (own_pos [(nar .byte (own_draw p1)), (nar .byte (own_draw p2)), (nar .byte (own_draw p3)), (nar .byte (own_draw p4))] (own_pos [(nar .byte (own_draw p1)), (nar .byte (own_draw p2)), (nar .byte (own_draw p3)), (nar .byte (own_draw p4))] fr tt (0 : Int32)) tt (own_brs [(nar .byte (own_draw p1)), (nar .byte (own_draw p2)), (nar .byte (own_draw p3)), (nar .byte (own_draw p4))] fr tt (0 : Int32))))]))
    refine Gl.st (fun t k => XS.iload X32.here hx rfl (hb hby at_278) rfl  k) ?_
    show Gl _ _ _ _ _ _ _ (T32.setTop (mkF m 280 #[.val (.int p1), .val (.int p2), .val (.int p3), .val (.int p4), .val (.int p5), .val (.ref b1), .val (.int uu), .val (.int vv), .val (.int fr), .val (.int tt), .val (.int z89s0), .val (.int ea), .val (.int br), .val (.ref b21), .val (.int (own_pos [(nar .byte (own_draw p1)), (nar .byte (own_draw p2)), (nar .byte (own_draw p3)), (nar .byte (own_draw p4))] fr tt (0 : Int32))), .val (.int (own_at (own_pos [(nar .byte (own_draw p1)), (nar .byte (own_draw p2)), (nar .byte (own_draw p3)), (nar .byte (own_draw p4))] fr tt (0 : Int32)))), .val (.int (own_brkf (own_brs [(nar .byte (own_draw p1)), (nar .byte (own_draw p2)), (nar .byte (own_draw p3)), (nar .byte (own_draw p4))] fr tt (0 : Int32)))), .val (.int (own_pos [(nar .byte (own_draw p1)), (nar .byte (own_draw p2)), (nar .byte (own_draw p3)), (nar .byte (own_draw p4))] (own_pos [(nar .byte (own_draw p1)), (nar .byte (own_draw p2)), (nar .byte (own_draw p3)), (nar .byte (own_draw p4))] fr tt (0 : Int32)) tt (own_brs [(nar .byte (own_draw p1)), (nar .byte (own_draw p2)), (nar .byte (own_draw p3)), (nar .byte (own_draw p4))] fr tt (0 : Int32)))), .val (.int (own_at (own_pos [(nar .byte (own_draw p1)), (nar .byte (own_draw p2)), (nar .byte (own_draw p3)), (nar .byte (own_draw p4))] (own_pos [(nar .byte (own_draw p1)), (nar .byte (own_draw p2)), (nar .byte (own_draw p3)), (nar .byte (own_draw p4))] fr tt (0 : Int32)) tt (own_brs [(nar .byte (own_draw p1)), (nar .byte (own_draw p2)), (nar .byte (own_draw p3)), (nar .byte (own_draw p4))] fr tt (0 : Int32))))), .val (.int (own_brkf (own_brs [(nar .byte (own_draw p1)), (nar .byte (own_draw p2)), (nar .byte (own_draw p3)), (nar .byte (own_draw p4))] (own_pos [(nar .byte (own_draw p1)), (nar .byte (own_draw p2)), (nar .byte (own_draw p3)), (nar .byte (own_draw p4))] fr tt (0 : Int32)) tt (own_brs [(nar .byte (own_draw p1)), (nar .byte (own_draw p2)), (nar .byte (own_draw p3)), (nar .byte (own_draw p4))] fr tt (0 : Int32)))))] [(.int ea), (.int (own_pos [(nar .byte (own_draw p1)), (nar .byte (own_draw p2)), (nar .byte (own_draw p3)), (nar .byte (own_draw p4))] (own_pos [(nar .byte (own_draw p1)), (nar .byte (own_draw p2)), (nar .byte (own_draw p3)), (nar .byte (own_draw p4))] fr tt (0 : Int32)) tt (own_brs [(nar .byte (own_draw p1)), (nar .byte (own_draw p2)), (nar .byte (own_draw p3)), (nar .byte (own_draw p4))] fr tt (0 : Int32))))]))
    have hc280_36 : (own_pos [(nar .byte (own_draw p1)), (nar .byte (own_draw p2)), (nar .byte (own_draw p3)), (nar .byte (own_draw p4))] (own_pos [(nar .byte (own_draw p1)), (nar .byte (own_draw p2)), (nar .byte (own_draw p3)), (nar .byte (own_draw p4))] fr tt (0 : Int32)) tt (own_brs [(nar .byte (own_draw p1)), (nar .byte (own_draw p2)), (nar .byte (own_draw p3)), (nar .byte (own_draw p4))] fr tt (0 : Int32))) = ea := by rw [hfin.1, hfin.2.1]; exact hfin.2.2.1
    refine Gl.st (fun t k => XS.icmpNo X32.here hx rfl (hb hby at_280) rfl (teq hc280_36).2 k) ?_
    show Gl _ _ _ _ _ _ _ (T32.setTop (mkF m 283 #[.val (.int p1), .val (.int p2), .val (.int p3), .val (.int p4), .val (.int p5), .val (.ref b1), .val (.int uu), .val (.int vv), .val (.int fr), .val (.int tt), .val (.int z89s0), .val (.int ea), .val (.int br), .val (.ref b21), .val (.int (own_pos [(nar .byte (own_draw p1)), (nar .byte (own_draw p2)), (nar .byte (own_draw p3)), (nar .byte (own_draw p4))] fr tt (0 : Int32))), .val (.int (own_at (own_pos [(nar .byte (own_draw p1)), (nar .byte (own_draw p2)), (nar .byte (own_draw p3)), (nar .byte (own_draw p4))] fr tt (0 : Int32)))), .val (.int (own_brkf (own_brs [(nar .byte (own_draw p1)), (nar .byte (own_draw p2)), (nar .byte (own_draw p3)), (nar .byte (own_draw p4))] fr tt (0 : Int32)))), .val (.int (own_pos [(nar .byte (own_draw p1)), (nar .byte (own_draw p2)), (nar .byte (own_draw p3)), (nar .byte (own_draw p4))] (own_pos [(nar .byte (own_draw p1)), (nar .byte (own_draw p2)), (nar .byte (own_draw p3)), (nar .byte (own_draw p4))] fr tt (0 : Int32)) tt (own_brs [(nar .byte (own_draw p1)), (nar .byte (own_draw p2)), (nar .byte (own_draw p3)), (nar .byte (own_draw p4))] fr tt (0 : Int32)))), .val (.int (own_at (own_pos [(nar .byte (own_draw p1)), (nar .byte (own_draw p2)), (nar .byte (own_draw p3)), (nar .byte (own_draw p4))] (own_pos [(nar .byte (own_draw p1)), (nar .byte (own_draw p2)), (nar .byte (own_draw p3)), (nar .byte (own_draw p4))] fr tt (0 : Int32)) tt (own_brs [(nar .byte (own_draw p1)), (nar .byte (own_draw p2)), (nar .byte (own_draw p3)), (nar .byte (own_draw p4))] fr tt (0 : Int32))))), .val (.int (own_brkf (own_brs [(nar .byte (own_draw p1)), (nar .byte (own_draw p2)), (nar .byte (own_draw p3)), (nar .byte (own_draw p4))] (own_pos [(nar .byte (own_draw p1)), (nar .byte (own_draw p2)), (nar .byte (own_draw p3)), (nar .byte (own_draw p4))] fr tt (0 : Int32)) tt (own_brs [(nar .byte (own_draw p1)), (nar .byte (own_draw p2)), (nar .byte (own_draw p3)), (nar .byte (own_draw p4))] fr tt (0 : Int32)))))] []))
    refine Gl.st (fun t k => XS.iload X32.here hx rfl (hb hby at_283) rfl  k) ?_
    show Gl _ _ _ _ _ _ _ (T32.setTop (mkF m 285 #[.val (.int p1), .val (.int p2), .val (.int p3), .val (.int p4), .val (.int p5), .val (.ref b1), .val (.int uu), .val (.int vv), .val (.int fr), .val (.int tt), .val (.int z89s0), .val (.int ea), .val (.int br), .val (.ref b21), .val (.int (own_pos [(nar .byte (own_draw p1)), (nar .byte (own_draw p2)), (nar .byte (own_draw p3)), (nar .byte (own_draw p4))] fr tt (0 : Int32))), .val (.int (own_at (own_pos [(nar .byte (own_draw p1)), (nar .byte (own_draw p2)), (nar .byte (own_draw p3)), (nar .byte (own_draw p4))] fr tt (0 : Int32)))), .val (.int (own_brkf (own_brs [(nar .byte (own_draw p1)), (nar .byte (own_draw p2)), (nar .byte (own_draw p3)), (nar .byte (own_draw p4))] fr tt (0 : Int32)))), .val (.int (own_pos [(nar .byte (own_draw p1)), (nar .byte (own_draw p2)), (nar .byte (own_draw p3)), (nar .byte (own_draw p4))] (own_pos [(nar .byte (own_draw p1)), (nar .byte (own_draw p2)), (nar .byte (own_draw p3)), (nar .byte (own_draw p4))] fr tt (0 : Int32)) tt (own_brs [(nar .byte (own_draw p1)), (nar .byte (own_draw p2)), (nar .byte (own_draw p3)), (nar .byte (own_draw p4))] fr tt (0 : Int32)))), .val (.int (own_at (own_pos [(nar .byte (own_draw p1)), (nar .byte (own_draw p2)), (nar .byte (own_draw p3)), (nar .byte (own_draw p4))] (own_pos [(nar .byte (own_draw p1)), (nar .byte (own_draw p2)), (nar .byte (own_draw p3)), (nar .byte (own_draw p4))] fr tt (0 : Int32)) tt (own_brs [(nar .byte (own_draw p1)), (nar .byte (own_draw p2)), (nar .byte (own_draw p3)), (nar .byte (own_draw p4))] fr tt (0 : Int32))))), .val (.int (own_brkf (own_brs [(nar .byte (own_draw p1)), (nar .byte (own_draw p2)), (nar .byte (own_draw p3)), (nar .byte (own_draw p4))] (own_pos [(nar .byte (own_draw p1)), (nar .byte (own_draw p2)), (nar .byte (own_draw p3)), (nar .byte (own_draw p4))] fr tt (0 : Int32)) tt (own_brs [(nar .byte (own_draw p1)), (nar .byte (own_draw p2)), (nar .byte (own_draw p3)), (nar .byte (own_draw p4))] fr tt (0 : Int32)))))] [(.int (own_at (own_pos [(nar .byte (own_draw p1)), (nar .byte (own_draw p2)), (nar .byte (own_draw p3)), (nar .byte (own_draw p4))] (own_pos [(nar .byte (own_draw p1)), (nar .byte (own_draw p2)), (nar .byte (own_draw p3)), (nar .byte (own_draw p4))] fr tt (0 : Int32)) tt (own_brs [(nar .byte (own_draw p1)), (nar .byte (own_draw p2)), (nar .byte (own_draw p3)), (nar .byte (own_draw p4))] fr tt (0 : Int32)))))]))
    refine Gl.st (fun t k => XS.iload X32.here hx rfl (hb hby at_285) rfl  k) ?_
    show Gl _ _ _ _ _ _ _ (T32.setTop (mkF m 287 #[.val (.int p1), .val (.int p2), .val (.int p3), .val (.int p4), .val (.int p5), .val (.ref b1), .val (.int uu), .val (.int vv), .val (.int fr), .val (.int tt), .val (.int z89s0), .val (.int ea), .val (.int br), .val (.ref b21), .val (.int (own_pos [(nar .byte (own_draw p1)), (nar .byte (own_draw p2)), (nar .byte (own_draw p3)), (nar .byte (own_draw p4))] fr tt (0 : Int32))), .val (.int (own_at (own_pos [(nar .byte (own_draw p1)), (nar .byte (own_draw p2)), (nar .byte (own_draw p3)), (nar .byte (own_draw p4))] fr tt (0 : Int32)))), .val (.int (own_brkf (own_brs [(nar .byte (own_draw p1)), (nar .byte (own_draw p2)), (nar .byte (own_draw p3)), (nar .byte (own_draw p4))] fr tt (0 : Int32)))), .val (.int (own_pos [(nar .byte (own_draw p1)), (nar .byte (own_draw p2)), (nar .byte (own_draw p3)), (nar .byte (own_draw p4))] (own_pos [(nar .byte (own_draw p1)), (nar .byte (own_draw p2)), (nar .byte (own_draw p3)), (nar .byte (own_draw p4))] fr tt (0 : Int32)) tt (own_brs [(nar .byte (own_draw p1)), (nar .byte (own_draw p2)), (nar .byte (own_draw p3)), (nar .byte (own_draw p4))] fr tt (0 : Int32)))), .val (.int (own_at (own_pos [(nar .byte (own_draw p1)), (nar .byte (own_draw p2)), (nar .byte (own_draw p3)), (nar .byte (own_draw p4))] (own_pos [(nar .byte (own_draw p1)), (nar .byte (own_draw p2)), (nar .byte (own_draw p3)), (nar .byte (own_draw p4))] fr tt (0 : Int32)) tt (own_brs [(nar .byte (own_draw p1)), (nar .byte (own_draw p2)), (nar .byte (own_draw p3)), (nar .byte (own_draw p4))] fr tt (0 : Int32))))), .val (.int (own_brkf (own_brs [(nar .byte (own_draw p1)), (nar .byte (own_draw p2)), (nar .byte (own_draw p3)), (nar .byte (own_draw p4))] (own_pos [(nar .byte (own_draw p1)), (nar .byte (own_draw p2)), (nar .byte (own_draw p3)), (nar .byte (own_draw p4))] fr tt (0 : Int32)) tt (own_brs [(nar .byte (own_draw p1)), (nar .byte (own_draw p2)), (nar .byte (own_draw p3)), (nar .byte (own_draw p4))] fr tt (0 : Int32)))))] [(.int ea), (.int (own_at (own_pos [(nar .byte (own_draw p1)), (nar .byte (own_draw p2)), (nar .byte (own_draw p3)), (nar .byte (own_draw p4))] (own_pos [(nar .byte (own_draw p1)), (nar .byte (own_draw p2)), (nar .byte (own_draw p3)), (nar .byte (own_draw p4))] fr tt (0 : Int32)) tt (own_brs [(nar .byte (own_draw p1)), (nar .byte (own_draw p2)), (nar .byte (own_draw p3)), (nar .byte (own_draw p4))] fr tt (0 : Int32)))))]))
    have hc287_37 : (own_at (own_pos [(nar .byte (own_draw p1)), (nar .byte (own_draw p2)), (nar .byte (own_draw p3)), (nar .byte (own_draw p4))] (own_pos [(nar .byte (own_draw p1)), (nar .byte (own_draw p2)), (nar .byte (own_draw p3)), (nar .byte (own_draw p4))] fr tt (0 : Int32)) tt (own_brs [(nar .byte (own_draw p1)), (nar .byte (own_draw p2)), (nar .byte (own_draw p3)), (nar .byte (own_draw p4))] fr tt (0 : Int32)))) = ea := by rw [hfin.1, hfin.2.1]; exact hfin.2.2.1
    refine Gl.st (fun t k => XS.icmpNo X32.here hx rfl (hb hby at_287) rfl (teq hc287_37).2 k) ?_
    show Gl _ _ _ _ _ _ _ (T32.setTop (mkF m 290 #[.val (.int p1), .val (.int p2), .val (.int p3), .val (.int p4), .val (.int p5), .val (.ref b1), .val (.int uu), .val (.int vv), .val (.int fr), .val (.int tt), .val (.int z89s0), .val (.int ea), .val (.int br), .val (.ref b21), .val (.int (own_pos [(nar .byte (own_draw p1)), (nar .byte (own_draw p2)), (nar .byte (own_draw p3)), (nar .byte (own_draw p4))] fr tt (0 : Int32))), .val (.int (own_at (own_pos [(nar .byte (own_draw p1)), (nar .byte (own_draw p2)), (nar .byte (own_draw p3)), (nar .byte (own_draw p4))] fr tt (0 : Int32)))), .val (.int (own_brkf (own_brs [(nar .byte (own_draw p1)), (nar .byte (own_draw p2)), (nar .byte (own_draw p3)), (nar .byte (own_draw p4))] fr tt (0 : Int32)))), .val (.int (own_pos [(nar .byte (own_draw p1)), (nar .byte (own_draw p2)), (nar .byte (own_draw p3)), (nar .byte (own_draw p4))] (own_pos [(nar .byte (own_draw p1)), (nar .byte (own_draw p2)), (nar .byte (own_draw p3)), (nar .byte (own_draw p4))] fr tt (0 : Int32)) tt (own_brs [(nar .byte (own_draw p1)), (nar .byte (own_draw p2)), (nar .byte (own_draw p3)), (nar .byte (own_draw p4))] fr tt (0 : Int32)))), .val (.int (own_at (own_pos [(nar .byte (own_draw p1)), (nar .byte (own_draw p2)), (nar .byte (own_draw p3)), (nar .byte (own_draw p4))] (own_pos [(nar .byte (own_draw p1)), (nar .byte (own_draw p2)), (nar .byte (own_draw p3)), (nar .byte (own_draw p4))] fr tt (0 : Int32)) tt (own_brs [(nar .byte (own_draw p1)), (nar .byte (own_draw p2)), (nar .byte (own_draw p3)), (nar .byte (own_draw p4))] fr tt (0 : Int32))))), .val (.int (own_brkf (own_brs [(nar .byte (own_draw p1)), (nar .byte (own_draw p2)), (nar .byte (own_draw p3)), (nar .byte (own_draw p4))] (own_pos [(nar .byte (own_draw p1)), (nar .byte (own_draw p2)), (nar .byte (own_draw p3)), (nar .byte (own_draw p4))] fr tt (0 : Int32)) tt (own_brs [(nar .byte (own_draw p1)), (nar .byte (own_draw p2)), (nar .byte (own_draw p3)), (nar .byte (own_draw p4))] fr tt (0 : Int32)))))] []))
    refine Gl.st (fun t k => XS.iload X32.here hx rfl (hb hby at_290) rfl  k) ?_
    show Gl _ _ _ _ _ _ _ (T32.setTop (mkF m 292 #[.val (.int p1), .val (.int p2), .val (.int p3), .val (.int p4), .val (.int p5), .val (.ref b1), .val (.int uu), .val (.int vv), .val (.int fr), .val (.int tt), .val (.int z89s0), .val (.int ea), .val (.int br), .val (.ref b21), .val (.int (own_pos [(nar .byte (own_draw p1)), (nar .byte (own_draw p2)), (nar .byte (own_draw p3)), (nar .byte (own_draw p4))] fr tt (0 : Int32))), .val (.int (own_at (own_pos [(nar .byte (own_draw p1)), (nar .byte (own_draw p2)), (nar .byte (own_draw p3)), (nar .byte (own_draw p4))] fr tt (0 : Int32)))), .val (.int (own_brkf (own_brs [(nar .byte (own_draw p1)), (nar .byte (own_draw p2)), (nar .byte (own_draw p3)), (nar .byte (own_draw p4))] fr tt (0 : Int32)))), .val (.int (own_pos [(nar .byte (own_draw p1)), (nar .byte (own_draw p2)), (nar .byte (own_draw p3)), (nar .byte (own_draw p4))] (own_pos [(nar .byte (own_draw p1)), (nar .byte (own_draw p2)), (nar .byte (own_draw p3)), (nar .byte (own_draw p4))] fr tt (0 : Int32)) tt (own_brs [(nar .byte (own_draw p1)), (nar .byte (own_draw p2)), (nar .byte (own_draw p3)), (nar .byte (own_draw p4))] fr tt (0 : Int32)))), .val (.int (own_at (own_pos [(nar .byte (own_draw p1)), (nar .byte (own_draw p2)), (nar .byte (own_draw p3)), (nar .byte (own_draw p4))] (own_pos [(nar .byte (own_draw p1)), (nar .byte (own_draw p2)), (nar .byte (own_draw p3)), (nar .byte (own_draw p4))] fr tt (0 : Int32)) tt (own_brs [(nar .byte (own_draw p1)), (nar .byte (own_draw p2)), (nar .byte (own_draw p3)), (nar .byte (own_draw p4))] fr tt (0 : Int32))))), .val (.int (own_brkf (own_brs [(nar .byte (own_draw p1)), (nar .byte (own_draw p2)), (nar .byte (own_draw p3)), (nar .byte (own_draw p4))] (own_pos [(nar .byte (own_draw p1)), (nar .byte (own_draw p2)), (nar .byte (own_draw p3)), (nar .byte (own_draw p4))] fr tt (0 : Int32)) tt (own_brs [(nar .byte (own_draw p1)), (nar .byte (own_draw p2)), (nar .byte (own_draw p3)), (nar .byte (own_draw p4))] fr tt (0 : Int32)))))] [(.int (own_brkf (own_brs [(nar .byte (own_draw p1)), (nar .byte (own_draw p2)), (nar .byte (own_draw p3)), (nar .byte (own_draw p4))] (own_pos [(nar .byte (own_draw p1)), (nar .byte (own_draw p2)), (nar .byte (own_draw p3)), (nar .byte (own_draw p4))] fr tt (0 : Int32)) tt (own_brs [(nar .byte (own_draw p1)), (nar .byte (own_draw p2)), (nar .byte (own_draw p3)), (nar .byte (own_draw p4))] fr tt (0 : Int32)))))]))
    refine Gl.st (fun t k => XS.iload X32.here hx rfl (hb hby at_292) rfl  k) ?_
    show Gl _ _ _ _ _ _ _ (T32.setTop (mkF m 294 #[.val (.int p1), .val (.int p2), .val (.int p3), .val (.int p4), .val (.int p5), .val (.ref b1), .val (.int uu), .val (.int vv), .val (.int fr), .val (.int tt), .val (.int z89s0), .val (.int ea), .val (.int br), .val (.ref b21), .val (.int (own_pos [(nar .byte (own_draw p1)), (nar .byte (own_draw p2)), (nar .byte (own_draw p3)), (nar .byte (own_draw p4))] fr tt (0 : Int32))), .val (.int (own_at (own_pos [(nar .byte (own_draw p1)), (nar .byte (own_draw p2)), (nar .byte (own_draw p3)), (nar .byte (own_draw p4))] fr tt (0 : Int32)))), .val (.int (own_brkf (own_brs [(nar .byte (own_draw p1)), (nar .byte (own_draw p2)), (nar .byte (own_draw p3)), (nar .byte (own_draw p4))] fr tt (0 : Int32)))), .val (.int (own_pos [(nar .byte (own_draw p1)), (nar .byte (own_draw p2)), (nar .byte (own_draw p3)), (nar .byte (own_draw p4))] (own_pos [(nar .byte (own_draw p1)), (nar .byte (own_draw p2)), (nar .byte (own_draw p3)), (nar .byte (own_draw p4))] fr tt (0 : Int32)) tt (own_brs [(nar .byte (own_draw p1)), (nar .byte (own_draw p2)), (nar .byte (own_draw p3)), (nar .byte (own_draw p4))] fr tt (0 : Int32)))), .val (.int (own_at (own_pos [(nar .byte (own_draw p1)), (nar .byte (own_draw p2)), (nar .byte (own_draw p3)), (nar .byte (own_draw p4))] (own_pos [(nar .byte (own_draw p1)), (nar .byte (own_draw p2)), (nar .byte (own_draw p3)), (nar .byte (own_draw p4))] fr tt (0 : Int32)) tt (own_brs [(nar .byte (own_draw p1)), (nar .byte (own_draw p2)), (nar .byte (own_draw p3)), (nar .byte (own_draw p4))] fr tt (0 : Int32))))), .val (.int (own_brkf (own_brs [(nar .byte (own_draw p1)), (nar .byte (own_draw p2)), (nar .byte (own_draw p3)), (nar .byte (own_draw p4))] (own_pos [(nar .byte (own_draw p1)), (nar .byte (own_draw p2)), (nar .byte (own_draw p3)), (nar .byte (own_draw p4))] fr tt (0 : Int32)) tt (own_brs [(nar .byte (own_draw p1)), (nar .byte (own_draw p2)), (nar .byte (own_draw p3)), (nar .byte (own_draw p4))] fr tt (0 : Int32)))))] [(.int br), (.int (own_brkf (own_brs [(nar .byte (own_draw p1)), (nar .byte (own_draw p2)), (nar .byte (own_draw p3)), (nar .byte (own_draw p4))] (own_pos [(nar .byte (own_draw p1)), (nar .byte (own_draw p2)), (nar .byte (own_draw p3)), (nar .byte (own_draw p4))] fr tt (0 : Int32)) tt (own_brs [(nar .byte (own_draw p1)), (nar .byte (own_draw p2)), (nar .byte (own_draw p3)), (nar .byte (own_draw p4))] fr tt (0 : Int32)))))]))
    have hc294_38 : (own_brkf (own_brs [(nar .byte (own_draw p1)), (nar .byte (own_draw p2)), (nar .byte (own_draw p3)), (nar .byte (own_draw p4))] (own_pos [(nar .byte (own_draw p1)), (nar .byte (own_draw p2)), (nar .byte (own_draw p3)), (nar .byte (own_draw p4))] fr tt (0 : Int32)) tt (own_brs [(nar .byte (own_draw p1)), (nar .byte (own_draw p2)), (nar .byte (own_draw p3)), (nar .byte (own_draw p4))] fr tt (0 : Int32)))) = br := by rw [hfin.1, hfin.2.1]; exact hfin.2.2.2
    refine Gl.st (fun t k => XS.icmpNo X32.here hx rfl (hb hby at_294) rfl (teq hc294_38).2 k) ?_
    show Gl _ _ _ _ _ _ _ (T32.setTop (mkF m 297 #[.val (.int p1), .val (.int p2), .val (.int p3), .val (.int p4), .val (.int p5), .val (.ref b1), .val (.int uu), .val (.int vv), .val (.int fr), .val (.int tt), .val (.int z89s0), .val (.int ea), .val (.int br), .val (.ref b21), .val (.int (own_pos [(nar .byte (own_draw p1)), (nar .byte (own_draw p2)), (nar .byte (own_draw p3)), (nar .byte (own_draw p4))] fr tt (0 : Int32))), .val (.int (own_at (own_pos [(nar .byte (own_draw p1)), (nar .byte (own_draw p2)), (nar .byte (own_draw p3)), (nar .byte (own_draw p4))] fr tt (0 : Int32)))), .val (.int (own_brkf (own_brs [(nar .byte (own_draw p1)), (nar .byte (own_draw p2)), (nar .byte (own_draw p3)), (nar .byte (own_draw p4))] fr tt (0 : Int32)))), .val (.int (own_pos [(nar .byte (own_draw p1)), (nar .byte (own_draw p2)), (nar .byte (own_draw p3)), (nar .byte (own_draw p4))] (own_pos [(nar .byte (own_draw p1)), (nar .byte (own_draw p2)), (nar .byte (own_draw p3)), (nar .byte (own_draw p4))] fr tt (0 : Int32)) tt (own_brs [(nar .byte (own_draw p1)), (nar .byte (own_draw p2)), (nar .byte (own_draw p3)), (nar .byte (own_draw p4))] fr tt (0 : Int32)))), .val (.int (own_at (own_pos [(nar .byte (own_draw p1)), (nar .byte (own_draw p2)), (nar .byte (own_draw p3)), (nar .byte (own_draw p4))] (own_pos [(nar .byte (own_draw p1)), (nar .byte (own_draw p2)), (nar .byte (own_draw p3)), (nar .byte (own_draw p4))] fr tt (0 : Int32)) tt (own_brs [(nar .byte (own_draw p1)), (nar .byte (own_draw p2)), (nar .byte (own_draw p3)), (nar .byte (own_draw p4))] fr tt (0 : Int32))))), .val (.int (own_brkf (own_brs [(nar .byte (own_draw p1)), (nar .byte (own_draw p2)), (nar .byte (own_draw p3)), (nar .byte (own_draw p4))] (own_pos [(nar .byte (own_draw p1)), (nar .byte (own_draw p2)), (nar .byte (own_draw p3)), (nar .byte (own_draw p4))] fr tt (0 : Int32)) tt (own_brs [(nar .byte (own_draw p1)), (nar .byte (own_draw p2)), (nar .byte (own_draw p3)), (nar .byte (own_draw p4))] fr tt (0 : Int32)))))] []))
    refine Gl.st (fun t k => XS.iconst X32.here hx rfl (hb hby at_297) k) ?_
    show Gl _ _ _ _ _ _ _ (T32.setTop (mkF m 298 #[.val (.int p1), .val (.int p2), .val (.int p3), .val (.int p4), .val (.int p5), .val (.ref b1), .val (.int uu), .val (.int vv), .val (.int fr), .val (.int tt), .val (.int z89s0), .val (.int ea), .val (.int br), .val (.ref b21), .val (.int (own_pos [(nar .byte (own_draw p1)), (nar .byte (own_draw p2)), (nar .byte (own_draw p3)), (nar .byte (own_draw p4))] fr tt (0 : Int32))), .val (.int (own_at (own_pos [(nar .byte (own_draw p1)), (nar .byte (own_draw p2)), (nar .byte (own_draw p3)), (nar .byte (own_draw p4))] fr tt (0 : Int32)))), .val (.int (own_brkf (own_brs [(nar .byte (own_draw p1)), (nar .byte (own_draw p2)), (nar .byte (own_draw p3)), (nar .byte (own_draw p4))] fr tt (0 : Int32)))), .val (.int (own_pos [(nar .byte (own_draw p1)), (nar .byte (own_draw p2)), (nar .byte (own_draw p3)), (nar .byte (own_draw p4))] (own_pos [(nar .byte (own_draw p1)), (nar .byte (own_draw p2)), (nar .byte (own_draw p3)), (nar .byte (own_draw p4))] fr tt (0 : Int32)) tt (own_brs [(nar .byte (own_draw p1)), (nar .byte (own_draw p2)), (nar .byte (own_draw p3)), (nar .byte (own_draw p4))] fr tt (0 : Int32)))), .val (.int (own_at (own_pos [(nar .byte (own_draw p1)), (nar .byte (own_draw p2)), (nar .byte (own_draw p3)), (nar .byte (own_draw p4))] (own_pos [(nar .byte (own_draw p1)), (nar .byte (own_draw p2)), (nar .byte (own_draw p3)), (nar .byte (own_draw p4))] fr tt (0 : Int32)) tt (own_brs [(nar .byte (own_draw p1)), (nar .byte (own_draw p2)), (nar .byte (own_draw p3)), (nar .byte (own_draw p4))] fr tt (0 : Int32))))), .val (.int (own_brkf (own_brs [(nar .byte (own_draw p1)), (nar .byte (own_draw p2)), (nar .byte (own_draw p3)), (nar .byte (own_draw p4))] (own_pos [(nar .byte (own_draw p1)), (nar .byte (own_draw p2)), (nar .byte (own_draw p3)), (nar .byte (own_draw p4))] fr tt (0 : Int32)) tt (own_brs [(nar .byte (own_draw p1)), (nar .byte (own_draw p2)), (nar .byte (own_draw p3)), (nar .byte (own_draw p4))] fr tt (0 : Int32)))))] [(.int (1 : Int32))]))
    refine Gl.st (fun t k => XS.goto X32.here hx rfl (pc0 := 298) (pc' := 302) rfl (hb hby at_298) (by decide) (by decide) k) ?_
    show Gl _ _ _ _ _ _ _ (T32.setTop (mkF m 302 #[.val (.int p1), .val (.int p2), .val (.int p3), .val (.int p4), .val (.int p5), .val (.ref b1), .val (.int uu), .val (.int vv), .val (.int fr), .val (.int tt), .val (.int z89s0), .val (.int ea), .val (.int br), .val (.ref b21), .val (.int (own_pos [(nar .byte (own_draw p1)), (nar .byte (own_draw p2)), (nar .byte (own_draw p3)), (nar .byte (own_draw p4))] fr tt (0 : Int32))), .val (.int (own_at (own_pos [(nar .byte (own_draw p1)), (nar .byte (own_draw p2)), (nar .byte (own_draw p3)), (nar .byte (own_draw p4))] fr tt (0 : Int32)))), .val (.int (own_brkf (own_brs [(nar .byte (own_draw p1)), (nar .byte (own_draw p2)), (nar .byte (own_draw p3)), (nar .byte (own_draw p4))] fr tt (0 : Int32)))), .val (.int (own_pos [(nar .byte (own_draw p1)), (nar .byte (own_draw p2)), (nar .byte (own_draw p3)), (nar .byte (own_draw p4))] (own_pos [(nar .byte (own_draw p1)), (nar .byte (own_draw p2)), (nar .byte (own_draw p3)), (nar .byte (own_draw p4))] fr tt (0 : Int32)) tt (own_brs [(nar .byte (own_draw p1)), (nar .byte (own_draw p2)), (nar .byte (own_draw p3)), (nar .byte (own_draw p4))] fr tt (0 : Int32)))), .val (.int (own_at (own_pos [(nar .byte (own_draw p1)), (nar .byte (own_draw p2)), (nar .byte (own_draw p3)), (nar .byte (own_draw p4))] (own_pos [(nar .byte (own_draw p1)), (nar .byte (own_draw p2)), (nar .byte (own_draw p3)), (nar .byte (own_draw p4))] fr tt (0 : Int32)) tt (own_brs [(nar .byte (own_draw p1)), (nar .byte (own_draw p2)), (nar .byte (own_draw p3)), (nar .byte (own_draw p4))] fr tt (0 : Int32))))), .val (.int (own_brkf (own_brs [(nar .byte (own_draw p1)), (nar .byte (own_draw p2)), (nar .byte (own_draw p3)), (nar .byte (own_draw p4))] (own_pos [(nar .byte (own_draw p1)), (nar .byte (own_draw p2)), (nar .byte (own_draw p3)), (nar .byte (own_draw p4))] fr tt (0 : Int32)) tt (own_brs [(nar .byte (own_draw p1)), (nar .byte (own_draw p2)), (nar .byte (own_draw p3)), (nar .byte (own_draw p4))] fr tt (0 : Int32)))))] [(.int (1 : Int32))]))
    exact Gl.retN X32 hx hlk Bd.returns (by simp) (hb hby at_302) (⟨rfl, N32⟩) (by decide) (by decide)
  by_cases hc81 : (((p5.toUInt32 >>> ((16 : Int32) &&& 31).toUInt32).toInt32) &&& (1 : Int32)) = (0 : Int32)
  · refine Gl.st (fun t k => XS.ifYes X11.here hx rfl (pc0 := 81) (pc' := 88) rfl (hb hby at_81) rfl ((if0 _ _).trans (teq hc81).1) (by decide) (by decide) k) ?_
    show Gl _ _ _ _ _ _ _ (T11.setTop (mkF m 88 #[.val (.int p1), .val (.int p2), .val (.int p3), .val (.int p4), .val (.int p5), .val (.ref b1), .val (.int uu), .val (.int vv), .val (.int fr), .val (.int tt), .unset, .unset, .unset, .unset, .unset, .unset, .unset, .unset, .unset, .unset] []))
    refine Gl.st (fun t k => XS.iconst X11.here hx rfl (hb hby at_88) k) ?_
    show Gl _ _ _ _ _ _ _ (T11.setTop (mkF m 89 #[.val (.int p1), .val (.int p2), .val (.int p3), .val (.int p4), .val (.int p5), .val (.ref b1), .val (.int uu), .val (.int vv), .val (.int fr), .val (.int tt), .unset, .unset, .unset, .unset, .unset, .unset, .unset, .unset, .unset, .unset] [(.int (0 : Int32))]))
    exact J12 _ _ X11 e11 N11 _ (by simp only [if_pos hc81])
  · refine Gl.st (fun t k => XS.ifNo X11.here hx rfl (hb hby at_81) rfl ((if0 _ _).trans (feq hc81).1) k) ?_
    show Gl _ _ _ _ _ _ _ (T11.setTop (mkF m 84 #[.val (.int p1), .val (.int p2), .val (.int p3), .val (.int p4), .val (.int p5), .val (.ref b1), .val (.int uu), .val (.int vv), .val (.int fr), .val (.int tt), .unset, .unset, .unset, .unset, .unset, .unset, .unset, .unset, .unset, .unset] []))
    refine Gl.st (fun t k => XS.iconst X11.here hx rfl (hb hby at_84) k) ?_
    show Gl _ _ _ _ _ _ _ (T11.setTop (mkF m 85 #[.val (.int p1), .val (.int p2), .val (.int p3), .val (.int p4), .val (.int p5), .val (.ref b1), .val (.int uu), .val (.int vv), .val (.int fr), .val (.int tt), .unset, .unset, .unset, .unset, .unset, .unset, .unset, .unset, .unset, .unset] [(.int (1 : Int32))]))
    refine Gl.st (fun t k => XS.goto X11.here hx rfl (pc0 := 85) (pc' := 89) rfl (hb hby at_85) (by decide) (by decide) k) ?_
    show Gl _ _ _ _ _ _ _ (T11.setTop (mkF m 89 #[.val (.int p1), .val (.int p2), .val (.int p3), .val (.int p4), .val (.int p5), .val (.ref b1), .val (.int uu), .val (.int vv), .val (.int fr), .val (.int tt), .unset, .unset, .unset, .unset, .unset, .unset, .unset, .unset, .unset, .unset] [(.int (1 : Int32))]))
    exact J12 _ _ X11 e11 N11 _ (by simp only [if_neg hc81])
set_option maxRecDepth 65536 in
set_option maxHeartbeats 40000000 in
theorem comes_1 {Post : Tables → Env → Array Value → State → Outcome → State → Prop} (hpost : ∀ tb e args s v u, (limb_1_1.after args s (.returned v) u = true ∧ limb_1_2.after args s (.returned v) u = true ∧ True) → FrameEnd s (.returned v) u (Jvm.fieldLocs frame_1_writes args s ++ Jvm.arrayLocs frame_1_arrays args s ++ Jvm.staticLocs frame_1_statics s) 16 128 → Post tb e args s (.returned v) u) :
    ArmFor flags0 classFile x code maxLocals ret World_1 tables_1 room_1 Calls_1 rest_1 Pre_1 Post := by
  intro l hfl _ _ p e ha hc hk s m args below hf hA hF happ hP
  obtain ⟨hcalls, hrest, hpre⟩ := hP
  obtain ⟨-, -, -, hnamed, -, -, -, hat⟩ := (Spec.applies_iff hf).mp happ
  obtain ⟨hg, hn⟩ := and_e (Cond.before_iff.mp (show (Jvm.Cond.and given_1 narrow_1).before args s = true from hpre))
  obtain ⟨hcnt, hr0⟩ := and_e hg
  obtain ⟨ha0, hr1⟩ := and_e hr0
  obtain ⟨ha1, hr2⟩ := and_e hr1
  obtain ⟨ha2, hr3⟩ := and_e hr2
  obtain ⟨ha3, hr4⟩ := and_e hr3
  have ha4 := hr4
  obtain ⟨w0, w1, w2, w3, w4, rfl⟩ : ∃ w0 w1 w2 w3 w4 : Value, args = #[w0, w1, w2, w3, w4] := by
    have hs : args.size = 5 := by simpa [Cond.value, given_1] using hcnt
    obtain ⟨L⟩ := args
    match L, hs with
    | [w0, w1, w2, w3, w4], _ => exact ⟨w0, w1, w2, w3, w4, rfl⟩
  have hw := fun d (hd : d ∈ tables_1) => atoms_spec (ws := Jvm.Cond.code x code maxLocals ret :: tables_1) hat d (List.mem_cons_of_mem _ hd)
  obtain ⟨i0, ei0⟩ := is_v ha0
  obtain rfl : w0 = (.int i0) := Option.some.inj ei0
  obtain ⟨i1, ei1⟩ := is_v ha1
  obtain rfl : w1 = (.int i1) := Option.some.inj ei1
  obtain ⟨i2, ei2⟩ := is_v ha2
  obtain rfl : w2 = (.int i2) := Option.some.inj ei2
  obtain ⟨i3, ei3⟩ := is_v ha3
  obtain rfl : w3 = (.int i3) := Option.some.inj ei3
  obtain ⟨i4, ei4⟩ := is_v ha4
  obtain rfl : w4 = (.int i4) := Option.some.inj ei4
  obtain ⟨n, o, h1, h2, h3, _, L, rfl, ⟨rfl, N⟩, hq⟩ := rm0 l s _ hw tables_1 i0 i1 i2 i3 i4 s.heap s.heap.size (Nat.le_refl _) p e ha hc hk s m _ below hf ((Spec.applies_iff_loose hf).mp happ).1 ⟨rfl, State.Warmed39.refl s, rfl⟩ trivial
  refine ⟨n, _, h1, h2, h3, hpost _ _ _ _ _ _ ⟨Cond.after_iff.mpr rfl, Cond.after_iff.mpr (eq_i res_at (Term.int_eval (1)) rfl), trivial⟩ ⟨hq.1, hq.2.1, (hq.2.2.sift fun y hy => Or.inr (N y hy)).mono (by decide) (by decide)⟩⟩
theorem main_1_1 : Claimed_1_1 := comes_1 fun _ _ _ _ _ _ h hF => ⟨h.1, hF⟩
theorem main_1_2 : Claimed_1_2 := comes_1 fun _ _ _ _ _ _ h hF => ⟨h.2.1, hF⟩
end Jvm.Pilot.@@N@@
namespace Jvm.Pilot.@@N@@
open Jvm Jvm.ClassFile Sem Op Lib Jvm.Free Jvm.Stand Jvm.Pilot.@@N@@.Jvm.D
/-! MADE BY PROGRAM (witnessworld.py) out of the Statement's table words and the real class files: 10 classes; the members and pool entries that the words name. The judged class is class 1, her method 6. -/
namespace start1
open Jvm.ClassFile
def u (s : String) : CpInfo := .utf8 (stringToUtf16 s)
/-- a pool by its gaps: so many unusable entries, then the entry; so many at the end -/
def gap : Nat → List CpInfo → List CpInfo
  | 0, r => r
  | n + 1, r => .unusable :: gap n r
def poolList (es : List (Nat × CpInfo)) (last : Nat) : List CpInfo := es.foldr (fun e r => gap e.1 (e.2 :: r)) (gap last [])
def pool (es : List (Nat × CpInfo)) (last : Nat) : Array CpInfo := ⟨poolList es last⟩
def fileOf (pool : Array CpInfo) (this : Nat) (attrs : Array Attribute := #[]) (ms : Array MethodInfo := #[]) (fl : Nat := 33) (sup : Nat := 0) (ifs : Array Nat := #[]) (fds : Array FieldInfo := #[]) : ClassFile where
  minorVersion := 0
  majorVersion := 65
  constantPool := pool
  accessFlags := fl
  thisClass := this
  superClass := sup
  interfaces := ifs
  fields := fds
  methods := ms
  attributes := attrs
def plain (name : String) (sup : Option ClassId) : Class where
  name := name
  kind := .ordinary
  loader := none
  accessFlags := 33
  super := sup
  interfaces := #[]
  cf := none
  fields := #[]
  methods := #[]
  instanceTypes := #[]
  staticTypes := #[]
  resolved := #[]
  callSites := []
  init := .initialized
  statics := none
  mirror := none

def pool0 : Array CpInfo := pool [(5, u "<init>"), (0, u "()V"), (1, .class_ 10), (1, u "java/lang/Object")] 113

def k0c0 : Code := { maxStack := 0, maxLocals := 1, code := object_method_1_code, exceptionTable := #[], attributes := #[] }
def k0m0 : Method := { name := "<init>", desc := "()V", sig := { parameters := [], returnType := none }, accessFlags := 1, code := some k0c0 }
/-- java/lang/Object -/
def k0 : Class := { plain "java/lang/Object" none with
  accessFlags := 33
  interfaces := #[]
  cf := some (fileOf pool0 8 #[] #[{ accessFlags := 1, nameIndex := 5, descriptorIndex := 6, attributes := #[] }] 33 0 #[] #[])
  fields := #[]
  methods := #[k0m0]
  instanceTypes := #[]
  staticTypes := #[]
  resolved := Array.replicate 124 none
  statics := none }

def pool1 : Array CpInfo := pool [(2, .class_ 4), (1, u "java/lang/Object"), (0, u "<init>"), (0, u "()V"), (0, .methodref 8 9), (0, .class_ 10), (0, .nameAndType 11 12), (0, u "com/example/millrace/millrace/ParserSkipSpacePinLaw"), (0, u "ws"), (0, u "(B)Z"), (0, .methodref 8 14), (0, .nameAndType 15 12), (0, u "brk"), (0, .methodref 8 17), (0, .nameAndType 18 19), (0, u "draw"), (0, u "(I)B"), (0, .methodref 21 22), (0, .class_ 23), (0, .nameAndType 24 25), (0, u "java/lang/Math"), (0, u "min"), (0, u "(II)I"), (0, .methodref 21 27), (0, .nameAndType 28 25), (0, u "max"), (0, .methodref 8 30), (0, .nameAndType 31 32), (0, u "stopAt"), (0, u "([BIIII)I"), (0, .methodref 8 34), (0, .nameAndType 35 36), (0, u "breakAt"), (0, u "([BIII)I"), (0, .class_ 38), (0, u "com/example/millrace/millrace/JsonObject$Parser"), (0, .methodref 37 40), (0, .nameAndType 5 41), (0, u "([BIIZ)V"), (0, .methodref 37 43), (0, .nameAndType 44 45), (0, u "skipSpace"), (0, u "()I"), (0, .methodref 37 47), (0, .nameAndType 48 45), (0, u "at"), (0, .methodref 37 50), (0, .nameAndType 51 45), (0, u "breaks"), (3, u "law"), (0, u "(IIIII)Z")] 8

def k1m0 : Method := { name := "<init>", desc := "()V", sig := { parameters := [], returnType := none }, accessFlags := 1, code := none }
def k1c1 : Code := { maxStack := 2, maxLocals := 2, code := method_2_code, exceptionTable := #[], attributes := #[] }
def k1m1 : Method := { name := "draw", desc := "(I)B", sig := { parameters := [.int], returnType := some .byte }, accessFlags := 10, code := some k1c1 }
def k1c2 : Code := { maxStack := 2, maxLocals := 1, code := method_3_code, exceptionTable := #[], attributes := #[] }
def k1m2 : Method := { name := "ws", desc := "(B)Z", sig := { parameters := [.byte], returnType := some .boolean }, accessFlags := 10, code := some k1c2 }
def k1c3 : Code := { maxStack := 2, maxLocals := 1, code := method_4_code, exceptionTable := #[], attributes := #[] }
def k1m3 : Method := { name := "brk", desc := "(B)Z", sig := { parameters := [.byte], returnType := some .boolean }, accessFlags := 10, code := some k1c3 }
def k1c4 : Code := { maxStack := 2, maxLocals := 5, code := method_5_code, exceptionTable := #[], attributes := #[] }
def k1m4 : Method := { name := "stopAt", desc := "([BIIII)I", sig := { parameters := [(.array .byte), .int, .int, .int, .int], returnType := some .int }, accessFlags := 10, code := some k1c4 }
def k1c5 : Code := { maxStack := 2, maxLocals := 4, code := method_6_code, exceptionTable := #[], attributes := #[] }
def k1m5 : Method := { name := "breakAt", desc := "([BIII)I", sig := { parameters := [(.array .byte), .int, .int, .int], returnType := some .int }, accessFlags := 10, code := some k1c5 }
def k1c6 : Code := { maxStack := 6, maxLocals := 20, code := code, exceptionTable := #[], attributes := #[] }
def k1m6 : Method := { name := "law", desc := "(IIIII)Z", sig := { parameters := [.int, .int, .int, .int, .int], returnType := some .boolean }, accessFlags := 9, code := some k1c6 }
/-- com/example/millrace/millrace/ParserSkipSpacePinLaw -/
def k1 : Class := { plain "com/example/millrace/millrace/ParserSkipSpacePinLaw" (some 0) with
  accessFlags := 49
  interfaces := #[]
  cf := some (fileOf pool1 8 #[] #[{ accessFlags := 1, nameIndex := 5, descriptorIndex := 6, attributes := #[] }, { accessFlags := 10, nameIndex := 18, descriptorIndex := 19, attributes := #[] }, { accessFlags := 10, nameIndex := 11, descriptorIndex := 12, attributes := #[] }, { accessFlags := 10, nameIndex := 15, descriptorIndex := 12, attributes := #[] }, { accessFlags := 10, nameIndex := 31, descriptorIndex := 32, attributes := #[] }, { accessFlags := 10, nameIndex := 35, descriptorIndex := 36, attributes := #[] }, { accessFlags := 9, nameIndex := 55, descriptorIndex := 56, attributes := #[] }] 49 2 #[] #[])
  fields := #[]
  methods := #[k1m0, k1m1, k1m2, k1m3, k1m4, k1m5, k1m6]
  instanceTypes := #[]
  staticTypes := #[]
  resolved := Array.replicate 65 none
  statics := none }

def pool2 : Array CpInfo := pool [(1, .class_ 2), (0, u "java/lang/Math"), (1, .class_ 6), (1, u "java/lang/Object"), (0, u "<init>"), (0, u "()V"), (89, .class_ 100), (1, u "java/lang/Math$RandomNumberGeneratorHolder"), (71, u "negativeZeroFloatBits"), (0, u "J"), (2, u "negativeZeroDoubleBits"), (21, u "max"), (2, u "min"), (43, u "$assertionsDisabled"), (0, u "Z"), (88, u "(II)I"), (2, u "twoToTheDoubleScaleDown"), (0, u "D"), (4, u "twoToTheDoubleScaleUp"), (9, u "E"), (3, u "PI"), (2, u "TAU"), (2, u "DEGREES_TO_RADIANS"), (0, u "RADIANS_TO_DEGREES")] 94

def k2m0 : Method := { name := "<init>", desc := "()V", sig := { parameters := [], returnType := none }, accessFlags := 2, code := none }
def k2c1 : Code := { maxStack := 2, maxLocals := 2, code := jdk_29_method_65_code, exceptionTable := #[], attributes := #[] }
def k2m1 : Method := { name := "max", desc := "(II)I", sig := { parameters := [.int, .int], returnType := some .int }, accessFlags := 9, code := some k2c1 }
def k2c2 : Code := { maxStack := 2, maxLocals := 2, code := jdk_29_method_69_code, exceptionTable := #[], attributes := #[] }
def k2m2 : Method := { name := "min", desc := "(II)I", sig := { parameters := [.int, .int], returnType := some .int }, accessFlags := 9, code := some k2c2 }
/-- java/lang/Math -/
def k2 : Class := { plain "java/lang/Math" (some 0) with
  accessFlags := 49
  interfaces := #[]
  cf := some (fileOf pool2 1 #[.nestMembers #[98]] #[{ accessFlags := 2, nameIndex := 7, descriptorIndex := 8, attributes := #[] }, { accessFlags := 9, nameIndex := 198, descriptorIndex := 335, attributes := #[] }, { accessFlags := 9, nameIndex := 201, descriptorIndex := 335, attributes := #[] }] 49 4 #[] #[{ accessFlags := 25, nameIndex := 354, descriptorIndex := 339, attributes := #[] }, { accessFlags := 25, nameIndex := 358, descriptorIndex := 339, attributes := #[] }, { accessFlags := 25, nameIndex := 361, descriptorIndex := 339, attributes := #[] }, { accessFlags := 26, nameIndex := 364, descriptorIndex := 339, attributes := #[] }, { accessFlags := 26, nameIndex := 365, descriptorIndex := 339, attributes := #[] }, { accessFlags := 26, nameIndex := 172, descriptorIndex := 173, attributes := #[] }, { accessFlags := 26, nameIndex := 176, descriptorIndex := 173, attributes := #[] }, { accessFlags := 8, nameIndex := 344, descriptorIndex := 339, attributes := #[] }, { accessFlags := 8, nameIndex := 338, descriptorIndex := 339, attributes := #[] }, { accessFlags := 4120, nameIndex := 245, descriptorIndex := 246, attributes := #[] }])
  fields := #[{ name := "E", type := .double, accessFlags := 25, slot := 0, constantValue := 0 }, { name := "PI", type := .double, accessFlags := 25, slot := 1, constantValue := 0 }, { name := "TAU", type := .double, accessFlags := 25, slot := 2, constantValue := 0 }, { name := "DEGREES_TO_RADIANS", type := .double, accessFlags := 26, slot := 3, constantValue := 0 }, { name := "RADIANS_TO_DEGREES", type := .double, accessFlags := 26, slot := 4, constantValue := 0 }, { name := "negativeZeroFloatBits", type := .long, accessFlags := 26, slot := 5, constantValue := 0 }, { name := "negativeZeroDoubleBits", type := .long, accessFlags := 26, slot := 6, constantValue := 0 }, { name := "twoToTheDoubleScaleUp", type := .double, accessFlags := 8, slot := 7, constantValue := 0 }, { name := "twoToTheDoubleScaleDown", type := .double, accessFlags := 8, slot := 8, constantValue := 0 }, { name := "$assertionsDisabled", type := .boolean, accessFlags := 4120, slot := 9, constantValue := 0 }]
  methods := #[k2m0, k2m1, k2m2]
  instanceTypes := #[]
  staticTypes := #[.double, .double, .double, .double, .double, .long, .long, .double, .double, .boolean]
  resolved := Array.replicate 460 none
  statics := none }

def pool3 : Array CpInfo := pool [(1, .class_ 2), (0, u "com/example/millrace/millrace/JsonObject"), (0, .methodref 4 5), (0, .class_ 6), (0, .nameAndType 7 8), (0, u "java/lang/Object"), (0, u "<init>"), (0, u "()V"), (0, .fieldref 10 11), (0, .class_ 12), (0, .nameAndType 13 14), (0, u "com/example/millrace/millrace/JsonObject$Parser"), (0, u "text"), (0, u "[B"), (0, .fieldref 10 16), (0, .nameAndType 17 18), (0, u "at"), (0, u "I"), (0, .fieldref 10 20), (0, .nameAndType 21 18), (0, u "end"), (0, .fieldref 10 23), (0, .nameAndType 24 25), (0, u "build"), (0, u "Z"), (0, .fieldref 10 27), (0, .nameAndType 28 18), (0, u "breaks"), (8, u "skipSpace"), (0, u "()I"), (179, u "([BIIZ)V")] 35

def k3c0 : Code := { maxStack := 2, maxLocals := 5, code := prog_32_method_1_code, exceptionTable := #[], attributes := #[] }
def k3m0 : Method := { name := "<init>", desc := "([BIIZ)V", sig := { parameters := [(.array .byte), .int, .int, .boolean], returnType := none }, accessFlags := 1, code := some k3c0 }
def k3c1 : Code := { maxStack := 1, maxLocals := 1, code := prog_32_method_2_code, exceptionTable := #[], attributes := #[] }
def k3m1 : Method := { name := "at", desc := "()I", sig := { parameters := [], returnType := some .int }, accessFlags := 1, code := some k3c1 }
def k3c2 : Code := { maxStack := 1, maxLocals := 1, code := prog_32_method_3_code, exceptionTable := #[], attributes := #[] }
def k3m2 : Method := { name := "breaks", desc := "()I", sig := { parameters := [], returnType := some .int }, accessFlags := 1, code := some k3c2 }
def k3c3 : Code := { maxStack := 4, maxLocals := 1, code := prog_32_method_23_code, exceptionTable := #[], attributes := #[] }
def k3m3 : Method := { name := "skipSpace", desc := "()I", sig := { parameters := [], returnType := some .int }, accessFlags := 1, code := some k3c3 }
/-- com/example/millrace/millrace/JsonObject$Parser -/
def k3 : Class := { plain "com/example/millrace/millrace/JsonObject$Parser" (some 0) with
  accessFlags := 49
  interfaces := #[]
  cf := some (fileOf pool3 10 #[.nestHost 1] #[{ accessFlags := 1, nameIndex := 7, descriptorIndex := 218, attributes := #[] }, { accessFlags := 1, nameIndex := 17, descriptorIndex := 38, attributes := #[] }, { accessFlags := 1, nameIndex := 28, descriptorIndex := 38, attributes := #[] }, { accessFlags := 1, nameIndex := 37, descriptorIndex := 38, attributes := #[] }] 49 4 #[] #[{ accessFlags := 18, nameIndex := 13, descriptorIndex := 14, attributes := #[] }, { accessFlags := 18, nameIndex := 21, descriptorIndex := 18, attributes := #[] }, { accessFlags := 2, nameIndex := 24, descriptorIndex := 25, attributes := #[] }, { accessFlags := 2, nameIndex := 17, descriptorIndex := 18, attributes := #[] }, { accessFlags := 2, nameIndex := 28, descriptorIndex := 18, attributes := #[] }])
  fields := #[{ name := "text", type := (.array .byte), accessFlags := 18, slot := 0, constantValue := 0 }, { name := "end", type := .int, accessFlags := 18, slot := 1, constantValue := 0 }, { name := "build", type := .boolean, accessFlags := 2, slot := 2, constantValue := 0 }, { name := "at", type := .int, accessFlags := 2, slot := 3, constantValue := 0 }, { name := "breaks", type := .int, accessFlags := 2, slot := 4, constantValue := 0 }]
  methods := #[k3m0, k3m1, k3m2, k3m3]
  instanceTypes := #[(.array .byte), .int, .boolean, .int, .int]
  staticTypes := #[]
  resolved := Array.replicate 254 none
  statics := none }

def pool4 : Array CpInfo := pool [(1, u "java/lang/Cloneable"), (0, .class_ 1), (0, u "java/lang/Object"), (0, .class_ 3)] 3

/-- java/lang/Cloneable -/
def k4 : Class := { plain "java/lang/Cloneable" (some 0) with
  accessFlags := 1537
  interfaces := #[]
  cf := some (fileOf pool4 2 #[] #[] 1537 4 #[] #[])
  fields := #[]
  methods := #[]
  instanceTypes := #[]
  staticTypes := #[]
  resolved := Array.replicate 8 none
  statics := none }

def pool5 : Array CpInfo := pool [(1, u "java/io/Serializable"), (0, .class_ 1), (0, u "java/lang/Object"), (0, .class_ 3)] 3

/-- java/io/Serializable -/
def k5 : Class := { plain "java/io/Serializable" (some 0) with
  accessFlags := 1537
  interfaces := #[]
  cf := some (fileOf pool5 2 #[] #[] 1537 4 #[] #[])
  fields := #[]
  methods := #[]
  instanceTypes := #[]
  staticTypes := #[]
  resolved := Array.replicate 8 none
  statics := none }

/-- the primitive byte -/
def k6 : Class := { plain "byte" none with kind := .primitive 'B', accessFlags := 0x411 }
/-- [B -/
def k7 : Class := { plain "[B" (some 0) with kind := .array 6 .byte, interfaces := #[4, 5], accessFlags := 1041 }

/-- the primitive int -/
def k8 : Class := { plain "int" none with kind := .primitive 'I', accessFlags := 0x411 }
/-- [I -/
def k9 : Class := { plain "[I" (some 0) with kind := .array 8 .int, interfaces := #[4, 5], accessFlags := 1041 }

def heap : Heap := #[]
def classes : Array Class := #[k0, k1, k2, k3, k4, k5, k6, k7, k8, k9]
def interned : List (Array UInt16 × Addr) := []
def slotsUsed : Nat := 0
def theMethod : MethodId := ⟨1, 6⟩
def args0 : Array Value := #[.int 5, .int 32, .int 0, .int (-7), .int 12345]
def aboutOver (below : List Frame) : State where
  vm := { classes := classes, interned := interned.toArray }
  heap := heap
  slotsUsed := slotsUsed
  threads := #[{ frames := .invoking theMethod args0 :: below }]
def below0 : List Frame := [.native { method := ⟨0, 0⟩, args := #[] }]
def about1 : State := aboutOver below0
def p0 : Program := .bare "" "" ""
def e0 : Env := launch0.env 0 0 0
theorem w_frames : about1.frames = Frame.invoking theMethod args0 :: below0 := rfl
set_option maxRecDepth 65536 in
theorem w_args : argsFit about1.vm theMethod args0 = true := by decide +kernel
set_option maxRecDepth 65536 in
theorem w_heap : heapFits about1 = true := by decide +kernel
set_option maxRecDepth 65536 in
theorem w_runnable : about1.curStatus? = some .runnable := by decide +kernel
set_option maxRecDepth 65536 in
theorem w_alone : about1.alone = true := by decide +kernel
set_option maxRecDepth 65536 in
theorem w_named : about1.methodNamed? x = some theMethod := by decide +kernel
set_option maxRecDepth 65536 in
theorem w_hears : about1.hears theMethod below0 = true := by decide +kernel
set_option maxRecDepth 65536 in
theorem w_ripe : about1.ripe theMethod args0 below0 = true := by decide +kernel
theorem w_running : about1.status = .running := rfl
set_option maxRecDepth 65536 in
theorem w_room : about1.hasRoom e0.platform room_1 = true :=
  launch0.hasRoom_least _ room_1 (by decide +kernel) (by decide +kernel) (by decide +kernel) (by decide +kernel) (by decide +kernel) (by decide +kernel)
theorem allAtoms_all (ts : List Jvm.Cond) (a : Array Jvm.Value) (st : Jvm.State) : (allAtoms ts).before a st = ts.all (fun c => c.before a st) := by
  induction ts with
  | nil => rfl
  | cons c t ih =>
    show (Jvm.Cond.and c (allAtoms t)).before a st = _
    rw [Jvm.Cond.before_and, ih, List.all_cons]
def words1 : List Jvm.Cond := Jvm.Cond.code x code maxLocals ret :: tables_1
/-- a 'code' word, met by the world's own term for the bytes: nothing is compared byte by byte -/
theorem code_word {y : MethodName} {bytes : ByteArray} {mx : Nat} {rt : Option FieldType} {a : Array Value} {s : State} {m : MethodId} {meth : Method} {c : Code} (h1 : s.methodNamed? y = some m) (h2 : s.vm.method? m = some meth) (h3 : meth.code = some c) (h4 : c.code = bytes)
    (h5 : (c.maxLocals == mx && c.exceptionTable.isEmpty && decide (c.maxStack ≤ mostOperands) && decide (meth.sig.returnType = rt) && !meth.locks && decide (parseMethodDescriptor y.desc = some meth.sig)) = true) : (Jvm.Cond.code y bytes mx rt).before a s = true := by
  simp only [Bool.and_eq_true, beq_iff_eq, Bool.not_eq_true', decide_eq_true_eq] at h5
  obtain ⟨⟨⟨⟨⟨g1, g2⟩, g3⟩, g4⟩, g5⟩, g6⟩ := h5
  simp [Cond.before, Cond.holds, Cond.value, h1, h2, h3, h4, g1, g2, g3, g4, g5, g6]
def isCode : Jvm.Cond → Bool
  | .code _ _ _ _ => true
  | _ => false
theorem all_split {L : List Jvm.Cond} {P : Jvm.Cond → Bool} (h1 : L.all (fun c => isCode c || P c) = true) (h2 : ∀ c ∈ L.filter isCode, P c = true) : L.all P = true := by
  refine List.all_eq_true.mpr fun c hc => ?_
  have h := List.all_eq_true.mp h1 c hc
  rcases Bool.eq_false_or_eq_true (isCode c) with hi | hi
  · exact h2 c (List.mem_filter.mpr ⟨hc, hi⟩)
  · simpa [hi] using h
set_option maxRecDepth 65536 in
theorem w_c0 : (Jvm.Cond.code x code maxLocals ret).before args0 about1 = true := code_word (m := ⟨1, 6⟩) (meth := k1m6) (c := k1c6) (by decide +kernel) rfl rfl rfl (by decide +kernel)
set_option maxRecDepth 65536 in
theorem w_c1 : (Jvm.Cond.code ({ cls := "com/example/millrace/millrace/ParserSkipSpacePinLaw", name := "draw", desc := "(I)B" } : Jvm.MethodName) method_2_code (2 : Nat) (Option.some Jvm.ClassFile.FieldType.byte)).before args0 about1 = true := code_word (m := ⟨1, 1⟩) (meth := k1m1) (c := k1c1) (by decide +kernel) rfl rfl rfl (by decide +kernel)
set_option maxRecDepth 65536 in
theorem w_c2 : (Jvm.Cond.code ({ cls := "java/lang/Math", name := "min", desc := "(II)I" } : Jvm.MethodName) jdk_29_method_69_code (2 : Nat) (Option.some Jvm.ClassFile.FieldType.int)).before args0 about1 = true := code_word (m := ⟨2, 2⟩) (meth := k2m2) (c := k2c2) (by decide +kernel) rfl rfl rfl (by decide +kernel)
set_option maxRecDepth 65536 in
theorem w_c3 : (Jvm.Cond.code ({ cls := "java/lang/Math", name := "max", desc := "(II)I" } : Jvm.MethodName) jdk_29_method_65_code (2 : Nat) (Option.some Jvm.ClassFile.FieldType.int)).before args0 about1 = true := code_word (m := ⟨2, 1⟩) (meth := k2m1) (c := k2c1) (by decide +kernel) rfl rfl rfl (by decide +kernel)
set_option maxRecDepth 65536 in
theorem w_c4 : (Jvm.Cond.code ({ cls := "com/example/millrace/millrace/ParserSkipSpacePinLaw", name := "stopAt", desc := "([BIIII)I" } : Jvm.MethodName) method_5_code (5 : Nat) (Option.some Jvm.ClassFile.FieldType.int)).before args0 about1 = true := code_word (m := ⟨1, 4⟩) (meth := k1m4) (c := k1c4) (by decide +kernel) rfl rfl rfl (by decide +kernel)
set_option maxRecDepth 65536 in
theorem w_c5 : (Jvm.Cond.code ({ cls := "com/example/millrace/millrace/ParserSkipSpacePinLaw", name := "breakAt", desc := "([BIII)I" } : Jvm.MethodName) method_6_code (4 : Nat) (Option.some Jvm.ClassFile.FieldType.int)).before args0 about1 = true := code_word (m := ⟨1, 5⟩) (meth := k1m5) (c := k1c5) (by decide +kernel) rfl rfl rfl (by decide +kernel)
set_option maxRecDepth 65536 in
theorem w_c6 : (Jvm.Cond.code ({ cls := "com/example/millrace/millrace/JsonObject$Parser", name := "<init>", desc := "([BIIZ)V" } : Jvm.MethodName) prog_32_method_1_code (5 : Nat) (Option.none : Option Jvm.ClassFile.FieldType)).before args0 about1 = true := code_word (m := ⟨3, 0⟩) (meth := k3m0) (c := k3c0) (by decide +kernel) rfl rfl rfl (by decide +kernel)
set_option maxRecDepth 65536 in
theorem w_c7 : (Jvm.Cond.code ({ cls := "java/lang/Object", name := "<init>", desc := "()V" } : Jvm.MethodName) object_method_1_code (1 : Nat) (Option.none : Option Jvm.ClassFile.FieldType)).before args0 about1 = true := code_word (m := ⟨0, 0⟩) (meth := k0m0) (c := k0c0) (by decide +kernel) rfl rfl rfl (by decide +kernel)
set_option maxRecDepth 65536 in
theorem w_c8 : (Jvm.Cond.code ({ cls := "com/example/millrace/millrace/JsonObject$Parser", name := "skipSpace", desc := "()I" } : Jvm.MethodName) prog_32_method_23_code (1 : Nat) (Option.some Jvm.ClassFile.FieldType.int)).before args0 about1 = true := code_word (m := ⟨3, 3⟩) (meth := k3m3) (c := k3c3) (by decide +kernel) rfl rfl rfl (by decide +kernel)
set_option maxRecDepth 65536 in
theorem w_c9 : (Jvm.Cond.code ({ cls := "com/example/millrace/millrace/JsonObject$Parser", name := "at", desc := "()I" } : Jvm.MethodName) prog_32_method_2_code (1 : Nat) (Option.some Jvm.ClassFile.FieldType.int)).before args0 about1 = true := code_word (m := ⟨3, 1⟩) (meth := k3m1) (c := k3c1) (by decide +kernel) rfl rfl rfl (by decide +kernel)
set_option maxRecDepth 65536 in
theorem w_c10 : (Jvm.Cond.code ({ cls := "com/example/millrace/millrace/JsonObject$Parser", name := "breaks", desc := "()I" } : Jvm.MethodName) prog_32_method_3_code (1 : Nat) (Option.some Jvm.ClassFile.FieldType.int)).before args0 about1 = true := code_word (m := ⟨3, 2⟩) (meth := k3m2) (c := k3c2) (by decide +kernel) rfl rfl rfl (by decide +kernel)
set_option maxRecDepth 65536 in
theorem w_c11 : (Jvm.Cond.code ({ cls := "com/example/millrace/millrace/ParserSkipSpacePinLaw", name := "ws", desc := "(B)Z" } : Jvm.MethodName) method_3_code (1 : Nat) (Option.some Jvm.ClassFile.FieldType.boolean)).before args0 about1 = true := code_word (m := ⟨1, 2⟩) (meth := k1m2) (c := k1c2) (by decide +kernel) rfl rfl rfl (by decide +kernel)
set_option maxRecDepth 65536 in
theorem w_c12 : (Jvm.Cond.code ({ cls := "com/example/millrace/millrace/ParserSkipSpacePinLaw", name := "brk", desc := "(B)Z" } : Jvm.MethodName) method_4_code (1 : Nat) (Option.some Jvm.ClassFile.FieldType.boolean)).before args0 about1 = true := code_word (m := ⟨1, 3⟩) (meth := k1m3) (c := k1c3) (by decide +kernel) rfl rfl rfl (by decide +kernel)
def codes1 : List Jvm.Cond := [Jvm.Cond.code x code maxLocals ret, Jvm.Cond.code ({ cls := "com/example/millrace/millrace/ParserSkipSpacePinLaw", name := "draw", desc := "(I)B" } : Jvm.MethodName) method_2_code (2 : Nat) (Option.some Jvm.ClassFile.FieldType.byte), Jvm.Cond.code ({ cls := "java/lang/Math", name := "min", desc := "(II)I" } : Jvm.MethodName) jdk_29_method_69_code (2 : Nat) (Option.some Jvm.ClassFile.FieldType.int), Jvm.Cond.code ({ cls := "java/lang/Math", name := "max", desc := "(II)I" } : Jvm.MethodName) jdk_29_method_65_code (2 : Nat) (Option.some Jvm.ClassFile.FieldType.int), Jvm.Cond.code ({ cls := "com/example/millrace/millrace/ParserSkipSpacePinLaw", name := "stopAt", desc := "([BIIII)I" } : Jvm.MethodName) method_5_code (5 : Nat) (Option.some Jvm.ClassFile.FieldType.int), Jvm.Cond.code ({ cls := "com/example/millrace/millrace/ParserSkipSpacePinLaw", name := "breakAt", desc := "([BIII)I" } : Jvm.MethodName) method_6_code (4 : Nat) (Option.some Jvm.ClassFile.FieldType.int), Jvm.Cond.code ({ cls := "com/example/millrace/millrace/JsonObject$Parser", name := "<init>", desc := "([BIIZ)V" } : Jvm.MethodName) prog_32_method_1_code (5 : Nat) (Option.none : Option Jvm.ClassFile.FieldType), Jvm.Cond.code ({ cls := "java/lang/Object", name := "<init>", desc := "()V" } : Jvm.MethodName) object_method_1_code (1 : Nat) (Option.none : Option Jvm.ClassFile.FieldType), Jvm.Cond.code ({ cls := "com/example/millrace/millrace/JsonObject$Parser", name := "skipSpace", desc := "()I" } : Jvm.MethodName) prog_32_method_23_code (1 : Nat) (Option.some Jvm.ClassFile.FieldType.int), Jvm.Cond.code ({ cls := "com/example/millrace/millrace/JsonObject$Parser", name := "at", desc := "()I" } : Jvm.MethodName) prog_32_method_2_code (1 : Nat) (Option.some Jvm.ClassFile.FieldType.int), Jvm.Cond.code ({ cls := "com/example/millrace/millrace/JsonObject$Parser", name := "breaks", desc := "()I" } : Jvm.MethodName) prog_32_method_3_code (1 : Nat) (Option.some Jvm.ClassFile.FieldType.int), Jvm.Cond.code ({ cls := "com/example/millrace/millrace/ParserSkipSpacePinLaw", name := "ws", desc := "(B)Z" } : Jvm.MethodName) method_3_code (1 : Nat) (Option.some Jvm.ClassFile.FieldType.boolean), Jvm.Cond.code ({ cls := "com/example/millrace/millrace/ParserSkipSpacePinLaw", name := "brk", desc := "(B)Z" } : Jvm.MethodName) method_4_code (1 : Nat) (Option.some Jvm.ClassFile.FieldType.boolean)]
set_option maxRecDepth 65536 in
theorem codes_eq : words1.filter isCode = codes1 := rfl
theorem w_codes : ∀ c ∈ words1.filter isCode, c.before args0 about1 = true := by
  rw [codes_eq]
  intro c hc
  simp only [codes1, List.mem_cons, List.not_mem_nil, or_false] at hc
  rcases hc with rfl | rfl | rfl | rfl | rfl | rfl | rfl | rfl | rfl | rfl | rfl | rfl | rfl
  · exact w_c0
  · exact w_c1
  · exact w_c2
  · exact w_c3
  · exact w_c4
  · exact w_c5
  · exact w_c6
  · exact w_c7
  · exact w_c8
  · exact w_c9
  · exact w_c10
  · exact w_c11
  · exact w_c12
set_option maxRecDepth 65536 in
theorem w_t1 : (words1.take 24).all (fun c => isCode c || c.before args0 about1) = true := by decide +kernel
set_option maxRecDepth 65536 in
theorem w_t2 : ((words1.drop 24).take 24).all (fun c => isCode c || c.before args0 about1) = true := by decide +kernel
set_option maxRecDepth 65536 in
theorem w_t3 : ((words1.drop 24).drop 24).all (fun c => isCode c || c.before args0 about1) = true := by decide +kernel
theorem w_tables : (allAtoms (Jvm.Cond.code x code maxLocals ret :: tables_1)).before args0 about1 = true := by
  rw [allAtoms_all]
  show words1.all (fun c => c.before args0 about1) = true
  refine all_split ?_ w_codes
  rw [← List.take_append_drop 24 words1, List.all_append, w_t1, ← List.take_append_drop 24 (words1.drop 24), List.all_append, w_t2, w_t3]
  rfl
set_option maxRecDepth 65536 in
theorem w_case : (Jvm.Cond.and given_1 narrow_1).before args0 about1 = true := by decide +kernel
theorem w_applies : (headSpec (Jvm.Cond.code x code maxLocals ret :: tables_1) room_1).applies x e0.platform about1 = true :=
  (Spec.applies_iff w_frames).mpr ⟨w_running, w_runnable, w_alone, w_named, w_hears, w_ripe, w_room, w_tables⟩
theorem atStart : AtStart classFile x code maxLocals ret World_1 tables_1 room_1 Calls_1 rest_1 Pre_1 launch0 p0 e0 about1 theMethod args0 below0 :=
  ⟨lists_1, trivial, launch0.admits_env _ _ _, launch0.least_env, fairChoices_fair.cas, fairChoices_fair.clock, w_frames, w_args, w_heap, w_applies, trivial, trivial, w_case⟩
end start1
theorem witness_1 : WitnessClaimed_1 := ⟨start1.p0, start1.e0, start1.about1, start1.theMethod, start1.args0, start1.below0, start1.atStart⟩
end Jvm.Pilot.@@N@@
