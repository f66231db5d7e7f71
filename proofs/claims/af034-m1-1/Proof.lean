import JvmDerived
import JvmDerived.Pilot.@@N@@Statement
import JvmDerived.Pilot.@@N@@Code
set_option linter.unusedVariables false
set_option linter.unusedSimpArgs false
namespace Jvm.RoadKit
open Sem ClassFile Op Lib Jvm.Stand Jvm.Free Jvm.LawKit
section New
variable {p : Program} {l : Launch} {e : Env} {R : Room} {s : State} {m : MethodId} {args : Array Value} {below : List Frame} {meth : Method} {c : Code} {T T' : State} {locs : List Loc} {cells slots cs sl : Nat} {Q : Option Value → Heap → List Loc → Prop}
/-- from T the run ends, and Q holds at the end -/
def Gl (p : Program) (e : Env) (below : List Frame) (s : State) (Q : Option Value → Heap → List Loc → Prop) (cs sl : Nat) (T : State) : Prop :=
  ∃ s₂ o, Steps p.tables e below T s₂ ∧ s₂.status = .running ∧ Ended s₂ below o ∧ ∃ v L, o = .returned v ∧ Q v s₂.heap L ∧ FrameEnd s o s₂ L cs sl
theorem Gl.st (k : ∀ t, Steps p.tables e below T' t → Steps p.tables e below T t) (h : Gl p e below s Q cs sl T') : Gl p e below s Q cs sl T := by
  obtain ⟨a, o, h1, r⟩ := h
  exact ⟨a, o, k _ h1, r⟩
theorem Gl.to (k : Steps p.tables e below T T') (h : Gl p e below s Q cs sl T') : Gl p e below s Q cs sl T := Gl.st (fun _ q => k.trans q) h
theorem Gl.fin (X : Stand p l e R s m args below meth c T locs cells slots) {v : Option Value} (hv : meth.sig.returnType = none → v = none) (hlk : meth.locks = false) (hQ : Q v T.heap locs) (hc : cells ≤ cs) (hs : slots ≤ sl) {S0 : State}
    (k : ∀ fs, (∀ (f : JFrame) (acts : List Action), f.method = m → f.locked = none → f.entered = [] → (doReturn e (T.setTop f) acts v).1 = T.setFrames fs) → Steps p.tables e below S0 (T.setFrames fs)) : Gl p e below s Q cs sl S0 := by
  obtain ⟨fs, hr, hrun, hended, hW, hsame⟩ := X.leave hv hlk
  exact ⟨_, _, k fs hr, hrun, hended, v, locs, rfl, hQ, ⟨_, rfl⟩, hW, hsame.mono hc hs⟩
theorem Gl.retN (X : Stand p l e R s m args below meth c T locs cells slots) (hx : p.tables.exec = Jvm.exec) (hlk : meth.locks = false) {pc : Nat} {Ls : Array Slot} {z : Int32} {t : FieldType} {rest : List Value} (hret : meth.sig.returnType = some t) (ht : t = .boolean ∨ t = .byte ∨ t = .char ∨ t = .short)
    (hd : decode c.code pc = .ok (.ireturn, 1)) (hQ : Q (some (.int (nar t z))) T.heap locs) (hc : cells ≤ cs) (hs : slots ≤ sl) : Gl p e below s Q cs sl (T.setTop (mkF m pc Ls (.int z :: rest))) :=
  Gl.fin X (fun h => by rw [hret] at h; cases h) hlk hQ hc hs fun _ hr => Jvm.RoadKit.retN X hx hret ht hd hr
theorem Gl.retI (X : Stand p l e R s m args below meth c T locs cells slots) (hx : p.tables.exec = Jvm.exec) (hlk : meth.locks = false) {pc : Nat} {Ls : Array Slot} {z : Int32} {rest : List Value} (hret : meth.sig.returnType = some .int)
    (hd : decode c.code pc = .ok (.ireturn, 1)) (hQ : Q (some (.int z)) T.heap locs) (hc : cells ≤ cs) (hs : slots ≤ sl) : Gl p e below s Q cs sl (T.setTop (mkF m pc Ls (.int z :: rest))) :=
  Gl.fin X (fun h => by rw [hret] at h; cases h) hlk hQ hc hs fun _ hr => retOut X hx hret rfl (Or.inl ⟨rfl, Or.inl rfl, z, rfl⟩) hd hr
theorem Gl.retJ (X : Stand p l e R s m args below meth c T locs cells slots) (hx : p.tables.exec = Jvm.exec) (hlk : meth.locks = false) {pc : Nat} {Ls : Array Slot} {z : Int64} {rest : List Value} (hret : meth.sig.returnType = some .long)
    (hd : decode c.code pc = .ok (.lreturn, 1)) (hQ : Q (some (.long z)) T.heap locs) (hc : cells ≤ cs) (hs : slots ≤ sl) : Gl p e below s Q cs sl (T.setTop (mkF m pc Ls (.long z :: rest))) :=
  Gl.fin X (fun h => by rw [hret] at h; cases h) hlk hQ hc hs fun _ hr => retOut X hx hret rfl (Or.inr (Or.inl ⟨rfl, rfl, z, rfl⟩)) hd hr
theorem Gl.retV (X : Stand p l e R s m args below meth c T locs cells slots) (hx : p.tables.exec = Jvm.exec) (hlk : meth.locks = false) {pc : Nat} {Ls : Array Slot} (hret : meth.sig.returnType = none)
    (hd : decode c.code pc = .ok (.return_, 1)) (hQ : Q none T.heap locs) (hc : cells ≤ cs) (hs : slots ≤ sl) : Gl p e below s Q cs sl (T.setTop (mkF m pc Ls [])) :=
  Gl.fin X (fun _ => rfl) hlk hQ hc hs fun _ hr => X.returnOut hx hret hd hr
/-- .. where String constants may have been interned -/
def GlW (p : Program) (e : Env) (below : List Frame) (s : State) (Q : Option Value → Heap → List Loc → Prop) (cs sl : Nat) (T : State) : Prop :=
  ∃ s₂ o, Steps p.tables e below T s₂ ∧ s₂.status = .running ∧ Ended s₂ below o ∧ ∃ v L, o = .returned v ∧ Q v s₂.heap L ∧ ReturnedEndW s o s₂ L cs sl
theorem GlW.st (k : ∀ t, Steps p.tables e below T' t → Steps p.tables e below T t) (h : GlW p e below s Q cs sl T') : GlW p e below s Q cs sl T := by
  obtain ⟨a, o, h1, r⟩ := h
  exact ⟨a, o, k _ h1, r⟩
theorem GlW.to (k : Steps p.tables e below T T') (h : GlW p e below s Q cs sl T') : GlW p e below s Q cs sl T := GlW.st (fun _ q => k.trans q) h
theorem GlW.retN {vm₁ : Vm} (X : Stand p l e R (s.setVm vm₁) m args below meth c T locs cells slots) (hx : p.tables.exec = Jvm.exec) {n : Nat} (hS : s.Since vm₁ n) (hn : n ≤ T.heap.size) (hlk : meth.locks = false) {pc : Nat} {Ls : Array Slot} {z : Int32} {t : FieldType} {rest : List Value} (hret : meth.sig.returnType = some t) (ht : t = .boolean ∨ t = .byte ∨ t = .char ∨ t = .short)
    (hd : decode c.code pc = .ok (.ireturn, 1)) (hQ : Q (some (.int (nar t z))) T.heap locs) (hc : cells ≤ cs) (hs : slots ≤ sl) : GlW p e below s Q cs sl (T.setTop (mkF m pc Ls (.int z :: rest))) := by
  obtain ⟨fs, hr, hrun, hended, h1, h2, h3, h4⟩ := X.leaveW hS hn (v := some (.int (nar t z))) (fun h => by rw [hret] at h; cases h) hlk
  exact ⟨_, _, Jvm.RoadKit.retN X hx hret ht hd hr, hrun, hended, _, locs, rfl, hQ, h1, h2, h3, h4.mono hc hs⟩
theorem lc_t {x y : Int64} (h : x < y) : ifCond.holds .lt (lcmpW x y) = true ∧ ifCond.holds .ge (lcmpW x y) = false ∧ ifCond.holds .gt (lcmpW y x) = true ∧ ifCond.holds .le (lcmpW y x) = false :=
  have a := tlt ((lw_lt x y).mpr h)
  have b := tlt ((lw_gt y x).mpr h)
  ⟨(if0 _ _).trans a.1, (if0 _ _).trans a.2.1, (if0 _ _).trans b.2.2.1, (if0 _ _).trans b.2.2.2⟩
theorem lc_f {x y : Int64} (h : ¬ x < y) : ifCond.holds .lt (lcmpW x y) = false ∧ ifCond.holds .ge (lcmpW x y) = true ∧ ifCond.holds .gt (lcmpW y x) = false ∧ ifCond.holds .le (lcmpW y x) = true :=
  have a := flt (fun q => h ((lw_lt x y).mp q))
  have b := flt (fun q => h ((lw_gt y x).mp q))
  ⟨(if0 _ _).trans a.1, (if0 _ _).trans a.2.1, (if0 _ _).trans b.2.2.1, (if0 _ _).trans b.2.2.2⟩
theorem le_t {x y : Int64} (h : x = y) : ifCond.holds .eq (lcmpW x y) = true ∧ ifCond.holds .ne (lcmpW x y) = false :=
  have a := teq ((lw_eq x y).mpr h)
  ⟨(if0 _ _).trans a.1, (if0 _ _).trans a.2⟩
theorem le_f {x y : Int64} (h : ¬ x = y) : ifCond.holds .eq (lcmpW x y) = false ∧ ifCond.holds .ne (lcmpW x y) = true :=
  have a := feq (fun q => h ((lw_eq x y).mp q))
  ⟨(if0 _ _).trans a.1, (if0 _ _).trans a.2⟩
end New
end Jvm.RoadKit
namespace Jvm.Pilot.@@N@@
open Jvm Jvm.ClassFile Sem Op Lib Jvm.Free Jvm.Stand Jvm.LawKit Jvm.RoadKit Bundle Jvm.Pilot.@@N@@.Jvm.D
def own_within (p1 : Int32) : Int32 := (if p1 < (0 : Int32) then (nar .boolean (0 : Int32)) else (if (1440 : Int32) < p1 then (nar .boolean (0 : Int32)) else (nar .boolean (1 : Int32))))
theorem d1_0 : decode prog_7_method_2_code 0 = .ok (.iload_n 0, 1) := by decide +kernel
theorem d1_1 : decode prog_7_method_2_code 1 = .ok (.ifCond .lt 14, 3) := by decide +kernel
theorem d1_4 : decode prog_7_method_2_code 4 = .ok (.iload_n 0, 1) := by decide +kernel
theorem d1_5 : decode prog_7_method_2_code 5 = .ok (.sipush 1440, 3) := by decide +kernel
theorem d1_8 : decode prog_7_method_2_code 8 = .ok (.if_icmp .gt 7, 3) := by decide +kernel
theorem d1_11 : decode prog_7_method_2_code 11 = .ok (.iconst 1, 1) := by decide +kernel
theorem d1_12 : decode prog_7_method_2_code 12 = .ok (.goto 4, 3) := by decide +kernel
theorem d1_15 : decode prog_7_method_2_code 15 = .ok (.iconst 0, 1) := by decide +kernel
theorem d1_16 : decode prog_7_method_2_code 16 = .ok (.ireturn, 1) := by decide +kernel
theorem pf_0 : plainFor (⟨"com/example/tierbook/tierbook/ClockWindow", "withinDay", "(I)Z"⟩ : MethodName) = true := by decide +kernel
def Q1 (Z : State) (p1 : Int32) (h0 : Heap) (n0 : Nat) (v : Option Value) (h : Heap) (L : List Loc) : Prop := v = some (.int (own_within p1)) ∧ Fr n0 L ∧ h = h0
theorem ef_1 (m : MethodId) (p1 : Int32) : entryFrame m #[(.int p1)] 1 = mkF m 0 #[.val (.int p1)] [] := by first | (simp [entryFrame, mkF, argsToLocals, Value.category]; done) | rfl
set_option maxRecDepth 65536 in
set_option maxHeartbeats 40000000 in
theorem rm1 (l : Launch) (Z : State) (a0 : Array Value) (hw : ∀ d ∈ tables_1, d.before a0 Z = true) (ws : List Jvm.Cond) (p1 : Int32) (h0 : Heap) (n0 : Nat) :
    MetFree l (⟨"com/example/tierbook/tierbook/ClockWindow", "withinDay", "(I)Z"⟩ : MethodName) (head1 (Jvm.Cond.code (⟨"com/example/tierbook/tierbook/ClockWindow", "withinDay", "(I)Z"⟩ : MethodName) prog_7_method_2_code 1 (some .boolean) :: ws) ({ frames := 0, cells := 0, slots := 0, locals := 0 } : Room)) (fun a U => a = #[(.int p1)] ∧ Z.Warmed39 U.vm ∧ U.heap = h0) (fun _ _ _ _ _ => True) (fun _ U o U' => ∃ v L, o = .returned v ∧ Q1 Z p1 h0 n0 v U'.heap L ∧ FrameEnd U o U' L ({ frames := 0, cells := 0, slots := 0, locals := 0 } : Room).cells ({ frames := 0, cells := 0, slots := 0, locals := 0 } : Room).slots) := by
  refine MetFree.of_bodySF pf_0 hisR ?_
  intro p e s m args below meth c s₁ Bd hml0 hP hK
  obtain ⟨rfl, hZ, hh⟩ := hP
  have hx := Bd.exec
  have hby := Bd.bytes
  have hlk : meth.locks = false := BodyLoose.notSynchronized Bd
  have hml : c.maxLocals = 1 := hml0
  have hown : s.vm.findClass "com/example/tierbook/tierbook/ClockWindow" = some m.cls := findClass_of_methodNamed Bd.named
  have hnm := (name_of_methodNamed Bd.named Bd.method).1
  have X0 : Stand p l e ({ frames := 0, cells := 0, slots := 0, locals := 0 } : Room) s m #[(.int p1)] below meth c s₁ [] 0 0 := Stand.of_body Bd
  have e0 : s₁.heap = h0 := by rw [← hh, Bd.state]; rfl
  have N0 := Fr.nil n0
  show Gl p e below s (Q1 Z p1 h0 n0) ({ frames := 0, cells := 0, slots := 0, locals := 0 } : Room).cells ({ frames := 0, cells := 0, slots := 0, locals := 0 } : Room).slots (s₁.setTop (entryFrame m #[(.int p1)] 1))
  rw [ef_1]
  show Gl _ _ _ _ _ _ _ (s₁.setTop (mkF m 0 #[.val (.int p1)] []))
  refine Gl.st (fun t k => XS.iloadN X0.here hx rfl (hb hby d1_0) rfl  k) ?_
  show Gl _ _ _ _ _ _ _ (s₁.setTop (mkF m 1 #[.val (.int p1)] [(.int p1)]))
  by_cases hc1 : p1 < (0 : Int32)
  · refine Gl.st (fun t k => XS.ifYes X0.here hx rfl (pc0 := 1) (pc' := 15) rfl (hb hby d1_1) rfl ((if0 _ _).trans (tlt hc1).1) (by decide) (by decide) k) ?_
    show Gl _ _ _ _ _ _ _ (s₁.setTop (mkF m 15 #[.val (.int p1)] []))
    refine Gl.st (fun t k => XS.iconst X0.here hx rfl (hb hby d1_15) k) ?_
    show Gl _ _ _ _ _ _ _ (s₁.setTop (mkF m 16 #[.val (.int p1)] [(.int (0 : Int32))]))
    exact Gl.retN X0 hx hlk Bd.returns (by simp) (hb hby d1_16) (⟨congrArg (fun z => some (Value.int z)) (show (nar .boolean (0 : Int32)) = own_within p1 from by simp only [own_within, if_pos hc1]), N0, e0⟩) (by decide) (by decide)
  · refine Gl.st (fun t k => XS.ifNo X0.here hx rfl (hb hby d1_1) rfl ((if0 _ _).trans (flt hc1).1) k) ?_
    show Gl _ _ _ _ _ _ _ (s₁.setTop (mkF m 4 #[.val (.int p1)] []))
    refine Gl.st (fun t k => XS.iloadN X0.here hx rfl (hb hby d1_4) rfl  k) ?_
    show Gl _ _ _ _ _ _ _ (s₁.setTop (mkF m 5 #[.val (.int p1)] [(.int p1)]))
    refine Gl.st (fun t k => XS.sipush X0.here hx rfl (hb hby d1_5) k) ?_
    show Gl _ _ _ _ _ _ _ (s₁.setTop (mkF m 8 #[.val (.int p1)] [(.int (1440 : Int32)), (.int p1)]))
    by_cases hc8 : (1440 : Int32) < p1
    · refine Gl.st (fun t k => XS.icmpYes X0.here hx rfl (pc0 := 8) (pc' := 15) rfl (hb hby d1_8) rfl (tlt hc8).2.2.1 (by decide) (by decide) k) ?_
      show Gl _ _ _ _ _ _ _ (s₁.setTop (mkF m 15 #[.val (.int p1)] []))
      refine Gl.st (fun t k => XS.iconst X0.here hx rfl (hb hby d1_15) k) ?_
      show Gl _ _ _ _ _ _ _ (s₁.setTop (mkF m 16 #[.val (.int p1)] [(.int (0 : Int32))]))
      exact Gl.retN X0 hx hlk Bd.returns (by simp) (hb hby d1_16) (⟨congrArg (fun z => some (Value.int z)) (show (nar .boolean (0 : Int32)) = own_within p1 from by simp only [own_within, if_neg hc1, if_pos hc8]), N0, e0⟩) (by decide) (by decide)
    · refine Gl.st (fun t k => XS.icmpNo X0.here hx rfl (hb hby d1_8) rfl (flt hc8).2.2.1 k) ?_
      show Gl _ _ _ _ _ _ _ (s₁.setTop (mkF m 11 #[.val (.int p1)] []))
      refine Gl.st (fun t k => XS.iconst X0.here hx rfl (hb hby d1_11) k) ?_
      show Gl _ _ _ _ _ _ _ (s₁.setTop (mkF m 12 #[.val (.int p1)] [(.int (1 : Int32))]))
      refine Gl.st (fun t k => XS.goto X0.here hx rfl (pc0 := 12) (pc' := 16) rfl (hb hby d1_12) (by decide) (by decide) k) ?_
      show Gl _ _ _ _ _ _ _ (s₁.setTop (mkF m 16 #[.val (.int p1)] [(.int (1 : Int32))]))
      exact Gl.retN X0 hx hlk Bd.returns (by simp) (hb hby d1_16) (⟨congrArg (fun z => some (Value.int z)) (show (nar .boolean (1 : Int32)) = own_within p1 from by simp only [own_within, if_neg hc1, if_neg hc8]), N0, e0⟩) (by decide) (by decide)
def own_reading (p1 : Int32) : Int32 := (if p1 < (0 : Int32) then (nar .boolean (0 : Int32)) else (if (p1 / (60 : Int32)) < (24 : Int32) then (nar .boolean (1 : Int32)) else (if (p1 / (60 : Int32)) = (24 : Int32) then (if (p1 % (60 : Int32)) = (0 : Int32) then (nar .boolean (1 : Int32)) else (nar .boolean (0 : Int32))) else (nar .boolean (0 : Int32)))))
theorem d2_0 : decode method_2_code 0 = .ok (.iload_n 0, 1) := by decide +kernel
theorem d2_1 : decode method_2_code 1 = .ok (.ifCond .ge 5, 3) := by decide +kernel
theorem d2_4 : decode method_2_code 4 = .ok (.iconst 0, 1) := by decide +kernel
theorem d2_5 : decode method_2_code 5 = .ok (.ireturn, 1) := by decide +kernel
theorem d2_6 : decode method_2_code 6 = .ok (.iload_n 0, 1) := by decide +kernel
theorem d2_7 : decode method_2_code 7 = .ok (.bipush 60, 2) := by decide +kernel
theorem d2_9 : decode method_2_code 9 = .ok (.idiv, 1) := by decide +kernel
theorem d2_10 : decode method_2_code 10 = .ok (.istore_n 1, 1) := by decide +kernel
theorem d2_11 : decode method_2_code 11 = .ok (.iload_n 0, 1) := by decide +kernel
theorem d2_12 : decode method_2_code 12 = .ok (.bipush 60, 2) := by decide +kernel
theorem d2_14 : decode method_2_code 14 = .ok (.irem, 1) := by decide +kernel
theorem d2_15 : decode method_2_code 15 = .ok (.istore_n 2, 1) := by decide +kernel
theorem d2_16 : decode method_2_code 16 = .ok (.iload_n 1, 1) := by decide +kernel
theorem d2_17 : decode method_2_code 17 = .ok (.bipush 24, 2) := by decide +kernel
theorem d2_19 : decode method_2_code 19 = .ok (.if_icmp .ge 5, 3) := by decide +kernel
theorem d2_22 : decode method_2_code 22 = .ok (.iconst 1, 1) := by decide +kernel
theorem d2_23 : decode method_2_code 23 = .ok (.ireturn, 1) := by decide +kernel
theorem d2_24 : decode method_2_code 24 = .ok (.iload_n 1, 1) := by decide +kernel
theorem d2_25 : decode method_2_code 25 = .ok (.bipush 24, 2) := by decide +kernel
theorem d2_27 : decode method_2_code 27 = .ok (.if_icmp .ne 11, 3) := by decide +kernel
theorem d2_30 : decode method_2_code 30 = .ok (.iload_n 2, 1) := by decide +kernel
theorem d2_31 : decode method_2_code 31 = .ok (.ifCond .ne 7, 3) := by decide +kernel
theorem d2_34 : decode method_2_code 34 = .ok (.iconst 1, 1) := by decide +kernel
theorem d2_35 : decode method_2_code 35 = .ok (.goto 4, 3) := by decide +kernel
theorem d2_38 : decode method_2_code 38 = .ok (.iconst 0, 1) := by decide +kernel
theorem d2_39 : decode method_2_code 39 = .ok (.ireturn, 1) := by decide +kernel
theorem pf_1 : plainFor (⟨"com/example/tierbook/tierbook/ClockWindowWithinDayPinLaw", "reading", "(I)Z"⟩ : MethodName) = true := by decide +kernel
def Q2 (Z : State) (p1 : Int32) (h0 : Heap) (n0 : Nat) (v : Option Value) (h : Heap) (L : List Loc) : Prop := v = some (.int (own_reading p1)) ∧ Fr n0 L ∧ h = h0
theorem ef_2 (m : MethodId) (p1 : Int32) : entryFrame m #[(.int p1)] 3 = mkF m 0 #[.val (.int p1), .unset, .unset] [] := by first | (simp [entryFrame, mkF, argsToLocals, Value.category]; done) | rfl
set_option maxRecDepth 65536 in
set_option maxHeartbeats 40000000 in
theorem rm2 (l : Launch) (Z : State) (a0 : Array Value) (hw : ∀ d ∈ tables_1, d.before a0 Z = true) (ws : List Jvm.Cond) (p1 : Int32) (h0 : Heap) (n0 : Nat) :
    MetFree l (⟨"com/example/tierbook/tierbook/ClockWindowWithinDayPinLaw", "reading", "(I)Z"⟩ : MethodName) (head1 (Jvm.Cond.code (⟨"com/example/tierbook/tierbook/ClockWindowWithinDayPinLaw", "reading", "(I)Z"⟩ : MethodName) method_2_code 3 (some .boolean) :: ws) ({ frames := 0, cells := 0, slots := 0, locals := 0 } : Room)) (fun a U => a = #[(.int p1)] ∧ Z.Warmed39 U.vm ∧ U.heap = h0) (fun _ _ _ _ _ => True) (fun _ U o U' => ∃ v L, o = .returned v ∧ Q2 Z p1 h0 n0 v U'.heap L ∧ FrameEnd U o U' L ({ frames := 0, cells := 0, slots := 0, locals := 0 } : Room).cells ({ frames := 0, cells := 0, slots := 0, locals := 0 } : Room).slots) := by
  refine MetFree.of_bodySF pf_1 hisR ?_
  intro p e s m args below meth c s₁ Bd hml0 hP hK
  obtain ⟨rfl, hZ, hh⟩ := hP
  have hx := Bd.exec
  have hby := Bd.bytes
  have hlk : meth.locks = false := BodyLoose.notSynchronized Bd
  have hml : c.maxLocals = 3 := hml0
  have hown : s.vm.findClass "com/example/tierbook/tierbook/ClockWindowWithinDayPinLaw" = some m.cls := findClass_of_methodNamed Bd.named
  have hnm := (name_of_methodNamed Bd.named Bd.method).1
  have X0 : Stand p l e ({ frames := 0, cells := 0, slots := 0, locals := 0 } : Room) s m #[(.int p1)] below meth c s₁ [] 0 0 := Stand.of_body Bd
  have e0 : s₁.heap = h0 := by rw [← hh, Bd.state]; rfl
  have N0 := Fr.nil n0
  show Gl p e below s (Q2 Z p1 h0 n0) ({ frames := 0, cells := 0, slots := 0, locals := 0 } : Room).cells ({ frames := 0, cells := 0, slots := 0, locals := 0 } : Room).slots (s₁.setTop (entryFrame m #[(.int p1)] 3))
  rw [ef_2]
  show Gl _ _ _ _ _ _ _ (s₁.setTop (mkF m 0 #[.val (.int p1), .unset, .unset] []))
  refine Gl.st (fun t k => XS.iloadN X0.here hx rfl (hb hby d2_0) rfl  k) ?_
  show Gl _ _ _ _ _ _ _ (s₁.setTop (mkF m 1 #[.val (.int p1), .unset, .unset] [(.int p1)]))
  by_cases hc1 : p1 < (0 : Int32)
  · refine Gl.st (fun t k => XS.ifNo X0.here hx rfl (hb hby d2_1) rfl ((if0 _ _).trans (tlt hc1).2.1) k) ?_
    show Gl _ _ _ _ _ _ _ (s₁.setTop (mkF m 4 #[.val (.int p1), .unset, .unset] []))
    refine Gl.st (fun t k => XS.iconst X0.here hx rfl (hb hby d2_4) k) ?_
    show Gl _ _ _ _ _ _ _ (s₁.setTop (mkF m 5 #[.val (.int p1), .unset, .unset] [(.int (0 : Int32))]))
    exact Gl.retN X0 hx hlk Bd.returns (by simp) (hb hby d2_5) (⟨congrArg (fun z => some (Value.int z)) (show (nar .boolean (0 : Int32)) = own_reading p1 from by simp only [own_reading, if_pos hc1]), N0, e0⟩) (by decide) (by decide)
  · refine Gl.st (fun t k => XS.ifYes X0.here hx rfl (pc0 := 1) (pc' := 6) rfl (hb hby d2_1) rfl ((if0 _ _).trans (flt hc1).2.1) (by decide) (by decide) k) ?_
    show Gl _ _ _ _ _ _ _ (s₁.setTop (mkF m 6 #[.val (.int p1), .unset, .unset] []))
    refine Gl.st (fun t k => XS.iloadN X0.here hx rfl (hb hby d2_6) rfl  k) ?_
    show Gl _ _ _ _ _ _ _ (s₁.setTop (mkF m 7 #[.val (.int p1), .unset, .unset] [(.int p1)]))
    refine Gl.st (fun t k => XS.bipush X0.here hx rfl (hb hby d2_7) k) ?_
    show Gl _ _ _ _ _ _ _ (s₁.setTop (mkF m 9 #[.val (.int p1), .unset, .unset] [(.int (60 : Int32)), (.int p1)]))
    refine Gl.st (fun t k => XS.idiv X0.here hx rfl (hb hby d2_9) rfl (by decide) k) ?_
    show Gl _ _ _ _ _ _ _ (s₁.setTop (mkF m 10 #[.val (.int p1), .unset, .unset] [(.int (p1 / (60 : Int32)))]))
    refine Gl.st (fun t k => XS.istoreN X0.here hx rfl (hb hby d2_10) rfl (l' := #[.val (.int p1), .val (.int (p1 / (60 : Int32))), .unset]) rfl k) ?_
    show Gl _ _ _ _ _ _ _ (s₁.setTop (mkF m 11 #[.val (.int p1), .val (.int (p1 / (60 : Int32))), .unset] []))
    refine Gl.st (fun t k => XS.iloadN X0.here hx rfl (hb hby d2_11) rfl  k) ?_
    show Gl _ _ _ _ _ _ _ (s₁.setTop (mkF m 12 #[.val (.int p1), .val (.int (p1 / (60 : Int32))), .unset] [(.int p1)]))
    refine Gl.st (fun t k => XS.bipush X0.here hx rfl (hb hby d2_12) k) ?_
    show Gl _ _ _ _ _ _ _ (s₁.setTop (mkF m 14 #[.val (.int p1), .val (.int (p1 / (60 : Int32))), .unset] [(.int (60 : Int32)), (.int p1)]))
    refine Gl.st (fun t k => iremM X0 hx rfl (hb hby d2_14) rfl (by decide) k) ?_
    show Gl _ _ _ _ _ _ _ (s₁.setTop (mkF m 15 #[.val (.int p1), .val (.int (p1 / (60 : Int32))), .unset] [(.int (p1 % (60 : Int32)))]))
    refine Gl.st (fun t k => XS.istoreN X0.here hx rfl (hb hby d2_15) rfl (l' := #[.val (.int p1), .val (.int (p1 / (60 : Int32))), .val (.int (p1 % (60 : Int32)))]) rfl k) ?_
    show Gl _ _ _ _ _ _ _ (s₁.setTop (mkF m 16 #[.val (.int p1), .val (.int (p1 / (60 : Int32))), .val (.int (p1 % (60 : Int32)))] []))
    refine Gl.st (fun t k => XS.iloadN X0.here hx rfl (hb hby d2_16) rfl  k) ?_
    show Gl _ _ _ _ _ _ _ (s₁.setTop (mkF m 17 #[.val (.int p1), .val (.int (p1 / (60 : Int32))), .val (.int (p1 % (60 : Int32)))] [(.int (p1 / (60 : Int32)))]))
    refine Gl.st (fun t k => XS.bipush X0.here hx rfl (hb hby d2_17) k) ?_
    show Gl _ _ _ _ _ _ _ (s₁.setTop (mkF m 19 #[.val (.int p1), .val (.int (p1 / (60 : Int32))), .val (.int (p1 % (60 : Int32)))] [(.int (24 : Int32)), (.int (p1 / (60 : Int32)))]))
    by_cases hc19 : (p1 / (60 : Int32)) < (24 : Int32)
    · refine Gl.st (fun t k => XS.icmpNo X0.here hx rfl (hb hby d2_19) rfl (tlt hc19).2.1 k) ?_
      show Gl _ _ _ _ _ _ _ (s₁.setTop (mkF m 22 #[.val (.int p1), .val (.int (p1 / (60 : Int32))), .val (.int (p1 % (60 : Int32)))] []))
      refine Gl.st (fun t k => XS.iconst X0.here hx rfl (hb hby d2_22) k) ?_
      show Gl _ _ _ _ _ _ _ (s₁.setTop (mkF m 23 #[.val (.int p1), .val (.int (p1 / (60 : Int32))), .val (.int (p1 % (60 : Int32)))] [(.int (1 : Int32))]))
      exact Gl.retN X0 hx hlk Bd.returns (by simp) (hb hby d2_23) (⟨congrArg (fun z => some (Value.int z)) (show (nar .boolean (1 : Int32)) = own_reading p1 from by simp only [own_reading, if_neg hc1, if_pos hc19]), N0, e0⟩) (by decide) (by decide)
    · refine Gl.st (fun t k => XS.icmpYes X0.here hx rfl (pc0 := 19) (pc' := 24) rfl (hb hby d2_19) rfl (flt hc19).2.1 (by decide) (by decide) k) ?_
      show Gl _ _ _ _ _ _ _ (s₁.setTop (mkF m 24 #[.val (.int p1), .val (.int (p1 / (60 : Int32))), .val (.int (p1 % (60 : Int32)))] []))
      refine Gl.st (fun t k => XS.iloadN X0.here hx rfl (hb hby d2_24) rfl  k) ?_
      show Gl _ _ _ _ _ _ _ (s₁.setTop (mkF m 25 #[.val (.int p1), .val (.int (p1 / (60 : Int32))), .val (.int (p1 % (60 : Int32)))] [(.int (p1 / (60 : Int32)))]))
      refine Gl.st (fun t k => XS.bipush X0.here hx rfl (hb hby d2_25) k) ?_
      show Gl _ _ _ _ _ _ _ (s₁.setTop (mkF m 27 #[.val (.int p1), .val (.int (p1 / (60 : Int32))), .val (.int (p1 % (60 : Int32)))] [(.int (24 : Int32)), (.int (p1 / (60 : Int32)))]))
      by_cases hc27 : (p1 / (60 : Int32)) = (24 : Int32)
      · refine Gl.st (fun t k => XS.icmpNo X0.here hx rfl (hb hby d2_27) rfl (teq hc27).2 k) ?_
        show Gl _ _ _ _ _ _ _ (s₁.setTop (mkF m 30 #[.val (.int p1), .val (.int (p1 / (60 : Int32))), .val (.int (p1 % (60 : Int32)))] []))
        refine Gl.st (fun t k => XS.iloadN X0.here hx rfl (hb hby d2_30) rfl  k) ?_
        show Gl _ _ _ _ _ _ _ (s₁.setTop (mkF m 31 #[.val (.int p1), .val (.int (p1 / (60 : Int32))), .val (.int (p1 % (60 : Int32)))] [(.int (p1 % (60 : Int32)))]))
        by_cases hc31 : (p1 % (60 : Int32)) = (0 : Int32)
        · refine Gl.st (fun t k => XS.ifNo X0.here hx rfl (hb hby d2_31) rfl ((if0 _ _).trans (teq hc31).2) k) ?_
          show Gl _ _ _ _ _ _ _ (s₁.setTop (mkF m 34 #[.val (.int p1), .val (.int (p1 / (60 : Int32))), .val (.int (p1 % (60 : Int32)))] []))
          refine Gl.st (fun t k => XS.iconst X0.here hx rfl (hb hby d2_34) k) ?_
          show Gl _ _ _ _ _ _ _ (s₁.setTop (mkF m 35 #[.val (.int p1), .val (.int (p1 / (60 : Int32))), .val (.int (p1 % (60 : Int32)))] [(.int (1 : Int32))]))
          refine Gl.st (fun t k => XS.goto X0.here hx rfl (pc0 := 35) (pc' := 39) rfl (hb hby d2_35) (by decide) (by decide) k) ?_
          show Gl _ _ _ _ _ _ _ (s₁.setTop (mkF m 39 #[.val (.int p1), .val (.int (p1 / (60 : Int32))), .val (.int (p1 % (60 : Int32)))] [(.int (1 : Int32))]))
          exact Gl.retN X0 hx hlk Bd.returns (by simp) (hb hby d2_39) (⟨congrArg (fun z => some (Value.int z)) (show (nar .boolean (1 : Int32)) = own_reading p1 from by simp only [own_reading, if_neg hc1, if_neg hc19, if_pos hc27, if_pos hc31]), N0, e0⟩) (by decide) (by decide)
        · refine Gl.st (fun t k => XS.ifYes X0.here hx rfl (pc0 := 31) (pc' := 38) rfl (hb hby d2_31) rfl ((if0 _ _).trans (feq hc31).2) (by decide) (by decide) k) ?_
          show Gl _ _ _ _ _ _ _ (s₁.setTop (mkF m 38 #[.val (.int p1), .val (.int (p1 / (60 : Int32))), .val (.int (p1 % (60 : Int32)))] []))
          refine Gl.st (fun t k => XS.iconst X0.here hx rfl (hb hby d2_38) k) ?_
          show Gl _ _ _ _ _ _ _ (s₁.setTop (mkF m 39 #[.val (.int p1), .val (.int (p1 / (60 : Int32))), .val (.int (p1 % (60 : Int32)))] [(.int (0 : Int32))]))
          exact Gl.retN X0 hx hlk Bd.returns (by simp) (hb hby d2_39) (⟨congrArg (fun z => some (Value.int z)) (show (nar .boolean (0 : Int32)) = own_reading p1 from by simp only [own_reading, if_neg hc1, if_neg hc19, if_pos hc27, if_neg hc31]), N0, e0⟩) (by decide) (by decide)
      · refine Gl.st (fun t k => XS.icmpYes X0.here hx rfl (pc0 := 27) (pc' := 38) rfl (hb hby d2_27) rfl (feq hc27).2 (by decide) (by decide) k) ?_
        show Gl _ _ _ _ _ _ _ (s₁.setTop (mkF m 38 #[.val (.int p1), .val (.int (p1 / (60 : Int32))), .val (.int (p1 % (60 : Int32)))] []))
        refine Gl.st (fun t k => XS.iconst X0.here hx rfl (hb hby d2_38) k) ?_
        show Gl _ _ _ _ _ _ _ (s₁.setTop (mkF m 39 #[.val (.int p1), .val (.int (p1 / (60 : Int32))), .val (.int (p1 % (60 : Int32)))] [(.int (0 : Int32))]))
        exact Gl.retN X0 hx hlk Bd.returns (by simp) (hb hby d2_39) (⟨congrArg (fun z => some (Value.int z)) (show (nar .boolean (0 : Int32)) = own_reading p1 from by simp only [own_reading, if_neg hc1, if_neg hc19, if_neg hc27]), N0, e0⟩) (by decide) (by decide)
theorem own_same (x : Int32) : own_within x = own_reading x := by
  have a := c_idiv x 60 60 (by decide) (by decide)
  have b := c_irem x 60 60 (by decide)
  have e0 : (0 : Int32).toInt = 0 := by decide
  have e24 : (24 : Int32).toInt = 24 := by decide
  have e1440 : (1440 : Int32).toInt = 1440 := by decide
  unfold own_within own_reading
  simp only [Int32.lt_iff_toInt_lt, ← Int32.toInt_inj, e0, e24, e1440]
  generalize x.toInt = n at *
  generalize (x / 60).toInt = q at *
  generalize (x % 60).toInt = r at *
  repeat' split
  all_goals first | rfl | (exfalso; omega)
theorem pf_2 : plainFor (⟨"com/example/tierbook/tierbook/ClockWindowWithinDayPinLaw", "law", "(II)Z"⟩ : MethodName) = true := by decide +kernel
def Q0 (Z : State) (p1 : Int32) (p2 : Int32) (h0 : Heap) (n0 : Nat) (v : Option Value) (h : Heap) (L : List Loc) : Prop := v = some (.int 1) ∧ Fr n0 L
theorem ef_0 (m : MethodId) (p1 : Int32) (p2 : Int32) : entryFrame m #[(.int p1), (.int p2)] maxLocals = mkF m 0 #[.val (.int p1), .val (.int p2), .unset, .unset, .unset, .unset, .unset, .unset] [] := by first | (simp [entryFrame, mkF, argsToLocals, Value.category, maxLocals]; done) | rfl
theorem pd_0 : parseMethodDescriptor "(I)Z" = some ⟨[.int], some .boolean⟩ := by decide +kernel
set_option maxRecDepth 65536 in
set_option maxHeartbeats 40000000 in
theorem rm0 (l : Launch) (Z : State) (a0 : Array Value) (hw : ∀ d ∈ tables_1, d.before a0 Z = true) (ws : List Jvm.Cond) (p1 : Int32) (p2 : Int32) (h0 : Heap) (n0 : Nat) (Z0 : n0 ≤ h0.size) :
    MetFree l x (head1 (Jvm.Cond.code x code maxLocals ret :: ws) room_1) (fun a U => a = #[(.int p1), (.int p2)] ∧ Z.Warmed39 U.vm ∧ U.heap = h0) (fun _ _ _ _ _ => True) (fun _ U o U' => ∃ v L, o = .returned v ∧ Q0 Z p1 p2 h0 n0 v U'.heap L ∧ FrameEnd U o U' L room_1.cells room_1.slots) := by
  refine MetFree.of_bodySF pf_2 hisR ?_
  intro p e s m args below meth c s₁ Bd hml0 hP hK
  obtain ⟨rfl, hZ, hh⟩ := hP
  have hx := Bd.exec
  have hby := Bd.bytes
  have hlk : meth.locks = false := BodyLoose.notSynchronized Bd
  have hml : c.maxLocals = 8 := hml0
  have hown : s.vm.findClass "com/example/tierbook/tierbook/ClockWindowWithinDayPinLaw" = some m.cls := findClass_of_methodNamed Bd.named
  have hnm := (name_of_methodNamed Bd.named Bd.method).1
  have X0 : Stand p l e room_1 s m #[(.int p1), (.int p2)] below meth c s₁ [] 0 0 := Stand.of_body Bd
  have e0 : s₁.heap = h0 := by rw [← hh, Bd.state]; rfl
  have N0 := Fr.nil n0
  show Gl p e below s (Q0 Z p1 p2 h0 n0) room_1.cells room_1.slots (s₁.setTop (entryFrame m #[(.int p1), (.int p2)] maxLocals))
  rw [ef_0]
  show Gl _ _ _ _ _ _ _ (s₁.setTop (mkF m 0 #[.val (.int p1), .val (.int p2), .unset, .unset, .unset, .unset, .unset, .unset] []))
  refine Gl.st (fun t k => XS.iloadN X0.here hx rfl (hb hby at_0) rfl  k) ?_
  show Gl _ _ _ _ _ _ _ (s₁.setTop (mkF m 1 #[.val (.int p1), .val (.int p2), .unset, .unset, .unset, .unset, .unset, .unset] [(.int p2)]))
  refine Gl.st (fun t k => XS.bipush X0.here hx rfl (hb hby at_1) k) ?_
  show Gl _ _ _ _ _ _ _ (s₁.setTop (mkF m 3 #[.val (.int p1), .val (.int p2), .unset, .unset, .unset, .unset, .unset, .unset] [(.int (7 : Int32)), (.int p2)]))
  refine Gl.st (fun t k => XS.iand X0.here hx rfl (hb hby at_3) rfl k) ?_
  show Gl _ _ _ _ _ _ _ (s₁.setTop (mkF m 4 #[.val (.int p1), .val (.int p2), .unset, .unset, .unset, .unset, .unset, .unset] [(.int (p2 &&& (7 : Int32)))]))
  refine Gl.st (fun t k => XS.iconst X0.here hx rfl (hb hby at_4) k) ?_
  show Gl _ _ _ _ _ _ _ (s₁.setTop (mkF m 5 #[.val (.int p1), .val (.int p2), .unset, .unset, .unset, .unset, .unset, .unset] [(.int (4 : Int32)), (.int (p2 &&& (7 : Int32)))]))
  refine Gl.st (fun t k => XS.isub X0.here hx rfl (hb hby at_5) rfl k) ?_
  show Gl _ _ _ _ _ _ _ (s₁.setTop (mkF m 6 #[.val (.int p1), .val (.int p2), .unset, .unset, .unset, .unset, .unset, .unset] [(.int ((p2 &&& (7 : Int32)) - (4 : Int32)))]))
  refine Gl.st (fun t k => XS.istoreN X0.here hx rfl (hb hby at_6) rfl (l' := #[.val (.int p1), .val (.int p2), .val (.int ((p2 &&& (7 : Int32)) - (4 : Int32))), .unset, .unset, .unset, .unset, .unset]) rfl k) ?_
  show Gl _ _ _ _ _ _ _ (s₁.setTop (mkF m 7 #[.val (.int p1), .val (.int p2), .val (.int ((p2 &&& (7 : Int32)) - (4 : Int32))), .unset, .unset, .unset, .unset, .unset] []))
  refine Gl.st (fun t k => XS.iloadN X0.here hx rfl (hb hby at_7) rfl  k) ?_
  show Gl _ _ _ _ _ _ _ (s₁.setTop (mkF m 8 #[.val (.int p1), .val (.int p2), .val (.int ((p2 &&& (7 : Int32)) - (4 : Int32))), .unset, .unset, .unset, .unset, .unset] [(.int ((p2 &&& (7 : Int32)) - (4 : Int32)))]))
  refine Gl.st (fun t k => XS.istoreN X0.here hx rfl (hb hby at_8) rfl (l' := #[.val (.int p1), .val (.int p2), .val (.int ((p2 &&& (7 : Int32)) - (4 : Int32))), .val (.int ((p2 &&& (7 : Int32)) - (4 : Int32))), .unset, .unset, .unset, .unset]) rfl k) ?_
  show Gl _ _ _ _ _ _ _ (s₁.setTop (mkF m 9 #[.val (.int p1), .val (.int p2), .val (.int ((p2 &&& (7 : Int32)) - (4 : Int32))), .val (.int ((p2 &&& (7 : Int32)) - (4 : Int32))), .unset, .unset, .unset, .unset] []))
  refine Gl.st (fun t k => XS.sipush X0.here hx rfl (hb hby at_9) k) ?_
  show Gl _ _ _ _ _ _ _ (s₁.setTop (mkF m 12 #[.val (.int p1), .val (.int p2), .val (.int ((p2 &&& (7 : Int32)) - (4 : Int32))), .val (.int ((p2 &&& (7 : Int32)) - (4 : Int32))), .unset, .unset, .unset, .unset] [(.int (1440 : Int32))]))
  refine Gl.st (fun t k => XS.iloadN X0.here hx rfl (hb hby at_12) rfl  k) ?_
  show Gl _ _ _ _ _ _ _ (s₁.setTop (mkF m 13 #[.val (.int p1), .val (.int p2), .val (.int ((p2 &&& (7 : Int32)) - (4 : Int32))), .val (.int ((p2 &&& (7 : Int32)) - (4 : Int32))), .unset, .unset, .unset, .unset] [(.int ((p2 &&& (7 : Int32)) - (4 : Int32))), (.int (1440 : Int32))]))
  refine Gl.st (fun t k => XS.iadd X0.here hx rfl (hb hby at_13) rfl k) ?_
  show Gl _ _ _ _ _ _ _ (s₁.setTop (mkF m 14 #[.val (.int p1), .val (.int p2), .val (.int ((p2 &&& (7 : Int32)) - (4 : Int32))), .val (.int ((p2 &&& (7 : Int32)) - (4 : Int32))), .unset, .unset, .unset, .unset] [(.int ((1440 : Int32) + ((p2 &&& (7 : Int32)) - (4 : Int32))))]))
  refine Gl.st (fun t k => XS.istore X0.here hx rfl (hb hby at_14) rfl (l' := #[.val (.int p1), .val (.int p2), .val (.int ((p2 &&& (7 : Int32)) - (4 : Int32))), .val (.int ((p2 &&& (7 : Int32)) - (4 : Int32))), .val (.int ((1440 : Int32) + ((p2 &&& (7 : Int32)) - (4 : Int32)))), .unset, .unset, .unset]) rfl k) ?_
  show Gl _ _ _ _ _ _ _ (s₁.setTop (mkF m 16 #[.val (.int p1), .val (.int p2), .val (.int ((p2 &&& (7 : Int32)) - (4 : Int32))), .val (.int ((p2 &&& (7 : Int32)) - (4 : Int32))), .val (.int ((1440 : Int32) + ((p2 &&& (7 : Int32)) - (4 : Int32)))), .unset, .unset, .unset] []))
  refine Gl.st (fun t k => XS.iloadN X0.here hx rfl (hb hby at_16) rfl  k) ?_
  show Gl _ _ _ _ _ _ _ (s₁.setTop (mkF m 17 #[.val (.int p1), .val (.int p2), .val (.int ((p2 &&& (7 : Int32)) - (4 : Int32))), .val (.int ((p2 &&& (7 : Int32)) - (4 : Int32))), .val (.int ((1440 : Int32) + ((p2 &&& (7 : Int32)) - (4 : Int32)))), .unset, .unset, .unset] [(.int p1)]))
  obtain ⟨_, _, ⟨T1, L1, k1, n1⟩, -, X1, ⟨Lc1, hQ1, l1, y1, z1⟩, st1⟩ := Jvm.LawKit.callS X0 hx (y := (⟨"com/example/tierbook/tierbook/ClockWindow", "withinDay", "(I)Z"⟩ : MethodName)) hown (mvT hZ (hw _ (List.mem_of_getElem? (i := 0) rfl))) (mvT hZ (hw _ (List.mem_of_getElem? (i := 1) rfl))) (mvT hZ (hw _ (List.mem_of_getElem? (i := 2) rfl))) (mvT hZ (hw _ (List.mem_of_getElem? (i := 3) rfl))) (by decide) (backOf (W := 0) (rm1 l Z a0 hw [] p1 h0 n0) hZ (hw _ (List.mem_of_getElem? (i := 3) rfl)) (hw _ (List.mem_of_getElem? (i := 2) rfl)) (by decide) (by decide)) (g := (mkF m 17 #[.val (.int p1), .val (.int p2), .val (.int ((p2 &&& (7 : Int32)) - (4 : Int32))), .val (.int ((p2 &&& (7 : Int32)) - (4 : Int32))), .val (.int ((1440 : Int32) + ((p2 &&& (7 : Int32)) - (4 : Int32)))), .unset, .unset, .unset] [(.int p1)])) rfl (by rw [hml]; rfl) (argsL := [(.int p1)]) (rest := []) (lenOf pd_0 rfl) rfl (by show 2 * 0 + _ ≤ _; exact Nat.le_of_eq rfl) (hb hby at_17) (fun _ _ => ⟨rfl, e0, (by decide : 0 + 0 ≤ _), (by decide : 0 + 0 ≤ _)⟩)
  dsimp only [Pt.U, Pt.locs, Pt.cells, Pt.slots] at X1 l1 y1 z1 st1 hQ1
  subst l1 y1 z1
  obtain ⟨rfl, N1q, e1⟩ := hQ1
  have N1 := Fr.app N0 N1q
  refine Gl.st st1 ?_
  show Gl _ _ _ _ _ _ _ (T1.setTop (mkF m 20 #[.val (.int p1), .val (.int p2), .val (.int ((p2 &&& (7 : Int32)) - (4 : Int32))), .val (.int ((p2 &&& (7 : Int32)) - (4 : Int32))), .val (.int ((1440 : Int32) + ((p2 &&& (7 : Int32)) - (4 : Int32)))), .unset, .unset, .unset] [(.int (own_within p1))]))
  refine Gl.st (fun t k => XS.iloadN X1.here hx rfl (hb hby at_20) rfl  k) ?_
  show Gl _ _ _ _ _ _ _ (T1.setTop (mkF m 21 #[.val (.int p1), .val (.int p2), .val (.int ((p2 &&& (7 : Int32)) - (4 : Int32))), .val (.int ((p2 &&& (7 : Int32)) - (4 : Int32))), .val (.int ((1440 : Int32) + ((p2 &&& (7 : Int32)) - (4 : Int32)))), .unset, .unset, .unset] [(.int p1), (.int (own_within p1))]))
  obtain ⟨_, _, ⟨T2, L2, k2, n2⟩, -, X2, ⟨Lc2, hQ2, l2, y2, z2⟩, st2⟩ := Jvm.LawKit.callS X1 hx (y := (⟨"com/example/tierbook/tierbook/ClockWindowWithinDayPinLaw", "reading", "(I)Z"⟩ : MethodName)) hown (mvT hZ (hw _ (List.mem_of_getElem? (i := 4) rfl))) (mvT hZ (hw _ (List.mem_of_getElem? (i := 5) rfl))) (mvT hZ (hw _ (List.mem_of_getElem? (i := 6) rfl))) (mvT hZ (hw _ (List.mem_of_getElem? (i := 7) rfl))) (by decide) (backOf (W := 1) (rm2 l Z a0 hw [] p1 h0 n0) hZ (hw _ (List.mem_of_getElem? (i := 7) rfl)) (hw _ (List.mem_of_getElem? (i := 6) rfl)) (by decide) (by decide)) (g := (mkF m 21 #[.val (.int p1), .val (.int p2), .val (.int ((p2 &&& (7 : Int32)) - (4 : Int32))), .val (.int ((p2 &&& (7 : Int32)) - (4 : Int32))), .val (.int ((1440 : Int32) + ((p2 &&& (7 : Int32)) - (4 : Int32)))), .unset, .unset, .unset] [(.int p1), (.int (own_within p1))])) rfl (by rw [hml]; rfl) (argsL := [(.int p1)]) (rest := [(.int (own_within p1))]) (lenOf pd_0 rfl) rfl (by show 2 * 0 + _ ≤ _; exact Nat.le_of_eq rfl) (hb hby at_21) (fun _ _ => ⟨rfl, e1, (by decide : 0 + 0 ≤ _), (by decide : 0 + 0 ≤ _)⟩)
  dsimp only [Pt.U, Pt.locs, Pt.cells, Pt.slots] at X2 l2 y2 z2 st2 hQ2
  subst l2 y2 z2
  obtain ⟨rfl, N2q, e2⟩ := hQ2
  have N2 := Fr.app N1 N2q
  refine Gl.st st2 ?_
  show Gl _ _ _ _ _ _ _ (T2.setTop (mkF m 24 #[.val (.int p1), .val (.int p2), .val (.int ((p2 &&& (7 : Int32)) - (4 : Int32))), .val (.int ((p2 &&& (7 : Int32)) - (4 : Int32))), .val (.int ((1440 : Int32) + ((p2 &&& (7 : Int32)) - (4 : Int32)))), .unset, .unset, .unset] [(.int (own_reading p1)), (.int (own_within p1))]))
  have hc24_3 : (own_within p1) = (own_reading p1) := by exact own_same _
  refine Gl.st (fun t k => XS.icmpNo X2.here hx rfl (hb hby at_24) rfl (teq hc24_3).2 k) ?_
  show Gl _ _ _ _ _ _ _ (T2.setTop (mkF m 27 #[.val (.int p1), .val (.int p2), .val (.int ((p2 &&& (7 : Int32)) - (4 : Int32))), .val (.int ((p2 &&& (7 : Int32)) - (4 : Int32))), .val (.int ((1440 : Int32) + ((p2 &&& (7 : Int32)) - (4 : Int32)))), .unset, .unset, .unset] []))
  refine Gl.st (fun t k => XS.iconst X2.here hx rfl (hb hby at_27) k) ?_
  show Gl _ _ _ _ _ _ _ (T2.setTop (mkF m 28 #[.val (.int p1), .val (.int p2), .val (.int ((p2 &&& (7 : Int32)) - (4 : Int32))), .val (.int ((p2 &&& (7 : Int32)) - (4 : Int32))), .val (.int ((1440 : Int32) + ((p2 &&& (7 : Int32)) - (4 : Int32)))), .unset, .unset, .unset] [(.int (1 : Int32))]))
  refine Gl.st (fun t k => XS.goto X2.here hx rfl (pc0 := 28) (pc' := 32) rfl (hb hby at_28) (by decide) (by decide) k) ?_
  show Gl _ _ _ _ _ _ _ (T2.setTop (mkF m 32 #[.val (.int p1), .val (.int p2), .val (.int ((p2 &&& (7 : Int32)) - (4 : Int32))), .val (.int ((p2 &&& (7 : Int32)) - (4 : Int32))), .val (.int ((1440 : Int32) + ((p2 &&& (7 : Int32)) - (4 : Int32)))), .unset, .unset, .unset] [(.int (1 : Int32))]))
  refine Gl.st (fun t k => XS.istore X2.here hx rfl (hb hby at_32) rfl (l' := #[.val (.int p1), .val (.int p2), .val (.int ((p2 &&& (7 : Int32)) - (4 : Int32))), .val (.int ((p2 &&& (7 : Int32)) - (4 : Int32))), .val (.int ((1440 : Int32) + ((p2 &&& (7 : Int32)) - (4 : Int32)))), .val (.int (1 : Int32)), .unset, .unset]) rfl k) ?_
  show Gl _ _ _ _ _ _ _ (T2.setTop (mkF m 34 #[.val (.int p1), .val (.int p2), .val (.int ((p2 &&& (7 : Int32)) - (4 : Int32))), .val (.int ((p2 &&& (7 : Int32)) - (4 : Int32))), .val (.int ((1440 : Int32) + ((p2 &&& (7 : Int32)) - (4 : Int32)))), .val (.int (1 : Int32)), .unset, .unset] []))
  refine Gl.st (fun t k => XS.iloadN X2.here hx rfl (hb hby at_34) rfl  k) ?_
  show Gl _ _ _ _ _ _ _ (T2.setTop (mkF m 35 #[.val (.int p1), .val (.int p2), .val (.int ((p2 &&& (7 : Int32)) - (4 : Int32))), .val (.int ((p2 &&& (7 : Int32)) - (4 : Int32))), .val (.int ((1440 : Int32) + ((p2 &&& (7 : Int32)) - (4 : Int32)))), .val (.int (1 : Int32)), .unset, .unset] [(.int ((p2 &&& (7 : Int32)) - (4 : Int32)))]))
  obtain ⟨_, _, ⟨T4, L4, k4, n4⟩, -, X4, ⟨Lc4, hQ4, l4, y4, z4⟩, st4⟩ := Jvm.LawKit.callS X2 hx (y := (⟨"com/example/tierbook/tierbook/ClockWindow", "withinDay", "(I)Z"⟩ : MethodName)) hown (mvT hZ (hw _ (List.mem_of_getElem? (i := 0) rfl))) (mvT hZ (hw _ (List.mem_of_getElem? (i := 1) rfl))) (mvT hZ (hw _ (List.mem_of_getElem? (i := 2) rfl))) (mvT hZ (hw _ (List.mem_of_getElem? (i := 3) rfl))) (by decide) (backOf (W := 0) (rm1 l Z a0 hw [] ((p2 &&& (7 : Int32)) - (4 : Int32)) h0 n0) hZ (hw _ (List.mem_of_getElem? (i := 3) rfl)) (hw _ (List.mem_of_getElem? (i := 2) rfl)) (by decide) (by decide)) (g := (mkF m 35 #[.val (.int p1), .val (.int p2), .val (.int ((p2 &&& (7 : Int32)) - (4 : Int32))), .val (.int ((p2 &&& (7 : Int32)) - (4 : Int32))), .val (.int ((1440 : Int32) + ((p2 &&& (7 : Int32)) - (4 : Int32)))), .val (.int (1 : Int32)), .unset, .unset] [(.int ((p2 &&& (7 : Int32)) - (4 : Int32)))])) rfl (by rw [hml]; rfl) (argsL := [(.int ((p2 &&& (7 : Int32)) - (4 : Int32)))]) (rest := []) (lenOf pd_0 rfl) rfl (by show 2 * 0 + _ ≤ _; exact Nat.le_of_eq rfl) (hb hby at_35) (fun _ _ => ⟨rfl, e2, (by decide : 0 + 0 ≤ _), (by decide : 0 + 0 ≤ _)⟩)
  dsimp only [Pt.U, Pt.locs, Pt.cells, Pt.slots] at X4 l4 y4 z4 st4 hQ4
  subst l4 y4 z4
  obtain ⟨rfl, N4q, e4⟩ := hQ4
  have N4 := Fr.app N2 N4q
  refine Gl.st st4 ?_
  show Gl _ _ _ _ _ _ _ (T4.setTop (mkF m 38 #[.val (.int p1), .val (.int p2), .val (.int ((p2 &&& (7 : Int32)) - (4 : Int32))), .val (.int ((p2 &&& (7 : Int32)) - (4 : Int32))), .val (.int ((1440 : Int32) + ((p2 &&& (7 : Int32)) - (4 : Int32)))), .val (.int (1 : Int32)), .unset, .unset] [(.int (own_within ((p2 &&& (7 : Int32)) - (4 : Int32))))]))
  refine Gl.st (fun t k => XS.iloadN X4.here hx rfl (hb hby at_38) rfl  k) ?_
  show Gl _ _ _ _ _ _ _ (T4.setTop (mkF m 39 #[.val (.int p1), .val (.int p2), .val (.int ((p2 &&& (7 : Int32)) - (4 : Int32))), .val (.int ((p2 &&& (7 : Int32)) - (4 : Int32))), .val (.int ((1440 : Int32) + ((p2 &&& (7 : Int32)) - (4 : Int32)))), .val (.int (1 : Int32)), .unset, .unset] [(.int ((p2 &&& (7 : Int32)) - (4 : Int32))), (.int (own_within ((p2 &&& (7 : Int32)) - (4 : Int32))))]))
  obtain ⟨_, _, ⟨T5, L5, k5, n5⟩, -, X5, ⟨Lc5, hQ5, l5, y5, z5⟩, st5⟩ := Jvm.LawKit.callS X4 hx (y := (⟨"com/example/tierbook/tierbook/ClockWindowWithinDayPinLaw", "reading", "(I)Z"⟩ : MethodName)) hown (mvT hZ (hw _ (List.mem_of_getElem? (i := 4) rfl))) (mvT hZ (hw _ (List.mem_of_getElem? (i := 5) rfl))) (mvT hZ (hw _ (List.mem_of_getElem? (i := 6) rfl))) (mvT hZ (hw _ (List.mem_of_getElem? (i := 7) rfl))) (by decide) (backOf (W := 1) (rm2 l Z a0 hw [] ((p2 &&& (7 : Int32)) - (4 : Int32)) h0 n0) hZ (hw _ (List.mem_of_getElem? (i := 7) rfl)) (hw _ (List.mem_of_getElem? (i := 6) rfl)) (by decide) (by decide)) (g := (mkF m 39 #[.val (.int p1), .val (.int p2), .val (.int ((p2 &&& (7 : Int32)) - (4 : Int32))), .val (.int ((p2 &&& (7 : Int32)) - (4 : Int32))), .val (.int ((1440 : Int32) + ((p2 &&& (7 : Int32)) - (4 : Int32)))), .val (.int (1 : Int32)), .unset, .unset] [(.int ((p2 &&& (7 : Int32)) - (4 : Int32))), (.int (own_within ((p2 &&& (7 : Int32)) - (4 : Int32))))])) rfl (by rw [hml]; rfl) (argsL := [(.int ((p2 &&& (7 : Int32)) - (4 : Int32)))]) (rest := [(.int (own_within ((p2 &&& (7 : Int32)) - (4 : Int32))))]) (lenOf pd_0 rfl) rfl (by show 2 * 0 + _ ≤ _; exact Nat.le_of_eq rfl) (hb hby at_39) (fun _ _ => ⟨rfl, e4, (by decide : 0 + 0 ≤ _), (by decide : 0 + 0 ≤ _)⟩)
  dsimp only [Pt.U, Pt.locs, Pt.cells, Pt.slots] at X5 l5 y5 z5 st5 hQ5
  subst l5 y5 z5
  obtain ⟨rfl, N5q, e5⟩ := hQ5
  have N5 := Fr.app N4 N5q
  refine Gl.st st5 ?_
  show Gl _ _ _ _ _ _ _ (T5.setTop (mkF m 42 #[.val (.int p1), .val (.int p2), .val (.int ((p2 &&& (7 : Int32)) - (4 : Int32))), .val (.int ((p2 &&& (7 : Int32)) - (4 : Int32))), .val (.int ((1440 : Int32) + ((p2 &&& (7 : Int32)) - (4 : Int32)))), .val (.int (1 : Int32)), .unset, .unset] [(.int (own_reading ((p2 &&& (7 : Int32)) - (4 : Int32)))), (.int (own_within ((p2 &&& (7 : Int32)) - (4 : Int32))))]))
  have hc42_6 : (own_within ((p2 &&& (7 : Int32)) - (4 : Int32))) = (own_reading ((p2 &&& (7 : Int32)) - (4 : Int32))) := by exact own_same _
  refine Gl.st (fun t k => XS.icmpNo X5.here hx rfl (hb hby at_42) rfl (teq hc42_6).2 k) ?_
  show Gl _ _ _ _ _ _ _ (T5.setTop (mkF m 45 #[.val (.int p1), .val (.int p2), .val (.int ((p2 &&& (7 : Int32)) - (4 : Int32))), .val (.int ((p2 &&& (7 : Int32)) - (4 : Int32))), .val (.int ((1440 : Int32) + ((p2 &&& (7 : Int32)) - (4 : Int32)))), .val (.int (1 : Int32)), .unset, .unset] []))
  refine Gl.st (fun t k => XS.iconst X5.here hx rfl (hb hby at_45) k) ?_
  show Gl _ _ _ _ _ _ _ (T5.setTop (mkF m 46 #[.val (.int p1), .val (.int p2), .val (.int ((p2 &&& (7 : Int32)) - (4 : Int32))), .val (.int ((p2 &&& (7 : Int32)) - (4 : Int32))), .val (.int ((1440 : Int32) + ((p2 &&& (7 : Int32)) - (4 : Int32)))), .val (.int (1 : Int32)), .unset, .unset] [(.int (1 : Int32))]))
  refine Gl.st (fun t k => XS.goto X5.here hx rfl (pc0 := 46) (pc' := 50) rfl (hb hby at_46) (by decide) (by decide) k) ?_
  show Gl _ _ _ _ _ _ _ (T5.setTop (mkF m 50 #[.val (.int p1), .val (.int p2), .val (.int ((p2 &&& (7 : Int32)) - (4 : Int32))), .val (.int ((p2 &&& (7 : Int32)) - (4 : Int32))), .val (.int ((1440 : Int32) + ((p2 &&& (7 : Int32)) - (4 : Int32)))), .val (.int (1 : Int32)), .unset, .unset] [(.int (1 : Int32))]))
  refine Gl.st (fun t k => XS.istore X5.here hx rfl (hb hby at_50) rfl (l' := #[.val (.int p1), .val (.int p2), .val (.int ((p2 &&& (7 : Int32)) - (4 : Int32))), .val (.int ((p2 &&& (7 : Int32)) - (4 : Int32))), .val (.int ((1440 : Int32) + ((p2 &&& (7 : Int32)) - (4 : Int32)))), .val (.int (1 : Int32)), .val (.int (1 : Int32)), .unset]) rfl k) ?_
  show Gl _ _ _ _ _ _ _ (T5.setTop (mkF m 52 #[.val (.int p1), .val (.int p2), .val (.int ((p2 &&& (7 : Int32)) - (4 : Int32))), .val (.int ((p2 &&& (7 : Int32)) - (4 : Int32))), .val (.int ((1440 : Int32) + ((p2 &&& (7 : Int32)) - (4 : Int32)))), .val (.int (1 : Int32)), .val (.int (1 : Int32)), .unset] []))
  refine Gl.st (fun t k => XS.iload X5.here hx rfl (hb hby at_52) rfl  k) ?_
  show Gl _ _ _ _ _ _ _ (T5.setTop (mkF m 54 #[.val (.int p1), .val (.int p2), .val (.int ((p2 &&& (7 : Int32)) - (4 : Int32))), .val (.int ((p2 &&& (7 : Int32)) - (4 : Int32))), .val (.int ((1440 : Int32) + ((p2 &&& (7 : Int32)) - (4 : Int32)))), .val (.int (1 : Int32)), .val (.int (1 : Int32)), .unset] [(.int ((1440 : Int32) + ((p2 &&& (7 : Int32)) - (4 : Int32))))]))
  obtain ⟨_, _, ⟨T7, L7, k7, n7⟩, -, X7, ⟨Lc7, hQ7, l7, y7, z7⟩, st7⟩ := Jvm.LawKit.callS X5 hx (y := (⟨"com/example/tierbook/tierbook/ClockWindow", "withinDay", "(I)Z"⟩ : MethodName)) hown (mvT hZ (hw _ (List.mem_of_getElem? (i := 0) rfl))) (mvT hZ (hw _ (List.mem_of_getElem? (i := 1) rfl))) (mvT hZ (hw _ (List.mem_of_getElem? (i := 2) rfl))) (mvT hZ (hw _ (List.mem_of_getElem? (i := 3) rfl))) (by decide) (backOf (W := 0) (rm1 l Z a0 hw [] ((1440 : Int32) + ((p2 &&& (7 : Int32)) - (4 : Int32))) h0 n0) hZ (hw _ (List.mem_of_getElem? (i := 3) rfl)) (hw _ (List.mem_of_getElem? (i := 2) rfl)) (by decide) (by decide)) (g := (mkF m 54 #[.val (.int p1), .val (.int p2), .val (.int ((p2 &&& (7 : Int32)) - (4 : Int32))), .val (.int ((p2 &&& (7 : Int32)) - (4 : Int32))), .val (.int ((1440 : Int32) + ((p2 &&& (7 : Int32)) - (4 : Int32)))), .val (.int (1 : Int32)), .val (.int (1 : Int32)), .unset] [(.int ((1440 : Int32) + ((p2 &&& (7 : Int32)) - (4 : Int32))))])) rfl (by rw [hml]; rfl) (argsL := [(.int ((1440 : Int32) + ((p2 &&& (7 : Int32)) - (4 : Int32))))]) (rest := []) (lenOf pd_0 rfl) rfl (by show 2 * 0 + _ ≤ _; exact Nat.le_of_eq rfl) (hb hby at_54) (fun _ _ => ⟨rfl, e5, (by decide : 0 + 0 ≤ _), (by decide : 0 + 0 ≤ _)⟩)
  dsimp only [Pt.U, Pt.locs, Pt.cells, Pt.slots] at X7 l7 y7 z7 st7 hQ7
  subst l7 y7 z7
  obtain ⟨rfl, N7q, e7⟩ := hQ7
  have N7 := Fr.app N5 N7q
  refine Gl.st st7 ?_
  show Gl _ _ _ _ _ _ _ (T7.setTop (mkF m 57 #[.val (.int p1), .val (.int p2), .val (.int ((p2 &&& (7 : Int32)) - (4 : Int32))), .val (.int ((p2 &&& (7 : Int32)) - (4 : Int32))), .val (.int ((1440 : Int32) + ((p2 &&& (7 : Int32)) - (4 : Int32)))), .val (.int (1 : Int32)), .val (.int (1 : Int32)), .unset] [(.int (own_within ((1440 : Int32) + ((p2 &&& (7 : Int32)) - (4 : Int32)))))]))
  refine Gl.st (fun t k => XS.iload X7.here hx rfl (hb hby at_57) rfl  k) ?_
  show Gl _ _ _ _ _ _ _ (T7.setTop (mkF m 59 #[.val (.int p1), .val (.int p2), .val (.int ((p2 &&& (7 : Int32)) - (4 : Int32))), .val (.int ((p2 &&& (7 : Int32)) - (4 : Int32))), .val (.int ((1440 : Int32) + ((p2 &&& (7 : Int32)) - (4 : Int32)))), .val (.int (1 : Int32)), .val (.int (1 : Int32)), .unset] [(.int ((1440 : Int32) + ((p2 &&& (7 : Int32)) - (4 : Int32)))), (.int (own_within ((1440 : Int32) + ((p2 &&& (7 : Int32)) - (4 : Int32)))))]))
  obtain ⟨_, _, ⟨T8, L8, k8, n8⟩, -, X8, ⟨Lc8, hQ8, l8, y8, z8⟩, st8⟩ := Jvm.LawKit.callS X7 hx (y := (⟨"com/example/tierbook/tierbook/ClockWindowWithinDayPinLaw", "reading", "(I)Z"⟩ : MethodName)) hown (mvT hZ (hw _ (List.mem_of_getElem? (i := 4) rfl))) (mvT hZ (hw _ (List.mem_of_getElem? (i := 5) rfl))) (mvT hZ (hw _ (List.mem_of_getElem? (i := 6) rfl))) (mvT hZ (hw _ (List.mem_of_getElem? (i := 7) rfl))) (by decide) (backOf (W := 1) (rm2 l Z a0 hw [] ((1440 : Int32) + ((p2 &&& (7 : Int32)) - (4 : Int32))) h0 n0) hZ (hw _ (List.mem_of_getElem? (i := 7) rfl)) (hw _ (List.mem_of_getElem? (i := 6) rfl)) (by decide) (by decide)) (g := (mkF m 59 #[.val (.int p1), .val (.int p2), .val (.int ((p2 &&& (7 : Int32)) - (4 : Int32))), .val (.int ((p2 &&& (7 : Int32)) - (4 : Int32))), .val (.int ((1440 : Int32) + ((p2 &&& (7 : Int32)) - (4 : Int32)))), .val (.int (1 : Int32)), .val (.int (1 : Int32)), .unset] [(.int ((1440 : Int32) + ((p2 &&& (7 : Int32)) - (4 : Int32)))), (.int (own_within ((1440 : Int32) + ((p2 &&& (7 : Int32)) - (4 : Int32)))))])) rfl (by rw [hml]; rfl) (argsL := [(.int ((1440 : Int32) + ((p2 &&& (7 : Int32)) - (4 : Int32))))]) (rest := [(.int (own_within ((1440 : Int32) + ((p2 &&& (7 : Int32)) - (4 : Int32)))))]) (lenOf pd_0 rfl) rfl (by show 2 * 0 + _ ≤ _; exact Nat.le_of_eq rfl) (hb hby at_59) (fun _ _ => ⟨rfl, e7, (by decide : 0 + 0 ≤ _), (by decide : 0 + 0 ≤ _)⟩)
  dsimp only [Pt.U, Pt.locs, Pt.cells, Pt.slots] at X8 l8 y8 z8 st8 hQ8
  subst l8 y8 z8
  obtain ⟨rfl, N8q, e8⟩ := hQ8
  have N8 := Fr.app N7 N8q
  refine Gl.st st8 ?_
  show Gl _ _ _ _ _ _ _ (T8.setTop (mkF m 62 #[.val (.int p1), .val (.int p2), .val (.int ((p2 &&& (7 : Int32)) - (4 : Int32))), .val (.int ((p2 &&& (7 : Int32)) - (4 : Int32))), .val (.int ((1440 : Int32) + ((p2 &&& (7 : Int32)) - (4 : Int32)))), .val (.int (1 : Int32)), .val (.int (1 : Int32)), .unset] [(.int (own_reading ((1440 : Int32) + ((p2 &&& (7 : Int32)) - (4 : Int32))))), (.int (own_within ((1440 : Int32) + ((p2 &&& (7 : Int32)) - (4 : Int32)))))]))
  have hc62_9 : (own_within ((1440 : Int32) + ((p2 &&& (7 : Int32)) - (4 : Int32)))) = (own_reading ((1440 : Int32) + ((p2 &&& (7 : Int32)) - (4 : Int32)))) := by exact own_same _
  refine Gl.st (fun t k => XS.icmpNo X8.here hx rfl (hb hby at_62) rfl (teq hc62_9).2 k) ?_
  show Gl _ _ _ _ _ _ _ (T8.setTop (mkF m 65 #[.val (.int p1), .val (.int p2), .val (.int ((p2 &&& (7 : Int32)) - (4 : Int32))), .val (.int ((p2 &&& (7 : Int32)) - (4 : Int32))), .val (.int ((1440 : Int32) + ((p2 &&& (7 : Int32)) - (4 : Int32)))), .val (.int (1 : Int32)), .val (.int (1 : Int32)), .unset] []))
  refine Gl.st (fun t k => XS.iconst X8.here hx rfl (hb hby at_65) k) ?_
  show Gl _ _ _ _ _ _ _ (T8.setTop (mkF m 66 #[.val (.int p1), .val (.int p2), .val (.int ((p2 &&& (7 : Int32)) - (4 : Int32))), .val (.int ((p2 &&& (7 : Int32)) - (4 : Int32))), .val (.int ((1440 : Int32) + ((p2 &&& (7 : Int32)) - (4 : Int32)))), .val (.int (1 : Int32)), .val (.int (1 : Int32)), .unset] [(.int (1 : Int32))]))
  refine Gl.st (fun t k => XS.goto X8.here hx rfl (pc0 := 66) (pc' := 70) rfl (hb hby at_66) (by decide) (by decide) k) ?_
  show Gl _ _ _ _ _ _ _ (T8.setTop (mkF m 70 #[.val (.int p1), .val (.int p2), .val (.int ((p2 &&& (7 : Int32)) - (4 : Int32))), .val (.int ((p2 &&& (7 : Int32)) - (4 : Int32))), .val (.int ((1440 : Int32) + ((p2 &&& (7 : Int32)) - (4 : Int32)))), .val (.int (1 : Int32)), .val (.int (1 : Int32)), .unset] [(.int (1 : Int32))]))
  refine Gl.st (fun t k => XS.istore X8.here hx rfl (hb hby at_70) rfl (l' := #[.val (.int p1), .val (.int p2), .val (.int ((p2 &&& (7 : Int32)) - (4 : Int32))), .val (.int ((p2 &&& (7 : Int32)) - (4 : Int32))), .val (.int ((1440 : Int32) + ((p2 &&& (7 : Int32)) - (4 : Int32)))), .val (.int (1 : Int32)), .val (.int (1 : Int32)), .val (.int (1 : Int32))]) rfl k) ?_
  show Gl _ _ _ _ _ _ _ (T8.setTop (mkF m 72 #[.val (.int p1), .val (.int p2), .val (.int ((p2 &&& (7 : Int32)) - (4 : Int32))), .val (.int ((p2 &&& (7 : Int32)) - (4 : Int32))), .val (.int ((1440 : Int32) + ((p2 &&& (7 : Int32)) - (4 : Int32)))), .val (.int (1 : Int32)), .val (.int (1 : Int32)), .val (.int (1 : Int32))] []))
  refine Gl.st (fun t k => XS.iload X8.here hx rfl (hb hby at_72) rfl  k) ?_
  show Gl _ _ _ _ _ _ _ (T8.setTop (mkF m 74 #[.val (.int p1), .val (.int p2), .val (.int ((p2 &&& (7 : Int32)) - (4 : Int32))), .val (.int ((p2 &&& (7 : Int32)) - (4 : Int32))), .val (.int ((1440 : Int32) + ((p2 &&& (7 : Int32)) - (4 : Int32)))), .val (.int (1 : Int32)), .val (.int (1 : Int32)), .val (.int (1 : Int32))] [(.int (1 : Int32))]))
  refine Gl.st (fun t k => XS.ifNo X8.here hx rfl (hb hby at_74) rfl ((if0 _ _).trans (feq (by decide : ¬ ((1 : Int32) = (0 : Int32)))).1) k) ?_
  show Gl _ _ _ _ _ _ _ (T8.setTop (mkF m 77 #[.val (.int p1), .val (.int p2), .val (.int ((p2 &&& (7 : Int32)) - (4 : Int32))), .val (.int ((p2 &&& (7 : Int32)) - (4 : Int32))), .val (.int ((1440 : Int32) + ((p2 &&& (7 : Int32)) - (4 : Int32)))), .val (.int (1 : Int32)), .val (.int (1 : Int32)), .val (.int (1 : Int32))] []))
  refine Gl.st (fun t k => XS.iload X8.here hx rfl (hb hby at_77) rfl  k) ?_
  show Gl _ _ _ _ _ _ _ (T8.setTop (mkF m 79 #[.val (.int p1), .val (.int p2), .val (.int ((p2 &&& (7 : Int32)) - (4 : Int32))), .val (.int ((p2 &&& (7 : Int32)) - (4 : Int32))), .val (.int ((1440 : Int32) + ((p2 &&& (7 : Int32)) - (4 : Int32)))), .val (.int (1 : Int32)), .val (.int (1 : Int32)), .val (.int (1 : Int32))] [(.int (1 : Int32))]))
  refine Gl.st (fun t k => XS.ifNo X8.here hx rfl (hb hby at_79) rfl ((if0 _ _).trans (feq (by decide : ¬ ((1 : Int32) = (0 : Int32)))).1) k) ?_
  show Gl _ _ _ _ _ _ _ (T8.setTop (mkF m 82 #[.val (.int p1), .val (.int p2), .val (.int ((p2 &&& (7 : Int32)) - (4 : Int32))), .val (.int ((p2 &&& (7 : Int32)) - (4 : Int32))), .val (.int ((1440 : Int32) + ((p2 &&& (7 : Int32)) - (4 : Int32)))), .val (.int (1 : Int32)), .val (.int (1 : Int32)), .val (.int (1 : Int32))] []))
  refine Gl.st (fun t k => XS.iload X8.here hx rfl (hb hby at_82) rfl  k) ?_
  show Gl _ _ _ _ _ _ _ (T8.setTop (mkF m 84 #[.val (.int p1), .val (.int p2), .val (.int ((p2 &&& (7 : Int32)) - (4 : Int32))), .val (.int ((p2 &&& (7 : Int32)) - (4 : Int32))), .val (.int ((1440 : Int32) + ((p2 &&& (7 : Int32)) - (4 : Int32)))), .val (.int (1 : Int32)), .val (.int (1 : Int32)), .val (.int (1 : Int32))] [(.int (1 : Int32))]))
  refine Gl.st (fun t k => XS.ifNo X8.here hx rfl (hb hby at_84) rfl ((if0 _ _).trans (feq (by decide : ¬ ((1 : Int32) = (0 : Int32)))).1) k) ?_
  show Gl _ _ _ _ _ _ _ (T8.setTop (mkF m 87 #[.val (.int p1), .val (.int p2), .val (.int ((p2 &&& (7 : Int32)) - (4 : Int32))), .val (.int ((p2 &&& (7 : Int32)) - (4 : Int32))), .val (.int ((1440 : Int32) + ((p2 &&& (7 : Int32)) - (4 : Int32)))), .val (.int (1 : Int32)), .val (.int (1 : Int32)), .val (.int (1 : Int32))] []))
  refine Gl.st (fun t k => XS.iconst X8.here hx rfl (hb hby at_87) k) ?_
  show Gl _ _ _ _ _ _ _ (T8.setTop (mkF m 88 #[.val (.int p1), .val (.int p2), .val (.int ((p2 &&& (7 : Int32)) - (4 : Int32))), .val (.int ((p2 &&& (7 : Int32)) - (4 : Int32))), .val (.int ((1440 : Int32) + ((p2 &&& (7 : Int32)) - (4 : Int32)))), .val (.int (1 : Int32)), .val (.int (1 : Int32)), .val (.int (1 : Int32))] [(.int (1 : Int32))]))
  refine Gl.st (fun t k => XS.goto X8.here hx rfl (pc0 := 88) (pc' := 92) rfl (hb hby at_88) (by decide) (by decide) k) ?_
  show Gl _ _ _ _ _ _ _ (T8.setTop (mkF m 92 #[.val (.int p1), .val (.int p2), .val (.int ((p2 &&& (7 : Int32)) - (4 : Int32))), .val (.int ((p2 &&& (7 : Int32)) - (4 : Int32))), .val (.int ((1440 : Int32) + ((p2 &&& (7 : Int32)) - (4 : Int32)))), .val (.int (1 : Int32)), .val (.int (1 : Int32)), .val (.int (1 : Int32))] [(.int (1 : Int32))]))
  exact Gl.retN X8 hx hlk Bd.returns (by simp) (hb hby at_92) (⟨rfl, N8⟩) (by decide) (by decide)
set_option maxRecDepth 65536 in
set_option maxHeartbeats 40000000 in
theorem comes_1 {Post : Tables → Env → Array Value → State → Outcome → State → Prop} (hpost : ∀ tb e args s v u, (limb_1_1.after args s (.returned v) u = true ∧ limb_1_2.after args s (.returned v) u = true ∧ True) → FrameEnd s (.returned v) u (Jvm.fieldLocs frame_1_writes args s ++ Jvm.arrayLocs frame_1_arrays args s ++ Jvm.staticLocs frame_1_statics s) 0 0 → Post tb e args s (.returned v) u) :
    ArmFor flags0 classFile x code maxLocals ret World_1 tables_1 room_1 Calls_1 rest_1 Pre_1 Post := by
  intro l hfl _ _ p e ha hc hk s m args below hf hA hF happ hP
  obtain ⟨hcalls, hrest, hpre⟩ := hP
  obtain ⟨-, -, -, hnamed, -, -, -, hat⟩ := (Spec.applies_iff hf).mp happ
  obtain ⟨hg, hn⟩ := and_e (Cond.before_iff.mp (show (Jvm.Cond.and given_1 narrow_1).before args s = true from hpre))
  obtain ⟨hcnt, hr0⟩ := and_e hg
  obtain ⟨ha0, hr1⟩ := and_e hr0
  have ha1 := hr1
  obtain ⟨w0, w1, rfl⟩ : ∃ w0 w1 : Value, args = #[w0, w1] := by
    have hs : args.size = 2 := by simpa [Cond.value, given_1] using hcnt
    obtain ⟨L⟩ := args
    match L, hs with
    | [w0, w1], _ => exact ⟨w0, w1, rfl⟩
  have hw := fun d (hd : d ∈ tables_1) => atoms_spec (ws := Jvm.Cond.code x code maxLocals ret :: tables_1) hat d (List.mem_cons_of_mem _ hd)
  obtain ⟨i0, ei0⟩ := is_v ha0
  obtain rfl : w0 = (.int i0) := Option.some.inj ei0
  obtain ⟨i1, ei1⟩ := is_v ha1
  obtain rfl : w1 = (.int i1) := Option.some.inj ei1
  obtain ⟨n, o, h1, h2, h3, _, L, rfl, ⟨rfl, N⟩, hq⟩ := rm0 l s _ hw tables_1 i0 i1 s.heap s.heap.size (Nat.le_refl _) p e ha hc hk s m _ below hf ((Spec.applies_iff_loose hf).mp happ).1 ⟨rfl, State.Warmed39.refl s, rfl⟩ trivial
  refine ⟨n, _, h1, h2, h3, hpost _ _ _ _ _ _ ⟨Cond.after_iff.mpr rfl, Cond.after_iff.mpr (eq_i res_at (Term.int_eval (1)) rfl), trivial⟩ ⟨hq.1, hq.2.1, (hq.2.2.sift fun y hy => Or.inr (N y hy)).mono (by decide) (by decide)⟩⟩
theorem main_1_1 : Claimed_1_1 := comes_1 fun _ _ _ _ _ _ h hF => ⟨h.1, hF⟩
theorem main_1_2 : Claimed_1_2 := comes_1 fun _ _ _ _ _ _ h hF => ⟨h.2.1, hF⟩
end Jvm.Pilot.@@N@@
namespace Jvm.Pilot.@@N@@
open Jvm Jvm.ClassFile Sem Op Lib Jvm.Free Jvm.Stand Jvm.Pilot.@@N@@.Jvm.D
/-! MADE BY PROGRAM (witnessworld.py) out of the Statement's table words and the real class files: 10 classes; the members and pool entries that the words name. The judged class is class 1, her method 2. -/
namespace start1
open Jvm.ClassFile
def u (s : String) : CpInfo := .utf8 (stringToUtf16 s)
/-- a pool by its gaps: so many unusable entries, then the entry; so many at the end -/
def gap : Nat → List CpInfo → List CpInfo
  | 0, r => r
  | n + 1, r => .unusable :: gap n r
def poolList (es : List (Nat × CpInfo)) (last : Nat) : List CpInfo := es.foldr (fun e r => gap e.1 (e.2 :: r)) (gap last [])
def pool (es : List (Nat × CpInfo)) (last : Nat) : Array CpInfo := ⟨poolList es last⟩
def fileOf (pool : Array CpInfo) (this : Nat) (attrs : Array Attribute := #[]) (ms : Array MethodInfo := #[]) (fl : Nat := 33) (sup : Nat := 0) (ifs : Array Nat := #[]) (fds : Array FieldInfo := #[]) : ClassFile where
  minorVersion := 0
  majorVersion := 65
  constantPool := pool
  accessFlags := fl
  thisClass := this
  superClass := sup
  interfaces := ifs
  fields := fds
  methods := ms
  attributes := attrs
def plain (name : String) (sup : Option ClassId) : Class where
  name := name
  kind := .ordinary
  loader := none
  accessFlags := 33
  super := sup
  interfaces := #[]
  cf := none
  fields := #[]
  methods := #[]
  instanceTypes := #[]
  staticTypes := #[]
  resolved := #[]
  callSites := []
  init := .initialized
  statics := none
  mirror := none

def pool0 : Array CpInfo := pool [(5, u "<init>"), (0, u "()V"), (1, .class_ 10), (1, u "java/lang/Object")] 113

def k0m0 : Method := { name := "<init>", desc := "()V", sig := { parameters := [], returnType := none }, accessFlags := 1, code := none }
/-- java/lang/Object -/
def k0 : Class := { plain "java/lang/Object" none with
  accessFlags := 33
  interfaces := #[]
  cf := some (fileOf pool0 8 #[] #[{ accessFlags := 1, nameIndex := 5, descriptorIndex := 6, attributes := #[] }] 33 0 #[] #[])
  fields := #[]
  methods := #[k0m0]
  instanceTypes := #[]
  staticTypes := #[]
  resolved := Array.replicate 124 none
  statics := none }

def pool1 : Array CpInfo := pool [(2, .class_ 4), (1, u "java/lang/Object"), (0, u "<init>"), (0, u "()V"), (0, .methodref 8 9), (0, .class_ 10), (0, .nameAndType 11 12), (0, u "com/example/tierbook/tierbook/ClockWindow"), (0, u "withinDay"), (0, u "(I)Z"), (0, .methodref 14 15), (0, .class_ 16), (0, .nameAndType 17 12), (0, u "com/example/tierbook/tierbook/ClockWindowWithinDayPinLaw"), (0, u "reading"), (3, u "law"), (0, u "(II)Z")] 2

def k1m0 : Method := { name := "<init>", desc := "()V", sig := { parameters := [], returnType := none }, accessFlags := 2, code := none }
def k1c1 : Code := { maxStack := 2, maxLocals := 3, code := method_2_code, exceptionTable := #[], attributes := #[] }
def k1m1 : Method := { name := "reading", desc := "(I)Z", sig := { parameters := [.int], returnType := some .boolean }, accessFlags := 10, code := some k1c1 }
def k1c2 : Code := { maxStack := 2, maxLocals := 8, code := code, exceptionTable := #[], attributes := #[] }
def k1m2 : Method := { name := "law", desc := "(II)Z", sig := { parameters := [.int, .int], returnType := some .boolean }, accessFlags := 9, code := some k1c2 }
/-- com/example/tierbook/tierbook/ClockWindowWithinDayPinLaw -/
def k1 : Class := { plain "com/example/tierbook/tierbook/ClockWindowWithinDayPinLaw" (some 0) with
  accessFlags := 49
  interfaces := #[]
  cf := some (fileOf pool1 14 #[] #[{ accessFlags := 2, nameIndex := 5, descriptorIndex := 6, attributes := #[] }, { accessFlags := 10, nameIndex := 17, descriptorIndex := 12, attributes := #[] }, { accessFlags := 9, nameIndex := 21, descriptorIndex := 22, attributes := #[] }] 49 2 #[] #[])
  fields := #[]
  methods := #[k1m0, k1m1, k1m2]
  instanceTypes := #[]
  staticTypes := #[]
  resolved := Array.replicate 25 none
  statics := none }

def pool2 : Array CpInfo := pool [(2, .class_ 4), (1, u "java/lang/Object"), (0, u "<init>"), (0, u "()V"), (0, .class_ 8), (0, u "java/lang/Record")] 13

def k2m0 : Method := { name := "<init>", desc := "()V", sig := { parameters := [], returnType := none }, accessFlags := 4, code := none }
/-- java/lang/Record -/
def k2 : Class := { plain "java/lang/Record" (some 0) with
  accessFlags := 1057
  interfaces := #[]
  cf := some (fileOf pool2 7 #[] #[{ accessFlags := 4, nameIndex := 5, descriptorIndex := 6, attributes := #[] }] 1057 2 #[] #[])
  fields := #[]
  methods := #[k2m0]
  instanceTypes := #[]
  staticTypes := #[]
  resolved := Array.replicate 22 none
  statics := none }

def pool3 : Array CpInfo := pool [(2, .class_ 4), (1, u "java/lang/Record"), (3, .class_ 10), (1, u "com/example/tierbook/tierbook/ClockWindow"), (13, u "startMinute"), (0, u "I"), (2, u "endMinute"), (2, u "withinDay"), (0, u "(I)Z"), (50, u "WHOLE_DAY"), (0, u "Lcom/example/tierbook/tierbook/ClockWindow;"), (0, u "MINUTES_PER_DAY")] 45

def k3c0 : Code := { maxStack := 2, maxLocals := 1, code := prog_7_method_2_code, exceptionTable := #[], attributes := #[] }
def k3m0 : Method := { name := "withinDay", desc := "(I)Z", sig := { parameters := [.int], returnType := some .boolean }, accessFlags := 9, code := some k3c0 }
/-- com/example/tierbook/tierbook/ClockWindow -/
def k3 : Class := { plain "com/example/tierbook/tierbook/ClockWindow" (some 2) with
  accessFlags := 49
  interfaces := #[]
  cf := some (fileOf pool3 8 #[] #[{ accessFlags := 9, nameIndex := 31, descriptorIndex := 32, attributes := #[] }] 49 2 #[] #[{ accessFlags := 18, nameIndex := 24, descriptorIndex := 25, attributes := #[] }, { accessFlags := 18, nameIndex := 28, descriptorIndex := 25, attributes := #[] }, { accessFlags := 26, nameIndex := 85, descriptorIndex := 25, attributes := #[] }, { accessFlags := 25, nameIndex := 83, descriptorIndex := 84, attributes := #[] }])
  fields := #[{ name := "startMinute", type := .int, accessFlags := 18, slot := 0, constantValue := 0 }, { name := "endMinute", type := .int, accessFlags := 18, slot := 1, constantValue := 0 }, { name := "MINUTES_PER_DAY", type := .int, accessFlags := 26, slot := 0, constantValue := 0 }, { name := "WHOLE_DAY", type := (.object "com/example/tierbook/tierbook/ClockWindow"), accessFlags := 25, slot := 1, constantValue := 0 }]
  methods := #[k3m0]
  instanceTypes := #[.int, .int]
  staticTypes := #[.int, (.object "com/example/tierbook/tierbook/ClockWindow")]
  resolved := Array.replicate 131 none
  statics := none }

def pool4 : Array CpInfo := pool [(1, u "java/lang/Cloneable"), (0, .class_ 1), (0, u "java/lang/Object"), (0, .class_ 3)] 3

/-- java/lang/Cloneable -/
def k4 : Class := { plain "java/lang/Cloneable" (some 0) with
  accessFlags := 1537
  interfaces := #[]
  cf := some (fileOf pool4 2 #[] #[] 1537 4 #[] #[])
  fields := #[]
  methods := #[]
  instanceTypes := #[]
  staticTypes := #[]
  resolved := Array.replicate 8 none
  statics := none }

def pool5 : Array CpInfo := pool [(1, u "java/io/Serializable"), (0, .class_ 1), (0, u "java/lang/Object"), (0, .class_ 3)] 3

/-- java/io/Serializable -/
def k5 : Class := { plain "java/io/Serializable" (some 0) with
  accessFlags := 1537
  interfaces := #[]
  cf := some (fileOf pool5 2 #[] #[] 1537 4 #[] #[])
  fields := #[]
  methods := #[]
  instanceTypes := #[]
  staticTypes := #[]
  resolved := Array.replicate 8 none
  statics := none }

/-- the primitive byte -/
def k6 : Class := { plain "byte" none with kind := .primitive 'B', accessFlags := 0x411 }
/-- [B -/
def k7 : Class := { plain "[B" (some 0) with kind := .array 6 .byte, interfaces := #[4, 5], accessFlags := 1041 }

/-- the primitive int -/
def k8 : Class := { plain "int" none with kind := .primitive 'I', accessFlags := 0x411 }
/-- [I -/
def k9 : Class := { plain "[I" (some 0) with kind := .array 8 .int, interfaces := #[4, 5], accessFlags := 1041 }

def heap : Heap := #[]
def classes : Array Class := #[k0, k1, k2, k3, k4, k5, k6, k7, k8, k9]
def interned : List (Array UInt16 × Addr) := []
def slotsUsed : Nat := 0
def theMethod : MethodId := ⟨1, 2⟩
def args0 : Array Value := #[.int 5, .int 3]
def aboutOver (below : List Frame) : State where
  vm := { classes := classes, interned := interned.toArray }
  heap := heap
  slotsUsed := slotsUsed
  threads := #[{ frames := .invoking theMethod args0 :: below }]
def below0 : List Frame := [.native { method := ⟨0, 0⟩, args := #[] }]
def about1 : State := aboutOver below0
def p0 : Program := .bare "" "" ""
def e0 : Env := launch0.env 0 0 0
theorem w_frames : about1.frames = Frame.invoking theMethod args0 :: below0 := rfl
set_option maxRecDepth 65536 in
theorem w_args : argsFit about1.vm theMethod args0 = true := by decide +kernel
set_option maxRecDepth 65536 in
theorem w_heap : heapFits about1 = true := by decide +kernel
set_option maxRecDepth 65536 in
theorem w_runnable : about1.curStatus? = some .runnable := by decide +kernel
set_option maxRecDepth 65536 in
theorem w_alone : about1.alone = true := by decide +kernel
set_option maxRecDepth 65536 in
theorem w_named : about1.methodNamed? x = some theMethod := by decide +kernel
set_option maxRecDepth 65536 in
theorem w_hears : about1.hears theMethod below0 = true := by decide +kernel
set_option maxRecDepth 65536 in
theorem w_ripe : about1.ripe theMethod args0 below0 = true := by decide +kernel
theorem w_running : about1.status = .running := rfl
set_option maxRecDepth 65536 in
theorem w_room : about1.hasRoom e0.platform room_1 = true :=
  launch0.hasRoom_least _ room_1 (by decide +kernel) (by decide +kernel) (by decide +kernel) (by decide +kernel) (by decide +kernel) (by decide +kernel)
theorem allAtoms_all (ts : List Jvm.Cond) (a : Array Jvm.Value) (st : Jvm.State) : (allAtoms ts).before a st = ts.all (fun c => c.before a st) := by
  induction ts with
  | nil => rfl
  | cons c t ih =>
    show (Jvm.Cond.and c (allAtoms t)).before a st = _
    rw [Jvm.Cond.before_and, ih, List.all_cons]
def words1 : List Jvm.Cond := Jvm.Cond.code x code maxLocals ret :: tables_1
/-- a 'code' word, met by the world's own term for the bytes: nothing is compared byte by byte -/
theorem code_word {y : MethodName} {bytes : ByteArray} {mx : Nat} {rt : Option FieldType} {a : Array Value} {s : State} {m : MethodId} {meth : Method} {c : Code} (h1 : s.methodNamed? y = some m) (h2 : s.vm.method? m = some meth) (h3 : meth.code = some c) (h4 : c.code = bytes)
    (h5 : (c.maxLocals == mx && c.exceptionTable.isEmpty && decide (c.maxStack ≤ mostOperands) && decide (meth.sig.returnType = rt) && !meth.locks && decide (parseMethodDescriptor y.desc = some meth.sig)) = true) : (Jvm.Cond.code y bytes mx rt).before a s = true := by
  simp only [Bool.and_eq_true, beq_iff_eq, Bool.not_eq_true', decide_eq_true_eq] at h5
  obtain ⟨⟨⟨⟨⟨g1, g2⟩, g3⟩, g4⟩, g5⟩, g6⟩ := h5
  simp [Cond.before, Cond.holds, Cond.value, h1, h2, h3, h4, g1, g2, g3, g4, g5, g6]
def isCode : Jvm.Cond → Bool
  | .code _ _ _ _ => true
  | _ => false
theorem all_split {L : List Jvm.Cond} {P : Jvm.Cond → Bool} (h1 : L.all (fun c => isCode c || P c) = true) (h2 : ∀ c ∈ L.filter isCode, P c = true) : L.all P = true := by
  refine List.all_eq_true.mpr fun c hc => ?_
  have h := List.all_eq_true.mp h1 c hc
  rcases Bool.eq_false_or_eq_true (isCode c) with hi | hi
  · exact h2 c (List.mem_filter.mpr ⟨hc, hi⟩)
  · simpa [hi] using h
set_option maxRecDepth 65536 in
theorem w_c0 : (Jvm.Cond.code x code maxLocals ret).before args0 about1 = true := code_word (m := ⟨1, 2⟩) (meth := k1m2) (c := k1c2) (by decide +kernel) rfl rfl rfl (by decide +kernel)
set_option maxRecDepth 65536 in
theorem w_c1 : (Jvm.Cond.code ({ cls := "com/example/tierbook/tierbook/ClockWindow", name := "withinDay", desc := "(I)Z" } : Jvm.MethodName) prog_7_method_2_code (1 : Nat) (Option.some Jvm.ClassFile.FieldType.boolean)).before args0 about1 = true := code_word (m := ⟨3, 0⟩) (meth := k3m0) (c := k3c0) (by decide +kernel) rfl rfl rfl (by decide +kernel)
set_option maxRecDepth 65536 in
theorem w_c2 : (Jvm.Cond.code ({ cls := "com/example/tierbook/tierbook/ClockWindowWithinDayPinLaw", name := "reading", desc := "(I)Z" } : Jvm.MethodName) method_2_code (3 : Nat) (Option.some Jvm.ClassFile.FieldType.boolean)).before args0 about1 = true := code_word (m := ⟨1, 1⟩) (meth := k1m1) (c := k1c1) (by decide +kernel) rfl rfl rfl (by decide +kernel)
def codes1 : List Jvm.Cond := [Jvm.Cond.code x code maxLocals ret, Jvm.Cond.code ({ cls := "com/example/tierbook/tierbook/ClockWindow", name := "withinDay", desc := "(I)Z" } : Jvm.MethodName) prog_7_method_2_code (1 : Nat) (Option.some Jvm.ClassFile.FieldType.boolean), Jvm.Cond.code ({ cls := "com/example/tierbook/tierbook/ClockWindowWithinDayPinLaw", name := "reading", desc := "(I)Z" } : Jvm.MethodName) method_2_code (3 : Nat) (Option.some Jvm.ClassFile.FieldType.boolean)]
set_option maxRecDepth 65536 in
theorem codes_eq : words1.filter isCode = codes1 := rfl
theorem w_codes : ∀ c ∈ words1.filter isCode, c.before args0 about1 = true := by
  rw [codes_eq]
  intro c hc
  simp only [codes1, List.mem_cons, List.not_mem_nil, or_false] at hc
  rcases hc with rfl | rfl | rfl
  · exact w_c0
  · exact w_c1
  · exact w_c2
set_option maxRecDepth 65536 in
theorem w_t1 : words1.all (fun c => isCode c || c.before args0 about1) = true := by decide +kernel
theorem w_tables : (allAtoms (Jvm.Cond.code x code maxLocals ret :: tables_1)).before args0 about1 = true := by
  rw [allAtoms_all]
  show words1.all (fun c => c.before args0 about1) = true
  refine all_split ?_ w_codes
  rw [w_t1]
set_option maxRecDepth 65536 in
theorem w_case : (Jvm.Cond.and given_1 narrow_1).before args0 about1 = true := by decide +kernel
theorem w_applies : (headSpec (Jvm.Cond.code x code maxLocals ret :: tables_1) room_1).applies x e0.platform about1 = true :=
  (Spec.applies_iff w_frames).mpr ⟨w_running, w_runnable, w_alone, w_named, w_hears, w_ripe, w_room, w_tables⟩
theorem atStart : AtStart classFile x code maxLocals ret World_1 tables_1 room_1 Calls_1 rest_1 Pre_1 launch0 p0 e0 about1 theMethod args0 below0 :=
  ⟨lists_1, trivial, launch0.admits_env _ _ _, launch0.least_env, fairChoices_fair.cas, fairChoices_fair.clock, w_frames, w_args, w_heap, w_applies, trivial, trivial, w_case⟩
end start1
theorem witness_1 : WitnessClaimed_1 := ⟨start1.p0, start1.e0, start1.about1, start1.theMethod, start1.args0, start1.below0, start1.atStart⟩
end Jvm.Pilot.@@N@@
