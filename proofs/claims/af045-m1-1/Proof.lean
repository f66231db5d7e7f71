import JvmDerived
import JvmDerived.Pilot.@@N@@Statement
import JvmDerived.Pilot.@@N@@Code
set_option linter.unusedVariables false
set_option linter.unusedSimpArgs false
namespace Jvm.RoadKit
open Sem ClassFile Op Lib Jvm.Stand Jvm.Free Jvm.LawKit
section New
variable {p : Program} {l : Launch} {e : Env} {R : Room} {s : State} {m : MethodId} {args : Array Value} {below : List Frame} {meth : Method} {c : Code} {T T' : State} {locs : List Loc} {cells slots cs sl : Nat} {Q : Option Value → Heap → List Loc → Prop}
/-- from T the run ends, and Q holds at the end -/
def Gl (p : Program) (e : Env) (below : List Frame) (s : State) (Q : Option Value → Heap → List Loc → Prop) (cs sl : Nat) (T : State) : Prop :=
  ∃ s₂ o, Steps p.tables e below T s₂ ∧ s₂.status = .running ∧ Ended s₂ below o ∧ ∃ v L, o = .returned v ∧ Q v s₂.heap L ∧ FrameEnd s o s₂ L cs sl
theorem Gl.st (k : ∀ t, Steps p.tables e below T' t → Steps p.tables e below T t) (h : Gl p e below s Q cs sl T') : Gl p e below s Q cs sl T := by
  obtain ⟨a, o, h1, r⟩ := h
  exact ⟨a, o, k _ h1, r⟩
theorem Gl.to (k : Steps p.tables e below T T') (h : Gl p e below s Q cs sl T') : Gl p e below s Q cs sl T := Gl.st (fun _ q => k.trans q) h
theorem Gl.fin (X : Stand p l e R s m args below meth c T locs cells slots) {v : Option Value} (hv : meth.sig.returnType = none → v = none) (hlk : meth.locks = false) (hQ : Q v T.heap locs) (hc : cells ≤ cs) (hs : slots ≤ sl) {S0 : State}
    (k : ∀ fs, (∀ (f : JFrame) (acts : List Action), f.method = m → f.locked = none → f.entered = [] → (doReturn e (T.setTop f) acts v).1 = T.setFrames fs) → Steps p.tables e below S0 (T.setFrames fs)) : Gl p e below s Q cs sl S0 := by
  obtain ⟨fs, hr, hrun, hended, hW, hsame⟩ := X.leave hv hlk
  exact ⟨_, _, k fs hr, hrun, hended, v, locs, rfl, hQ, ⟨_, rfl⟩, hW, hsame.mono hc hs⟩
theorem Gl.retN (X : Stand p l e R s m args below meth c T locs cells slots) (hx : p.tables.exec = Jvm.exec) (hlk : meth.locks = false) {pc : Nat} {Ls : Array Slot} {z : Int32} {t : FieldType} {rest : List Value} (hret : meth.sig.returnType = some t) (ht : t = .boolean ∨ t = .byte ∨ t = .char ∨ t = .short)
    (hd : decode c.code pc = .ok (.ireturn, 1)) (hQ : Q (some (.int (nar t z))) T.heap locs) (hc : cells ≤ cs) (hs : slots ≤ sl) : Gl p e below s Q cs sl (T.setTop (mkF m pc Ls (.int z :: rest))) :=
  Gl.fin X (fun h => by rw [hret] at h; cases h) hlk hQ hc hs fun _ hr => Jvm.RoadKit.retN X hx hret ht hd hr
theorem Gl.retI (X : Stand p l e R s m args below meth c T locs cells slots) (hx : p.tables.exec = Jvm.exec) (hlk : meth.locks = false) {pc : Nat} {Ls : Array Slot} {z : Int32} {rest : List Value} (hret : meth.sig.returnType = some .int)
    (hd : decode c.code pc = .ok (.ireturn, 1)) (hQ : Q (some (.int z)) T.heap locs) (hc : cells ≤ cs) (hs : slots ≤ sl) : Gl p e below s Q cs sl (T.setTop (mkF m pc Ls (.int z :: rest))) :=
  Gl.fin X (fun h => by rw [hret] at h; cases h) hlk hQ hc hs fun _ hr => retOut X hx hret rfl (Or.inl ⟨rfl, Or.inl rfl, z, rfl⟩) hd hr
theorem Gl.retJ (X : Stand p l e R s m args below meth c T locs cells slots) (hx : p.tables.exec = Jvm.exec) (hlk : meth.locks = false) {pc : Nat} {Ls : Array Slot} {z : Int64} {rest : List Value} (hret : meth.sig.returnType = some .long)
    (hd : decode c.code pc = .ok (.lreturn, 1)) (hQ : Q (some (.long z)) T.heap locs) (hc : cells ≤ cs) (hs : slots ≤ sl) : Gl p e below s Q cs sl (T.setTop (mkF m pc Ls (.long z :: rest))) :=
  Gl.fin X (fun h => by rw [hret] at h; cases h) hlk hQ hc hs fun _ hr => retOut X hx hret rfl (Or.inr (Or.inl ⟨rfl, rfl, z, rfl⟩)) hd hr
theorem Gl.retV (X : Stand p l e R s m args below meth c T locs cells slots) (hx : p.tables.exec = Jvm.exec) (hlk : meth.locks = false) {pc : Nat} {Ls : Array Slot} (hret : meth.sig.returnType = none)
    (hd : decode c.code pc = .ok (.return_, 1)) (hQ : Q none T.heap locs) (hc : cells ≤ cs) (hs : slots ≤ sl) : Gl p e below s Q cs sl (T.setTop (mkF m pc Ls [])) :=
  Gl.fin X (fun _ => rfl) hlk hQ hc hs fun _ hr => X.returnOut hx hret hd hr
/-- .. where String constants may have been interned -/
def GlW (p : Program) (e : Env) (below : List Frame) (s : State) (Q : Option Value → Heap → List Loc → Prop) (cs sl : Nat) (T : State) : Prop :=
  ∃ s₂ o, Steps p.tables e below T s₂ ∧ s₂.status = .running ∧ Ended s₂ below o ∧ ∃ v L, o = .returned v ∧ Q v s₂.heap L ∧ ReturnedEndW s o s₂ L cs sl
theorem GlW.st (k : ∀ t, Steps p.tables e below T' t → Steps p.tables e below T t) (h : GlW p e below s Q cs sl T') : GlW p e below s Q cs sl T := by
  obtain ⟨a, o, h1, r⟩ := h
  exact ⟨a, o, k _ h1, r⟩
theorem GlW.to (k : Steps p.tables e below T T') (h : GlW p e below s Q cs sl T') : GlW p e below s Q cs sl T := GlW.st (fun _ q => k.trans q) h
theorem GlW.retN {vm₁ : Vm} (X : Stand p l e R (s.setVm vm₁) m args below meth c T locs cells slots) (hx : p.tables.exec = Jvm.exec) {n : Nat} (hS : s.Since vm₁ n) (hn : n ≤ T.heap.size) (hlk : meth.locks = false) {pc : Nat} {Ls : Array Slot} {z : Int32} {t : FieldType} {rest : List Value} (hret : meth.sig.returnType = some t) (ht : t = .boolean ∨ t = .byte ∨ t = .char ∨ t = .short)
    (hd : decode c.code pc = .ok (.ireturn, 1)) (hQ : Q (some (.int (nar t z))) T.heap locs) (hc : cells ≤ cs) (hs : slots ≤ sl) : GlW p e below s Q cs sl (T.setTop (mkF m pc Ls (.int z :: rest))) := by
  obtain ⟨fs, hr, hrun, hended, h1, h2, h3, h4⟩ := X.leaveW hS hn (v := some (.int (nar t z))) (fun h => by rw [hret] at h; cases h) hlk
  exact ⟨_, _, Jvm.RoadKit.retN X hx hret ht hd hr, hrun, hended, _, locs, rfl, hQ, h1, h2, h3, h4.mono hc hs⟩
theorem lc_t {x y : Int64} (h : x < y) : ifCond.holds .lt (lcmpW x y) = true ∧ ifCond.holds .ge (lcmpW x y) = false ∧ ifCond.holds .gt (lcmpW y x) = true ∧ ifCond.holds .le (lcmpW y x) = false :=
  have a := tlt ((lw_lt x y).mpr h)
  have b := tlt ((lw_gt y x).mpr h)
  ⟨(if0 _ _).trans a.1, (if0 _ _).trans a.2.1, (if0 _ _).trans b.2.2.1, (if0 _ _).trans b.2.2.2⟩
theorem lc_f {x y : Int64} (h : ¬ x < y) : ifCond.holds .lt (lcmpW x y) = false ∧ ifCond.holds .ge (lcmpW x y) = true ∧ ifCond.holds .gt (lcmpW y x) = false ∧ ifCond.holds .le (lcmpW y x) = true :=
  have a := flt (fun q => h ((lw_lt x y).mp q))
  have b := flt (fun q => h ((lw_gt y x).mp q))
  ⟨(if0 _ _).trans a.1, (if0 _ _).trans a.2.1, (if0 _ _).trans b.2.2.1, (if0 _ _).trans b.2.2.2⟩
theorem le_t {x y : Int64} (h : x = y) : ifCond.holds .eq (lcmpW x y) = true ∧ ifCond.holds .ne (lcmpW x y) = false :=
  have a := teq ((lw_eq x y).mpr h)
  ⟨(if0 _ _).trans a.1, (if0 _ _).trans a.2⟩
theorem le_f {x y : Int64} (h : ¬ x = y) : ifCond.holds .eq (lcmpW x y) = false ∧ ifCond.holds .ne (lcmpW x y) = true :=
  have a := feq (fun q => h ((lw_eq x y).mp q))
  ⟨(if0 _ _).trans a.1, (if0 _ _).trans a.2⟩
end New
end Jvm.RoadKit
namespace Jvm.Pilot.@@N@@
open Jvm Jvm.ClassFile Sem Op Lib Jvm.Free Jvm.Stand Jvm.LawKit Jvm.RoadKit Bundle Jvm.Pilot.@@N@@.Jvm.D
def own_min (p1 : Int32) (p2 : Int32) : Int32 := (if p2 < p1 then p2 else p1)
theorem d1_0 : decode jdk_29_method_69_code 0 = .ok (.iload_n 0, 1) := by decide +kernel
theorem d1_1 : decode jdk_29_method_69_code 1 = .ok (.iload_n 1, 1) := by decide +kernel
theorem d1_2 : decode jdk_29_method_69_code 2 = .ok (.if_icmp .gt 7, 3) := by decide +kernel
theorem d1_5 : decode jdk_29_method_69_code 5 = .ok (.iload_n 0, 1) := by decide +kernel
theorem d1_6 : decode jdk_29_method_69_code 6 = .ok (.goto 4, 3) := by decide +kernel
theorem d1_9 : decode jdk_29_method_69_code 9 = .ok (.iload_n 1, 1) := by decide +kernel
theorem d1_10 : decode jdk_29_method_69_code 10 = .ok (.ireturn, 1) := by decide +kernel
theorem pf_0 : plainFor (⟨"java/lang/Math", "min", "(II)I"⟩ : MethodName) = true := by decide +kernel
def Q1 (Z : State) (p1 : Int32) (p2 : Int32) (h0 : Heap) (n0 : Nat) (v : Option Value) (h : Heap) (L : List Loc) : Prop := v = some (.int (own_min p1 p2)) ∧ Fr n0 L ∧ h = h0
theorem ef_1 (m : MethodId) (p1 : Int32) (p2 : Int32) : entryFrame m #[(.int p1), (.int p2)] 2 = mkF m 0 #[.val (.int p1), .val (.int p2)] [] := by first | (simp [entryFrame, mkF, argsToLocals, Value.category]; done) | rfl
set_option maxRecDepth 65536 in
set_option maxHeartbeats 40000000 in
theorem rm1 (l : Launch) (Z : State) (a0 : Array Value) (hw : ∀ d ∈ tables_1, d.before a0 Z = true) (ws : List Jvm.Cond) (p1 : Int32) (p2 : Int32) (h0 : Heap) (n0 : Nat) :
    MetFree l (⟨"java/lang/Math", "min", "(II)I"⟩ : MethodName) (head1 (Jvm.Cond.code (⟨"java/lang/Math", "min", "(II)I"⟩ : MethodName) jdk_29_method_69_code 2 (some .int) :: ws) ({ frames := 0, cells := 0, slots := 0, locals := 0 } : Room)) (fun a U => a = #[(.int p1), (.int p2)] ∧ Z.Warmed39 U.vm ∧ U.heap = h0) (fun _ _ _ _ _ => True) (fun _ U o U' => ∃ v L, o = .returned v ∧ Q1 Z p1 p2 h0 n0 v U'.heap L ∧ FrameEnd U o U' L ({ frames := 0, cells := 0, slots := 0, locals := 0 } : Room).cells ({ frames := 0, cells := 0, slots := 0, locals := 0 } : Room).slots) := by
  refine MetFree.of_bodySF pf_0 hisR ?_
  intro p e s m args below meth c s₁ Bd hml0 hP hK
  obtain ⟨rfl, hZ, hh⟩ := hP
  have hx := Bd.exec
  have hby := Bd.bytes
  have hlk : meth.locks = false := BodyLoose.notSynchronized Bd
  have hml : c.maxLocals = 2 := hml0
  have hown : s.vm.findClass "java/lang/Math" = some m.cls := findClass_of_methodNamed Bd.named
  have hnm := (name_of_methodNamed Bd.named Bd.method).1
  have X0 : Stand p l e ({ frames := 0, cells := 0, slots := 0, locals := 0 } : Room) s m #[(.int p1), (.int p2)] below meth c s₁ [] 0 0 := Stand.of_body Bd
  have e0 : s₁.heap = h0 := by rw [← hh, Bd.state]; rfl
  have N0 := Fr.nil n0
  show Gl p e below s (Q1 Z p1 p2 h0 n0) ({ frames := 0, cells := 0, slots := 0, locals := 0 } : Room).cells ({ frames := 0, cells := 0, slots := 0, locals := 0 } : Room).slots (s₁.setTop (entryFrame m #[(.int p1), (.int p2)] 2))
  rw [ef_1]
  show Gl _ _ _ _ _ _ _ (s₁.setTop (mkF m 0 #[.val (.int p1), .val (.int p2)] []))
  refine Gl.st (fun t k => XS.iloadN X0.here hx rfl (hb hby d1_0) rfl  k) ?_
  show Gl _ _ _ _ _ _ _ (s₁.setTop (mkF m 1 #[.val (.int p1), .val (.int p2)] [(.int p1)]))
  refine Gl.st (fun t k => XS.iloadN X0.here hx rfl (hb hby d1_1) rfl  k) ?_
  show Gl _ _ _ _ _ _ _ (s₁.setTop (mkF m 2 #[.val (.int p1), .val (.int p2)] [(.int p2), (.int p1)]))
  by_cases hc2 : p2 < p1
  · refine Gl.st (fun t k => XS.icmpYes X0.here hx rfl (pc0 := 2) (pc' := 9) rfl (hb hby d1_2) rfl (tlt hc2).2.2.1 (by decide) (by decide) k) ?_
    show Gl _ _ _ _ _ _ _ (s₁.setTop (mkF m 9 #[.val (.int p1), .val (.int p2)] []))
    refine Gl.st (fun t k => XS.iloadN X0.here hx rfl (hb hby d1_9) rfl  k) ?_
    show Gl _ _ _ _ _ _ _ (s₁.setTop (mkF m 10 #[.val (.int p1), .val (.int p2)] [(.int p2)]))
    exact Gl.retI X0 hx hlk Bd.returns (hb hby d1_10) (⟨congrArg (fun z => some (Value.int z)) (show p2 = own_min p1 p2 from by simp only [own_min, if_pos hc2]), N0, e0⟩) (by decide) (by decide)
  · refine Gl.st (fun t k => XS.icmpNo X0.here hx rfl (hb hby d1_2) rfl (flt hc2).2.2.1 k) ?_
    show Gl _ _ _ _ _ _ _ (s₁.setTop (mkF m 5 #[.val (.int p1), .val (.int p2)] []))
    refine Gl.st (fun t k => XS.iloadN X0.here hx rfl (hb hby d1_5) rfl  k) ?_
    show Gl _ _ _ _ _ _ _ (s₁.setTop (mkF m 6 #[.val (.int p1), .val (.int p2)] [(.int p1)]))
    refine Gl.st (fun t k => XS.goto X0.here hx rfl (pc0 := 6) (pc' := 10) rfl (hb hby d1_6) (by decide) (by decide) k) ?_
    show Gl _ _ _ _ _ _ _ (s₁.setTop (mkF m 10 #[.val (.int p1), .val (.int p2)] [(.int p1)]))
    exact Gl.retI X0 hx hlk Bd.returns (hb hby d1_10) (⟨congrArg (fun z => some (Value.int z)) (show p1 = own_min p1 p2 from by simp only [own_min, if_neg hc2]), N0, e0⟩) (by decide) (by decide)
def own_max (p1 : Int32) (p2 : Int32) : Int32 := (if p1 < p2 then p2 else p1)
theorem d2_0 : decode jdk_29_method_65_code 0 = .ok (.iload_n 0, 1) := by decide +kernel
theorem d2_1 : decode jdk_29_method_65_code 1 = .ok (.iload_n 1, 1) := by decide +kernel
theorem d2_2 : decode jdk_29_method_65_code 2 = .ok (.if_icmp .lt 7, 3) := by decide +kernel
theorem d2_5 : decode jdk_29_method_65_code 5 = .ok (.iload_n 0, 1) := by decide +kernel
theorem d2_6 : decode jdk_29_method_65_code 6 = .ok (.goto 4, 3) := by decide +kernel
theorem d2_9 : decode jdk_29_method_65_code 9 = .ok (.iload_n 1, 1) := by decide +kernel
theorem d2_10 : decode jdk_29_method_65_code 10 = .ok (.ireturn, 1) := by decide +kernel
theorem pf_1 : plainFor (⟨"java/lang/Math", "max", "(II)I"⟩ : MethodName) = true := by decide +kernel
def Q2 (Z : State) (p1 : Int32) (p2 : Int32) (h0 : Heap) (n0 : Nat) (v : Option Value) (h : Heap) (L : List Loc) : Prop := v = some (.int (own_max p1 p2)) ∧ Fr n0 L ∧ h = h0
theorem ef_2 (m : MethodId) (p1 : Int32) (p2 : Int32) : entryFrame m #[(.int p1), (.int p2)] 2 = mkF m 0 #[.val (.int p1), .val (.int p2)] [] := by first | (simp [entryFrame, mkF, argsToLocals, Value.category]; done) | rfl
set_option maxRecDepth 65536 in
set_option maxHeartbeats 40000000 in
theorem rm2 (l : Launch) (Z : State) (a0 : Array Value) (hw : ∀ d ∈ tables_1, d.before a0 Z = true) (ws : List Jvm.Cond) (p1 : Int32) (p2 : Int32) (h0 : Heap) (n0 : Nat) :
    MetFree l (⟨"java/lang/Math", "max", "(II)I"⟩ : MethodName) (head1 (Jvm.Cond.code (⟨"java/lang/Math", "max", "(II)I"⟩ : MethodName) jdk_29_method_65_code 2 (some .int) :: ws) ({ frames := 0, cells := 0, slots := 0, locals := 0 } : Room)) (fun a U => a = #[(.int p1), (.int p2)] ∧ Z.Warmed39 U.vm ∧ U.heap = h0) (fun _ _ _ _ _ => True) (fun _ U o U' => ∃ v L, o = .returned v ∧ Q2 Z p1 p2 h0 n0 v U'.heap L ∧ FrameEnd U o U' L ({ frames := 0, cells := 0, slots := 0, locals := 0 } : Room).cells ({ frames := 0, cells := 0, slots := 0, locals := 0 } : Room).slots) := by
  refine MetFree.of_bodySF pf_1 hisR ?_
  intro p e s m args below meth c s₁ Bd hml0 hP hK
  obtain ⟨rfl, hZ, hh⟩ := hP
  have hx := Bd.exec
  have hby := Bd.bytes
  have hlk : meth.locks = false := BodyLoose.notSynchronized Bd
  have hml : c.maxLocals = 2 := hml0
  have hown : s.vm.findClass "java/lang/Math" = some m.cls := findClass_of_methodNamed Bd.named
  have hnm := (name_of_methodNamed Bd.named Bd.method).1
  have X0 : Stand p l e ({ frames := 0, cells := 0, slots := 0, locals := 0 } : Room) s m #[(.int p1), (.int p2)] below meth c s₁ [] 0 0 := Stand.of_body Bd
  have e0 : s₁.heap = h0 := by rw [← hh, Bd.state]; rfl
  have N0 := Fr.nil n0
  show Gl p e below s (Q2 Z p1 p2 h0 n0) ({ frames := 0, cells := 0, slots := 0, locals := 0 } : Room).cells ({ frames := 0, cells := 0, slots := 0, locals := 0 } : Room).slots (s₁.setTop (entryFrame m #[(.int p1), (.int p2)] 2))
  rw [ef_2]
  show Gl _ _ _ _ _ _ _ (s₁.setTop (mkF m 0 #[.val (.int p1), .val (.int p2)] []))
  refine Gl.st (fun t k => XS.iloadN X0.here hx rfl (hb hby d2_0) rfl  k) ?_
  show Gl _ _ _ _ _ _ _ (s₁.setTop (mkF m 1 #[.val (.int p1), .val (.int p2)] [(.int p1)]))
  refine Gl.st (fun t k => XS.iloadN X0.here hx rfl (hb hby d2_1) rfl  k) ?_
  show Gl _ _ _ _ _ _ _ (s₁.setTop (mkF m 2 #[.val (.int p1), .val (.int p2)] [(.int p2), (.int p1)]))
  by_cases hc2 : p1 < p2
  · refine Gl.st (fun t k => XS.icmpYes X0.here hx rfl (pc0 := 2) (pc' := 9) rfl (hb hby d2_2) rfl (tlt hc2).1 (by decide) (by decide) k) ?_
    show Gl _ _ _ _ _ _ _ (s₁.setTop (mkF m 9 #[.val (.int p1), .val (.int p2)] []))
    refine Gl.st (fun t k => XS.iloadN X0.here hx rfl (hb hby d2_9) rfl  k) ?_
    show Gl _ _ _ _ _ _ _ (s₁.setTop (mkF m 10 #[.val (.int p1), .val (.int p2)] [(.int p2)]))
    exact Gl.retI X0 hx hlk Bd.returns (hb hby d2_10) (⟨congrArg (fun z => some (Value.int z)) (show p2 = own_max p1 p2 from by simp only [own_max, if_pos hc2]), N0, e0⟩) (by decide) (by decide)
  · refine Gl.st (fun t k => XS.icmpNo X0.here hx rfl (hb hby d2_2) rfl (flt hc2).1 k) ?_
    show Gl _ _ _ _ _ _ _ (s₁.setTop (mkF m 5 #[.val (.int p1), .val (.int p2)] []))
    refine Gl.st (fun t k => XS.iloadN X0.here hx rfl (hb hby d2_5) rfl  k) ?_
    show Gl _ _ _ _ _ _ _ (s₁.setTop (mkF m 6 #[.val (.int p1), .val (.int p2)] [(.int p1)]))
    refine Gl.st (fun t k => XS.goto X0.here hx rfl (pc0 := 6) (pc' := 10) rfl (hb hby d2_6) (by decide) (by decide) k) ?_
    show Gl _ _ _ _ _ _ _ (s₁.setTop (mkF m 10 #[.val (.int p1), .val (.int p2)] [(.int p1)]))
    exact Gl.retI X0 hx hlk Bd.returns (hb hby d2_10) (⟨congrArg (fun z => some (Value.int z)) (show p1 = own_max p1 p2 from by simp only [own_max, if_neg hc2]), N0, e0⟩) (by decide) (by decide)
def own_ws (p1 : Int32) : Int32 := (if p1 = (32 : Int32) then (nar .boolean (1 : Int32)) else (if p1 = (9 : Int32) then (nar .boolean (1 : Int32)) else (if p1 = (10 : Int32) then (nar .boolean (1 : Int32)) else (if p1 = (11 : Int32) then (nar .boolean (1 : Int32)) else (if p1 = (12 : Int32) then (nar .boolean (1 : Int32)) else (if p1 = (13 : Int32) then (nar .boolean (1 : Int32)) else (nar .boolean (0 : Int32))))))))
theorem d3_0 : decode method_2_code 0 = .ok (.iload_n 0, 1) := by decide +kernel
theorem d3_1 : decode method_2_code 1 = .ok (.bipush 32, 2) := by decide +kernel
theorem d3_3 : decode method_2_code 3 = .ok (.if_icmp .eq 33, 3) := by decide +kernel
theorem d3_6 : decode method_2_code 6 = .ok (.iload_n 0, 1) := by decide +kernel
theorem d3_7 : decode method_2_code 7 = .ok (.bipush 9, 2) := by decide +kernel
theorem d3_9 : decode method_2_code 9 = .ok (.if_icmp .eq 27, 3) := by decide +kernel
theorem d3_12 : decode method_2_code 12 = .ok (.iload_n 0, 1) := by decide +kernel
theorem d3_13 : decode method_2_code 13 = .ok (.bipush 10, 2) := by decide +kernel
theorem d3_15 : decode method_2_code 15 = .ok (.if_icmp .eq 21, 3) := by decide +kernel
theorem d3_18 : decode method_2_code 18 = .ok (.iload_n 0, 1) := by decide +kernel
theorem d3_19 : decode method_2_code 19 = .ok (.bipush 11, 2) := by decide +kernel
theorem d3_21 : decode method_2_code 21 = .ok (.if_icmp .eq 15, 3) := by decide +kernel
theorem d3_24 : decode method_2_code 24 = .ok (.iload_n 0, 1) := by decide +kernel
theorem d3_25 : decode method_2_code 25 = .ok (.bipush 12, 2) := by decide +kernel
theorem d3_27 : decode method_2_code 27 = .ok (.if_icmp .eq 9, 3) := by decide +kernel
theorem d3_30 : decode method_2_code 30 = .ok (.iload_n 0, 1) := by decide +kernel
theorem d3_31 : decode method_2_code 31 = .ok (.bipush 13, 2) := by decide +kernel
theorem d3_33 : decode method_2_code 33 = .ok (.if_icmp .ne 7, 3) := by decide +kernel
theorem d3_36 : decode method_2_code 36 = .ok (.iconst 1, 1) := by decide +kernel
theorem d3_37 : decode method_2_code 37 = .ok (.goto 4, 3) := by decide +kernel
theorem d3_40 : decode method_2_code 40 = .ok (.iconst 0, 1) := by decide +kernel
theorem d3_41 : decode method_2_code 41 = .ok (.ireturn, 1) := by decide +kernel
theorem pf_2 : plainFor (⟨"com/example/ilsa/ilsa/io/LineFieldsFieldEndPinLaw", "ws", "(B)Z"⟩ : MethodName) = true := by decide +kernel
def Q3 (Z : State) (p1 : Int32) (h0 : Heap) (n0 : Nat) (v : Option Value) (h : Heap) (L : List Loc) : Prop := v = some (.int (own_ws p1)) ∧ Fr n0 L ∧ h = h0
theorem ef_3 (m : MethodId) (p1 : Int32) : entryFrame m #[(.int p1)] 1 = mkF m 0 #[.val (.int p1)] [] := by first | (simp [entryFrame, mkF, argsToLocals, Value.category]; done) | rfl
set_option maxRecDepth 65536 in
set_option maxHeartbeats 40000000 in
theorem rm3 (l : Launch) (Z : State) (a0 : Array Value) (hw : ∀ d ∈ tables_1, d.before a0 Z = true) (ws : List Jvm.Cond) (p1 : Int32) (h0 : Heap) (n0 : Nat) :
    MetFree l (⟨"com/example/ilsa/ilsa/io/LineFieldsFieldEndPinLaw", "ws", "(B)Z"⟩ : MethodName) (head1 (Jvm.Cond.code (⟨"com/example/ilsa/ilsa/io/LineFieldsFieldEndPinLaw", "ws", "(B)Z"⟩ : MethodName) method_2_code 1 (some .boolean) :: ws) ({ frames := 0, cells := 0, slots := 0, locals := 0 } : Room)) (fun a U => a = #[(.int p1)] ∧ Z.Warmed39 U.vm ∧ U.heap = h0) (fun _ _ _ _ _ => True) (fun _ U o U' => ∃ v L, o = .returned v ∧ Q3 Z p1 h0 n0 v U'.heap L ∧ FrameEnd U o U' L ({ frames := 0, cells := 0, slots := 0, locals := 0 } : Room).cells ({ frames := 0, cells := 0, slots := 0, locals := 0 } : Room).slots) := by
  refine MetFree.of_bodySF pf_2 hisR ?_
  intro p e s m args below meth c s₁ Bd hml0 hP hK
  obtain ⟨rfl, hZ, hh⟩ := hP
  have hx := Bd.exec
  have hby := Bd.bytes
  have hlk : meth.locks = false := BodyLoose.notSynchronized Bd
  have hml : c.maxLocals = 1 := hml0
  have hown : s.vm.findClass "com/example/ilsa/ilsa/io/LineFieldsFieldEndPinLaw" = some m.cls := findClass_of_methodNamed Bd.named
  have hnm := (name_of_methodNamed Bd.named Bd.method).1
  have X0 : Stand p l e ({ frames := 0, cells := 0, slots := 0, locals := 0 } : Room) s m #[(.int p1)] below meth c s₁ [] 0 0 := Stand.of_body Bd
  have e0 : s₁.heap = h0 := by rw [← hh, Bd.state]; rfl
  have N0 := Fr.nil n0
  show Gl p e below s (Q3 Z p1 h0 n0) ({ frames := 0, cells := 0, slots := 0, locals := 0 } : Room).cells ({ frames := 0, cells := 0, slots := 0, locals := 0 } : Room).slots (s₁.setTop (entryFrame m #[(.int p1)] 1))
  rw [ef_3]
  show Gl _ _ _ _ _ _ _ (s₁.setTop (mkF m 0 #[.val (.int p1)] []))
  refine Gl.st (fun t k => XS.iloadN X0.here hx rfl (hb hby d3_0) rfl  k) ?_
  show Gl _ _ _ _ _ _ _ (s₁.setTop (mkF m 1 #[.val (.int p1)] [(.int p1)]))
  refine Gl.st (fun t k => XS.bipush X0.here hx rfl (hb hby d3_1) k) ?_
  show Gl _ _ _ _ _ _ _ (s₁.setTop (mkF m 3 #[.val (.int p1)] [(.int (32 : Int32)), (.int p1)]))
  by_cases hc3 : p1 = (32 : Int32)
  · refine Gl.st (fun t k => XS.icmpYes X0.here hx rfl (pc0 := 3) (pc' := 36) rfl (hb hby d3_3) rfl (teq hc3).1 (by decide) (by decide) k) ?_
    show Gl _ _ _ _ _ _ _ (s₁.setTop (mkF m 36 #[.val (.int p1)] []))
    refine Gl.st (fun t k => XS.iconst X0.here hx rfl (hb hby d3_36) k) ?_
    show Gl _ _ _ _ _ _ _ (s₁.setTop (mkF m 37 #[.val (.int p1)] [(.int (1 : Int32))]))
    refine Gl.st (fun t k => XS.goto X0.here hx rfl (pc0 := 37) (pc' := 41) rfl (hb hby d3_37) (by decide) (by decide) k) ?_
    show Gl _ _ _ _ _ _ _ (s₁.setTop (mkF m 41 #[.val (.int p1)] [(.int (1 : Int32))]))
    exact Gl.retN X0 hx hlk Bd.returns (by simp) (hb hby d3_41) (⟨congrArg (fun z => some (Value.int z)) (show (nar .boolean (1 : Int32)) = own_ws p1 from by simp only [own_ws, if_pos hc3]), N0, e0⟩) (by decide) (by decide)
  · refine Gl.st (fun t k => XS.icmpNo X0.here hx rfl (hb hby d3_3) rfl (feq hc3).1 k) ?_
    show Gl _ _ _ _ _ _ _ (s₁.setTop (mkF m 6 #[.val (.int p1)] []))
    refine Gl.st (fun t k => XS.iloadN X0.here hx rfl (hb hby d3_6) rfl  k) ?_
    show Gl _ _ _ _ _ _ _ (s₁.setTop (mkF m 7 #[.val (.int p1)] [(.int p1)]))
    refine Gl.st (fun t k => XS.bipush X0.here hx rfl (hb hby d3_7) k) ?_
    show Gl _ _ _ _ _ _ _ (s₁.setTop (mkF m 9 #[.val (.int p1)] [(.int (9 : Int32)), (.int p1)]))
    by_cases hc9 : p1 = (9 : Int32)
    · refine Gl.st (fun t k => XS.icmpYes X0.here hx rfl (pc0 := 9) (pc' := 36) rfl (hb hby d3_9) rfl (teq hc9).1 (by decide) (by decide) k) ?_
      show Gl _ _ _ _ _ _ _ (s₁.setTop (mkF m 36 #[.val (.int p1)] []))
      refine Gl.st (fun t k => XS.iconst X0.here hx rfl (hb hby d3_36) k) ?_
      show Gl _ _ _ _ _ _ _ (s₁.setTop (mkF m 37 #[.val (.int p1)] [(.int (1 : Int32))]))
      refine Gl.st (fun t k => XS.goto X0.here hx rfl (pc0 := 37) (pc' := 41) rfl (hb hby d3_37) (by decide) (by decide) k) ?_
      show Gl _ _ _ _ _ _ _ (s₁.setTop (mkF m 41 #[.val (.int p1)] [(.int (1 : Int32))]))
      exact Gl.retN X0 hx hlk Bd.returns (by simp) (hb hby d3_41) (⟨congrArg (fun z => some (Value.int z)) (show (nar .boolean (1 : Int32)) = own_ws p1 from by simp only [own_ws, if_neg hc3, if_pos hc9]), N0, e0⟩) (by decide) (by decide)
    · refine Gl.st (fun t k => XS.icmpNo X0.here hx rfl (hb hby d3_9) rfl (feq hc9).1 k) ?_
      show Gl _ _ _ _ _ _ _ (s₁.setTop (mkF m 12 #[.val (.int p1)] []))
      refine Gl.st (fun t k => XS.iloadN X0.here hx rfl (hb hby d3_12) rfl  k) ?_
      show Gl _ _ _ _ _ _ _ (s₁.setTop (mkF m 13 #[.val (.int p1)] [(.int p1)]))
      refine Gl.st (fun t k => XS.bipush X0.here hx rfl (hb hby d3_13) k) ?_
      show Gl _ _ _ _ _ _ _ (s₁.setTop (mkF m 15 #[.val (.int p1)] [(.int (10 : Int32)), (.int p1)]))
      by_cases hc15 : p1 = (10 : Int32)
      · refine Gl.st (fun t k => XS.icmpYes X0.here hx rfl (pc0 := 15) (pc' := 36) rfl (hb hby d3_15) rfl (teq hc15).1 (by decide) (by decide) k) ?_
        show Gl _ _ _ _ _ _ _ (s₁.setTop (mkF m 36 #[.val (.int p1)] []))
        refine Gl.st (fun t k => XS.iconst X0.here hx rfl (hb hby d3_36) k) ?_
        show Gl _ _ _ _ _ _ _ (s₁.setTop (mkF m 37 #[.val (.int p1)] [(.int (1 : Int32))]))
        refine Gl.st (fun t k => XS.goto X0.here hx rfl (pc0 := 37) (pc' := 41) rfl (hb hby d3_37) (by decide) (by decide) k) ?_
        show Gl _ _ _ _ _ _ _ (s₁.setTop (mkF m 41 #[.val (.int p1)] [(.int (1 : Int32))]))
        exact Gl.retN X0 hx hlk Bd.returns (by simp) (hb hby d3_41) (⟨congrArg (fun z => some (Value.int z)) (show (nar .boolean (1 : Int32)) = own_ws p1 from by simp only [own_ws, if_neg hc3, if_neg hc9, if_pos hc15]), N0, e0⟩) (by decide) (by decide)
      · refine Gl.st (fun t k => XS.icmpNo X0.here hx rfl (hb hby d3_15) rfl (feq hc15).1 k) ?_
        show Gl _ _ _ _ _ _ _ (s₁.setTop (mkF m 18 #[.val (.int p1)] []))
        refine Gl.st (fun t k => XS.iloadN X0.here hx rfl (hb hby d3_18) rfl  k) ?_
        show Gl _ _ _ _ _ _ _ (s₁.setTop (mkF m 19 #[.val (.int p1)] [(.int p1)]))
        refine Gl.st (fun t k => XS.bipush X0.here hx rfl (hb hby d3_19) k) ?_
        show Gl _ _ _ _ _ _ _ (s₁.setTop (mkF m 21 #[.val (.int p1)] [(.int (11 : Int32)), (.int p1)]))
        by_cases hc21 : p1 = (11 : Int32)
        · refine Gl.st (fun t k => XS.icmpYes X0.here hx rfl (pc0 := 21) (pc' := 36) rfl (hb hby d3_21) rfl (teq hc21).1 (by decide) (by decide) k) ?_
          show Gl _ _ _ _ _ _ _ (s₁.setTop (mkF m 36 #[.val (.int p1)] []))
          refine Gl.st (fun t k => XS.iconst X0.here hx rfl (hb hby d3_36) k) ?_
          show Gl _ _ _ _ _ _ _ (s₁.setTop (mkF m 37 #[.val (.int p1)] [(.int (1 : Int32))]))
          refine Gl.st (fun t k => XS.goto X0.here hx rfl (pc0 := 37) (pc' := 41) rfl (hb hby d3_37) (by decide) (by decide) k) ?_
          show Gl _ _ _ _ _ _ _ (s₁.setTop (mkF m 41 #[.val (.int p1)] [(.int (1 : Int32))]))
          exact Gl.retN X0 hx hlk Bd.returns (by simp) (hb hby d3_41) (⟨congrArg (fun z => some (Value.int z)) (show (nar .boolean (1 : Int32)) = own_ws p1 from by simp only [own_ws, if_neg hc3, if_neg hc9, if_neg hc15, if_pos hc21]), N0, e0⟩) (by decide) (by decide)
        · refine Gl.st (fun t k => XS.icmpNo X0.here hx rfl (hb hby d3_21) rfl (feq hc21).1 k) ?_
          show Gl _ _ _ _ _ _ _ (s₁.setTop (mkF m 24 #[.val (.int p1)] []))
          refine Gl.st (fun t k => XS.iloadN X0.here hx rfl (hb hby d3_24) rfl  k) ?_
          show Gl _ _ _ _ _ _ _ (s₁.setTop (mkF m 25 #[.val (.int p1)] [(.int p1)]))
          refine Gl.st (fun t k => XS.bipush X0.here hx rfl (hb hby d3_25) k) ?_
          show Gl _ _ _ _ _ _ _ (s₁.setTop (mkF m 27 #[.val (.int p1)] [(.int (12 : Int32)), (.int p1)]))
          by_cases hc27 : p1 = (12 : Int32)
          · refine Gl.st (fun t k => XS.icmpYes X0.here hx rfl (pc0 := 27) (pc' := 36) rfl (hb hby d3_27) rfl (teq hc27).1 (by decide) (by decide) k) ?_
            show Gl _ _ _ _ _ _ _ (s₁.setTop (mkF m 36 #[.val (.int p1)] []))
            refine Gl.st (fun t k => XS.iconst X0.here hx rfl (hb hby d3_36) k) ?_
            show Gl _ _ _ _ _ _ _ (s₁.setTop (mkF m 37 #[.val (.int p1)] [(.int (1 : Int32))]))
            refine Gl.st (fun t k => XS.goto X0.here hx rfl (pc0 := 37) (pc' := 41) rfl (hb hby d3_37) (by decide) (by decide) k) ?_
            show Gl _ _ _ _ _ _ _ (s₁.setTop (mkF m 41 #[.val (.int p1)] [(.int (1 : Int32))]))
            exact Gl.retN X0 hx hlk Bd.returns (by simp) (hb hby d3_41) (⟨congrArg (fun z => some (Value.int z)) (show (nar .boolean (1 : Int32)) = own_ws p1 from by simp only [own_ws, if_neg hc3, if_neg hc9, if_neg hc15, if_neg hc21, if_pos hc27]), N0, e0⟩) (by decide) (by decide)
          · refine Gl.st (fun t k => XS.icmpNo X0.here hx rfl (hb hby d3_27) rfl (feq hc27).1 k) ?_
            show Gl _ _ _ _ _ _ _ (s₁.setTop (mkF m 30 #[.val (.int p1)] []))
            refine Gl.st (fun t k => XS.iloadN X0.here hx rfl (hb hby d3_30) rfl  k) ?_
            show Gl _ _ _ _ _ _ _ (s₁.setTop (mkF m 31 #[.val (.int p1)] [(.int p1)]))
            refine Gl.st (fun t k => XS.bipush X0.here hx rfl (hb hby d3_31) k) ?_
            show Gl _ _ _ _ _ _ _ (s₁.setTop (mkF m 33 #[.val (.int p1)] [(.int (13 : Int32)), (.int p1)]))
            by_cases hc33 : p1 = (13 : Int32)
            · refine Gl.st (fun t k => XS.icmpNo X0.here hx rfl (hb hby d3_33) rfl (teq hc33).2 k) ?_
              show Gl _ _ _ _ _ _ _ (s₁.setTop (mkF m 36 #[.val (.int p1)] []))
              refine Gl.st (fun t k => XS.iconst X0.here hx rfl (hb hby d3_36) k) ?_
              show Gl _ _ _ _ _ _ _ (s₁.setTop (mkF m 37 #[.val (.int p1)] [(.int (1 : Int32))]))
              refine Gl.st (fun t k => XS.goto X0.here hx rfl (pc0 := 37) (pc' := 41) rfl (hb hby d3_37) (by decide) (by decide) k) ?_
              show Gl _ _ _ _ _ _ _ (s₁.setTop (mkF m 41 #[.val (.int p1)] [(.int (1 : Int32))]))
              exact Gl.retN X0 hx hlk Bd.returns (by simp) (hb hby d3_41) (⟨congrArg (fun z => some (Value.int z)) (show (nar .boolean (1 : Int32)) = own_ws p1 from by simp only [own_ws, if_neg hc3, if_neg hc9, if_neg hc15, if_neg hc21, if_neg hc27, if_pos hc33]), N0, e0⟩) (by decide) (by decide)
            · refine Gl.st (fun t k => XS.icmpYes X0.here hx rfl (pc0 := 33) (pc' := 40) rfl (hb hby d3_33) rfl (feq hc33).2 (by decide) (by decide) k) ?_
              show Gl _ _ _ _ _ _ _ (s₁.setTop (mkF m 40 #[.val (.int p1)] []))
              refine Gl.st (fun t k => XS.iconst X0.here hx rfl (hb hby d3_40) k) ?_
              show Gl _ _ _ _ _ _ _ (s₁.setTop (mkF m 41 #[.val (.int p1)] [(.int (0 : Int32))]))
              exact Gl.retN X0 hx hlk Bd.returns (by simp) (hb hby d3_41) (⟨congrArg (fun z => some (Value.int z)) (show (nar .boolean (0 : Int32)) = own_ws p1 from by simp only [own_ws, if_neg hc3, if_neg hc9, if_neg hc15, if_neg hc21, if_neg hc27, if_neg hc33]), N0, e0⟩) (by decide) (by decide)
def own_isws (p1 : Int32) : Int32 := (if p1 = (32 : Int32) then (nar .boolean (1 : Int32)) else (if p1 < (9 : Int32) then (nar .boolean (0 : Int32)) else (if (13 : Int32) < p1 then (nar .boolean (0 : Int32)) else (nar .boolean (1 : Int32)))))
theorem d5_0 : decode prog_5_method_6_code 0 = .ok (.iload_n 0, 1) := by decide +kernel
theorem d5_1 : decode prog_5_method_6_code 1 = .ok (.bipush 32, 2) := by decide +kernel
theorem d5_3 : decode prog_5_method_6_code 3 = .ok (.if_icmp .eq 15, 3) := by decide +kernel
theorem d5_6 : decode prog_5_method_6_code 6 = .ok (.iload_n 0, 1) := by decide +kernel
theorem d5_7 : decode prog_5_method_6_code 7 = .ok (.bipush 9, 2) := by decide +kernel
theorem d5_9 : decode prog_5_method_6_code 9 = .ok (.if_icmp .lt 13, 3) := by decide +kernel
theorem d5_12 : decode prog_5_method_6_code 12 = .ok (.iload_n 0, 1) := by decide +kernel
theorem d5_13 : decode prog_5_method_6_code 13 = .ok (.bipush 13, 2) := by decide +kernel
theorem d5_15 : decode prog_5_method_6_code 15 = .ok (.if_icmp .gt 7, 3) := by decide +kernel
theorem d5_18 : decode prog_5_method_6_code 18 = .ok (.iconst 1, 1) := by decide +kernel
theorem d5_19 : decode prog_5_method_6_code 19 = .ok (.goto 4, 3) := by decide +kernel
theorem d5_22 : decode prog_5_method_6_code 22 = .ok (.iconst 0, 1) := by decide +kernel
theorem d5_23 : decode prog_5_method_6_code 23 = .ok (.ireturn, 1) := by decide +kernel
theorem pf_3 : plainFor (⟨"com/example/ilsa/ilsa/io/LineFields", "isWhitespace", "(B)Z"⟩ : MethodName) = true := by decide +kernel
def Q5 (Z : State) (p1 : Int32) (h0 : Heap) (n0 : Nat) (v : Option Value) (h : Heap) (L : List Loc) : Prop := v = some (.int (own_isws p1)) ∧ Fr n0 L ∧ h = h0
theorem ef_5 (m : MethodId) (p1 : Int32) : entryFrame m #[(.int p1)] 1 = mkF m 0 #[.val (.int p1)] [] := by first | (simp [entryFrame, mkF, argsToLocals, Value.category]; done) | rfl
set_option maxRecDepth 65536 in
set_option maxHeartbeats 40000000 in
theorem rm5 (l : Launch) (Z : State) (a0 : Array Value) (hw : ∀ d ∈ tables_1, d.before a0 Z = true) (ws : List Jvm.Cond) (p1 : Int32) (h0 : Heap) (n0 : Nat) :
    MetFree l (⟨"com/example/ilsa/ilsa/io/LineFields", "isWhitespace", "(B)Z"⟩ : MethodName) (head1 (Jvm.Cond.code (⟨"com/example/ilsa/ilsa/io/LineFields", "isWhitespace", "(B)Z"⟩ : MethodName) prog_5_method_6_code 1 (some .boolean) :: ws) ({ frames := 0, cells := 0, slots := 0, locals := 0 } : Room)) (fun a U => a = #[(.int p1)] ∧ Z.Warmed39 U.vm ∧ U.heap = h0) (fun _ _ _ _ _ => True) (fun _ U o U' => ∃ v L, o = .returned v ∧ Q5 Z p1 h0 n0 v U'.heap L ∧ FrameEnd U o U' L ({ frames := 0, cells := 0, slots := 0, locals := 0 } : Room).cells ({ frames := 0, cells := 0, slots := 0, locals := 0 } : Room).slots) := by
  refine MetFree.of_bodySF pf_3 hisR ?_
  intro p e s m args below meth c s₁ Bd hml0 hP hK
  obtain ⟨rfl, hZ, hh⟩ := hP
  have hx := Bd.exec
  have hby := Bd.bytes
  have hlk : meth.locks = false := BodyLoose.notSynchronized Bd
  have hml : c.maxLocals = 1 := hml0
  have hown : s.vm.findClass "com/example/ilsa/ilsa/io/LineFields" = some m.cls := findClass_of_methodNamed Bd.named
  have hnm := (name_of_methodNamed Bd.named Bd.method).1
  have X0 : Stand p l e ({ frames := 0, cells := 0, slots := 0, locals := 0 } : Room) s m #[(.int p1)] below meth c s₁ [] 0 0 := Stand.of_body Bd
  have e0 : s₁.heap = h0 := by rw [← hh, Bd.state]; rfl
  have N0 := Fr.nil n0
  show Gl p e below s (Q5 Z p1 h0 n0) ({ frames := 0, cells := 0, slots := 0, locals := 0 } : Room).cells ({ frames := 0, cells := 0, slots := 0, locals := 0 } : Room).slots (s₁.setTop (entryFrame m #[(.int p1)] 1))
  rw [ef_5]
  show Gl _ _ _ _ _ _ _ (s₁.setTop (mkF m 0 #[.val (.int p1)] []))
  refine Gl.st (fun t k => XS.iloadN X0.here hx rfl (hb hby d5_0) rfl  k) ?_
  show Gl _ _ _ _ _ _ _ (s₁.setTop (mkF m 1 #[.val (.int p1)] [(.int p1)]))
  refine Gl.st (fun t k => XS.bipush X0.here hx rfl (hb hby d5_1) k) ?_
  show Gl _ _ _ _ _ _ _ (s₁.setTop (mkF m 3 #[.val (.int p1)] [(.int (32 : Int32)), (.int p1)]))
  by_cases hc3 : p1 = (32 : Int32)
  · refine Gl.st (fun t k => XS.icmpYes X0.here hx rfl (pc0 := 3) (pc' := 18) rfl (hb hby d5_3) rfl (teq hc3).1 (by decide) (by decide) k) ?_
    show Gl _ _ _ _ _ _ _ (s₁.setTop (mkF m 18 #[.val (.int p1)] []))
    refine Gl.st (fun t k => XS.iconst X0.here hx rfl (hb hby d5_18) k) ?_
    show Gl _ _ _ _ _ _ _ (s₁.setTop (mkF m 19 #[.val (.int p1)] [(.int (1 : Int32))]))
    refine Gl.st (fun t k => XS.goto X0.here hx rfl (pc0 := 19) (pc' := 23) rfl (hb hby d5_19) (by decide) (by decide) k) ?_
    show Gl _ _ _ _ _ _ _ (s₁.setTop (mkF m 23 #[.val (.int p1)] [(.int (1 : Int32))]))
    exact Gl.retN X0 hx hlk Bd.returns (by simp) (hb hby d5_23) (⟨congrArg (fun z => some (Value.int z)) (show (nar .boolean (1 : Int32)) = own_isws p1 from by simp only [own_isws, if_pos hc3]), N0, e0⟩) (by decide) (by decide)
  · refine Gl.st (fun t k => XS.icmpNo X0.here hx rfl (hb hby d5_3) rfl (feq hc3).1 k) ?_
    show Gl _ _ _ _ _ _ _ (s₁.setTop (mkF m 6 #[.val (.int p1)] []))
    refine Gl.st (fun t k => XS.iloadN X0.here hx rfl (hb hby d5_6) rfl  k) ?_
    show Gl _ _ _ _ _ _ _ (s₁.setTop (mkF m 7 #[.val (.int p1)] [(.int p1)]))
    refine Gl.st (fun t k => XS.bipush X0.here hx rfl (hb hby d5_7) k) ?_
    show Gl _ _ _ _ _ _ _ (s₁.setTop (mkF m 9 #[.val (.int p1)] [(.int (9 : Int32)), (.int p1)]))
    by_cases hc9 : p1 < (9 : Int32)
    · refine Gl.st (fun t k => XS.icmpYes X0.here hx rfl (pc0 := 9) (pc' := 22) rfl (hb hby d5_9) rfl (tlt hc9).1 (by decide) (by decide) k) ?_
      show Gl _ _ _ _ _ _ _ (s₁.setTop (mkF m 22 #[.val (.int p1)] []))
      refine Gl.st (fun t k => XS.iconst X0.here hx rfl (hb hby d5_22) k) ?_
      show Gl _ _ _ _ _ _ _ (s₁.setTop (mkF m 23 #[.val (.int p1)] [(.int (0 : Int32))]))
      exact Gl.retN X0 hx hlk Bd.returns (by simp) (hb hby d5_23) (⟨congrArg (fun z => some (Value.int z)) (show (nar .boolean (0 : Int32)) = own_isws p1 from by simp only [own_isws, if_neg hc3, if_pos hc9]), N0, e0⟩) (by decide) (by decide)
    · refine Gl.st (fun t k => XS.icmpNo X0.here hx rfl (hb hby d5_9) rfl (flt hc9).1 k) ?_
      show Gl _ _ _ _ _ _ _ (s₁.setTop (mkF m 12 #[.val (.int p1)] []))
      refine Gl.st (fun t k => XS.iloadN X0.here hx rfl (hb hby d5_12) rfl  k) ?_
      show Gl _ _ _ _ _ _ _ (s₁.setTop (mkF m 13 #[.val (.int p1)] [(.int p1)]))
      refine Gl.st (fun t k => XS.bipush X0.here hx rfl (hb hby d5_13) k) ?_
      show Gl _ _ _ _ _ _ _ (s₁.setTop (mkF m 15 #[.val (.int p1)] [(.int (13 : Int32)), (.int p1)]))
      by_cases hc15 : (13 : Int32) < p1
      · refine Gl.st (fun t k => XS.icmpYes X0.here hx rfl (pc0 := 15) (pc' := 22) rfl (hb hby d5_15) rfl (tlt hc15).2.2.1 (by decide) (by decide) k) ?_
        show Gl _ _ _ _ _ _ _ (s₁.setTop (mkF m 22 #[.val (.int p1)] []))
        refine Gl.st (fun t k => XS.iconst X0.here hx rfl (hb hby d5_22) k) ?_
        show Gl _ _ _ _ _ _ _ (s₁.setTop (mkF m 23 #[.val (.int p1)] [(.int (0 : Int32))]))
        exact Gl.retN X0 hx hlk Bd.returns (by simp) (hb hby d5_23) (⟨congrArg (fun z => some (Value.int z)) (show (nar .boolean (0 : Int32)) = own_isws p1 from by simp only [own_isws, if_neg hc3, if_neg hc9, if_pos hc15]), N0, e0⟩) (by decide) (by decide)
      · refine Gl.st (fun t k => XS.icmpNo X0.here hx rfl (hb hby d5_15) rfl (flt hc15).2.2.1 k) ?_
        show Gl _ _ _ _ _ _ _ (s₁.setTop (mkF m 18 #[.val (.int p1)] []))
        refine Gl.st (fun t k => XS.iconst X0.here hx rfl (hb hby d5_18) k) ?_
        show Gl _ _ _ _ _ _ _ (s₁.setTop (mkF m 19 #[.val (.int p1)] [(.int (1 : Int32))]))
        refine Gl.st (fun t k => XS.goto X0.here hx rfl (pc0 := 19) (pc' := 23) rfl (hb hby d5_19) (by decide) (by decide) k) ?_
        show Gl _ _ _ _ _ _ _ (s₁.setTop (mkF m 23 #[.val (.int p1)] [(.int (1 : Int32))]))
        exact Gl.retN X0 hx hlk Bd.returns (by simp) (hb hby d5_23) (⟨congrArg (fun z => some (Value.int z)) (show (nar .boolean (1 : Int32)) = own_isws p1 from by simp only [own_isws, if_neg hc3, if_neg hc9, if_neg hc15]), N0, e0⟩) (by decide) (by decide)
theorem own_getD (bs : List Int32) (n : Nat) : (bs.map Value.int).getD n (.int 0) = .int (bs.getD n 0) := by
  simp only [List.getD_eq_getElem?_getD, List.getElem?_map]
  cases bs[n]? <;> rfl
theorem own_succ {i : Int32} (h : i.toInt < 2147483647) : (i + 1).toInt = i.toInt + 1 := by
  have a := c_iadd i 1
  have b := rng32 i
  have d := rng32 (i + 1)
  have e : (1 : Int32).toInt = 1 := by decide
  omega
theorem own_nn {i : Int32} (h : 0 ≤ i.toInt) : ¬ i < 0 := by
  rw [Int32.lt_iff_toInt_lt, show (0 : Int32).toInt = 0 from by decide]; omega
theorem own_lit {i j : Int32} {n : Int} (hj : j.toInt = n) (h : i.toInt < n) : i < j := by
  rw [Int32.lt_iff_toInt_lt, hj]; exact h
def own_scanN (bs : List Int32) : Nat → Int32 → Int32
  | 0, i => i
  | k + 1, i => if own_isws (bs.getD i.toNatClampNeg 0) = 0 then own_scanN bs k (i + 1) else i
def own_end (bs : List Int32) (f t : Int32) : Int32 := own_scanN bs (t.toInt - f.toInt).toNat f
theorem d4_0 : decode prog_5_method_4_code 0 = .ok (.iload_n 1, 1) := by decide +kernel
theorem d4_1 : decode prog_5_method_4_code 1 = .ok (.istore_n 3, 1) := by decide +kernel
theorem d4_2 : decode prog_5_method_4_code 2 = .ok (.iload_n 3, 1) := by decide +kernel
theorem d4_3 : decode prog_5_method_4_code 3 = .ok (.iload_n 2, 1) := by decide +kernel
theorem d4_4 : decode prog_5_method_4_code 4 = .ok (.if_icmp .ge 18, 3) := by decide +kernel
theorem d4_7 : decode prog_5_method_4_code 7 = .ok (.aload_n 0, 1) := by decide +kernel
theorem d4_8 : decode prog_5_method_4_code 8 = .ok (.iload_n 3, 1) := by decide +kernel
theorem d4_9 : decode prog_5_method_4_code 9 = .ok (.baload, 1) := by decide +kernel
theorem d4_10 : decode prog_5_method_4_code 10 = .ok (.invokestatic 13, 3) := by decide +kernel
theorem d4_13 : decode prog_5_method_4_code 13 = .ok (.ifCond .ne 9, 3) := by decide +kernel
theorem d4_16 : decode prog_5_method_4_code 16 = .ok (.iinc 3 1, 3) := by decide +kernel
theorem d4_19 : decode prog_5_method_4_code 19 = .ok (.goto (-17), 3) := by decide +kernel
theorem d4_22 : decode prog_5_method_4_code 22 = .ok (.iload_n 3, 1) := by decide +kernel
theorem d4_23 : decode prog_5_method_4_code 23 = .ok (.ireturn, 1) := by decide +kernel
theorem pf_4 : plainFor (⟨"com/example/ilsa/ilsa/io/LineFields", "fieldEnd", "([BII)I"⟩ : MethodName) = true := by decide +kernel
def Q4 (Z : State) (a1 : Addr) (p2 : Int32) (p3 : Int32) (ck : ClassId) (w0 : Int32) (w1 : Int32) (w2 : Int32) (w3 : Int32) (w4 : Int32) (h0 : Heap) (n0 : Nat) (v : Option Value) (h : Heap) (L : List Loc) : Prop := v = some (.int (own_end [w0, w1, w2, w3, w4] p2 p3)) ∧ Fr n0 L ∧ h = h0
theorem ef_4 (m : MethodId) (a1 : Addr) (p2 : Int32) (p3 : Int32) : entryFrame m #[(.ref a1), (.int p2), (.int p3)] 4 = mkF m 0 #[.val (.ref a1), .val (.int p2), .val (.int p3), .unset] [] := by first | (simp [entryFrame, mkF, argsToLocals, Value.category]; done) | rfl
theorem pd_0 : parseMethodDescriptor "(B)Z" = some ⟨[.byte], some .boolean⟩ := by decide +kernel
set_option maxRecDepth 65536 in
set_option maxHeartbeats 40000000 in
theorem rm4 (l : Launch) (Z : State) (a0 : Array Value) (hw : ∀ d ∈ tables_1, d.before a0 Z = true) (ws : List Jvm.Cond) (a1 : Addr) (p2 : Int32) (p3 : Int32) (ck : ClassId) (w0 : Int32) (w1 : Int32) (w2 : Int32) (w3 : Int32) (w4 : Int32) (h0 : Heap) (n0 : Nat) (Va : Arv Z h0 a1 ck .byte (5 : Int32) [(.int w0), (.int w1), (.int w2), (.int w3), (.int w4)] (.int (0 : Int32))) (hb1 : 0 ≤ p2.toInt) (hb2 : p2.toInt ≤ p3.toInt) (hb3 : p3.toInt ≤ 5) :
    MetFree l (⟨"com/example/ilsa/ilsa/io/LineFields", "fieldEnd", "([BII)I"⟩ : MethodName) (head1 (Jvm.Cond.code (⟨"com/example/ilsa/ilsa/io/LineFields", "fieldEnd", "([BII)I"⟩ : MethodName) prog_5_method_4_code 4 (some .int) :: ws) ({ frames := 1, cells := 0, slots := 0, locals := 12 } : Room)) (fun a U => a = #[(.ref a1), (.int p2), (.int p3)] ∧ Z.Warmed39 U.vm ∧ U.heap = h0) (fun _ _ _ _ _ => True) (fun _ U o U' => ∃ v L, o = .returned v ∧ Q4 Z a1 p2 p3 ck w0 w1 w2 w3 w4 h0 n0 v U'.heap L ∧ FrameEnd U o U' L ({ frames := 1, cells := 0, slots := 0, locals := 12 } : Room).cells ({ frames := 1, cells := 0, slots := 0, locals := 12 } : Room).slots) := by
  refine MetFree.of_bodySF pf_4 hisR ?_
  intro p e s m args below meth c s₁ Bd hml0 hP hK
  obtain ⟨rfl, hZ, hh⟩ := hP
  have hx := Bd.exec
  have hby := Bd.bytes
  have hlk : meth.locks = false := BodyLoose.notSynchronized Bd
  have hml : c.maxLocals = 4 := hml0
  have hown : s.vm.findClass "com/example/ilsa/ilsa/io/LineFields" = some m.cls := findClass_of_methodNamed Bd.named
  have hnm := (name_of_methodNamed Bd.named Bd.method).1
  have X0 : Stand p l e ({ frames := 1, cells := 0, slots := 0, locals := 12 } : Room) s m #[(.ref a1), (.int p2), (.int p3)] below meth c s₁ [] 0 0 := Stand.of_body Bd
  have e0 : s₁.heap = h0 := by rw [← hh, Bd.state]; rfl
  have N0 := Fr.nil n0
  show Gl p e below s (Q4 Z a1 p2 p3 ck w0 w1 w2 w3 w4 h0 n0) ({ frames := 1, cells := 0, slots := 0, locals := 12 } : Room).cells ({ frames := 1, cells := 0, slots := 0, locals := 12 } : Room).slots (s₁.setTop (entryFrame m #[(.ref a1), (.int p2), (.int p3)] 4))
  rw [ef_4]
  show Gl _ _ _ _ _ _ _ (s₁.setTop (mkF m 0 #[.val (.ref a1), .val (.int p2), .val (.int p3), .unset] []))
  refine Gl.st (fun t k => XS.iloadN X0.here hx rfl (hb hby d4_0) rfl  k) ?_
  show Gl _ _ _ _ _ _ _ (s₁.setTop (mkF m 1 #[.val (.ref a1), .val (.int p2), .val (.int p3), .unset] [(.int p2)]))
  refine Gl.st (fun t k => XS.istoreN X0.here hx rfl (hb hby d4_1) rfl (l' := #[.val (.ref a1), .val (.int p2), .val (.int p3), .val (.int p2)]) rfl k) ?_
  have LP1 : ∀ (k : Nat) (Tl1 : State) (Ll1 : List Loc) (Xl1 : Stand p l e ({ frames := 1, cells := 0, slots := 0, locals := 12 } : Room) s m #[(.ref a1), (.int p2), (.int p3)] below meth c Tl1 Ll1 0 0) (el1 : Tl1.heap = h0) (Nl1 : Fr n0 Ll1) (i : Int32) (hi1 : 0 ≤ i.toInt) (hk : i.toInt + (k : Nat) = p3.toInt) (hR : own_scanN [w0, w1, w2, w3, w4] k i = own_end [w0, w1, w2, w3, w4] p2 p3), Gl p e below s (Q4 Z a1 p2 p3 ck w0 w1 w2 w3 w4 h0 n0) ({ frames := 1, cells := 0, slots := 0, locals := 12 } : Room).cells ({ frames := 1, cells := 0, slots := 0, locals := 12 } : Room).slots (Tl1.setTop (mkF m 2 #[.val (.ref a1), .val (.int p2), .val (.int p3), .val (.int i)] [])) := by
    intro k
    induction k with
    | zero =>
      intro Tl1 Ll1 Xl1 el1 Nl1 i hi1 hk hR
      show Gl _ _ _ _ _ _ _ (Tl1.setTop (mkF m 2 #[.val (.ref a1), .val (.int p2), .val (.int p3), .val (.int i)] []))
      refine Gl.st (fun t k => XS.iloadN Xl1.here hx rfl (hb hby d4_2) rfl  k) ?_
      show Gl _ _ _ _ _ _ _ (Tl1.setTop (mkF m 3 #[.val (.ref a1), .val (.int p2), .val (.int p3), .val (.int i)] [(.int i)]))
      refine Gl.st (fun t k => XS.iloadN Xl1.here hx rfl (hb hby d4_3) rfl  k) ?_
      show Gl _ _ _ _ _ _ _ (Tl1.setTop (mkF m 4 #[.val (.ref a1), .val (.int p2), .val (.int p3), .val (.int i)] [(.int p3), (.int i)]))
      have hc4_2 : ¬ (i < p3) := by rw [Int32.lt_iff_toInt_lt]; omega
      refine Gl.st (fun t k => XS.icmpYes Xl1.here hx rfl (pc0 := 4) (pc' := 22) rfl (hb hby d4_4) rfl (flt hc4_2).2.1 (by decide) (by decide) k) ?_
      show Gl _ _ _ _ _ _ _ (Tl1.setTop (mkF m 22 #[.val (.ref a1), .val (.int p2), .val (.int p3), .val (.int i)] []))
      refine Gl.st (fun t k => XS.iloadN Xl1.here hx rfl (hb hby d4_22) rfl  k) ?_
      show Gl _ _ _ _ _ _ _ (Tl1.setTop (mkF m 23 #[.val (.ref a1), .val (.int p2), .val (.int p3), .val (.int i)] [(.int i)]))
      exact Gl.retI Xl1 hx hlk Bd.returns (hb hby d4_23) (⟨congrArg (fun z => some (Value.int z)) (show i = own_end [w0, w1, w2, w3, w4] p2 p3 from hR), Nl1, el1⟩) (by decide) (by decide)
    | succ k ih =>
      intro Tl1 Ll1 Xl1 el1 Nl1 i hi1 hk hR
      show Gl _ _ _ _ _ _ _ (Tl1.setTop (mkF m 2 #[.val (.ref a1), .val (.int p2), .val (.int p3), .val (.int i)] []))
      refine Gl.st (fun t k => XS.iloadN Xl1.here hx rfl (hb hby d4_2) rfl  k) ?_
      show Gl _ _ _ _ _ _ _ (Tl1.setTop (mkF m 3 #[.val (.ref a1), .val (.int p2), .val (.int p3), .val (.int i)] [(.int i)]))
      refine Gl.st (fun t k => XS.iloadN Xl1.here hx rfl (hb hby d4_3) rfl  k) ?_
      show Gl _ _ _ _ _ _ _ (Tl1.setTop (mkF m 4 #[.val (.ref a1), .val (.int p2), .val (.int p3), .val (.int i)] [(.int p3), (.int i)]))
      have hc4_3 : i < p3 := by rw [Int32.lt_iff_toInt_lt]; omega
      refine Gl.st (fun t k => XS.icmpNo Xl1.here hx rfl (hb hby d4_4) rfl (tlt hc4_3).2.1 k) ?_
      show Gl _ _ _ _ _ _ _ (Tl1.setTop (mkF m 7 #[.val (.ref a1), .val (.int p2), .val (.int p3), .val (.int i)] []))
      refine Gl.st (fun t k => XS.aloadN Xl1.here hx rfl (hb hby d4_7) rfl rfl k) ?_
      show Gl _ _ _ _ _ _ _ (Tl1.setTop (mkF m 8 #[.val (.ref a1), .val (.int p2), .val (.int p3), .val (.int i)] [(.ref a1)]))
      refine Gl.st (fun t k => XS.iloadN Xl1.here hx rfl (hb hby d4_8) rfl  k) ?_
      show Gl _ _ _ _ _ _ _ (Tl1.setTop (mkF m 9 #[.val (.ref a1), .val (.int p2), .val (.int p3), .val (.int i)] [(.int i), (.ref a1)]))
      have Vx4 := Va
      obtain ⟨cl4, Ar4, qk4, S4, M4, H4, G4⟩ := Vx4
      have hin4 : ¬ (i < 0 ∨ cl4.slots.size ≤ (i).toNatClampNeg) := inb_of S4 ⟨own_nn hi1, own_lit (n := 5) (by decide) (by omega)⟩
      have hat4 : cl4.slots[(i).toNatClampNeg]? = some (.int ([w0, w1, w2, w3, w4].getD i.toNatClampNeg 0)) := H4.at hin4 (own_getD [w0, w1, w2, w3, w4] _)
      refine Gl.st (Xl1.baloadBytes hx (j := i) (v := (.int ([w0, w1, w2, w3, w4].getD i.toNatClampNeg 0))) (by rw [el1]; exact Ar4.1) (State.isArrayOf_alike hZ.alike Ar4.2.1) Ar4.2.2 hin4 hat4 (g := (mkF m 9 #[.val (.ref a1), .val (.int p2), .val (.int p3), .val (.int i)] [(.int i), (.ref a1)])) rfl rfl (hb hby d4_9)) ?_
      show Gl _ _ _ _ _ _ _ (Tl1.setTop (mkF m 10 #[.val (.ref a1), .val (.int p2), .val (.int p3), .val (.int i)] [(.int ([w0, w1, w2, w3, w4].getD i.toNatClampNeg 0))]))
      obtain ⟨_, _, ⟨T5, L5, k5, n5⟩, -, X5, ⟨Lc5, hQ5, l5, y5, z5⟩, st5⟩ := Jvm.LawKit.callS Xl1 hx (y := (⟨"com/example/ilsa/ilsa/io/LineFields", "isWhitespace", "(B)Z"⟩ : MethodName)) hown (mvT hZ (hw _ (List.mem_of_getElem? (i := 16) rfl))) (mvT hZ (hw _ (List.mem_of_getElem? (i := 17) rfl))) (mvT hZ (hw _ (List.mem_of_getElem? (i := 14) rfl))) (mvT hZ (hw _ (List.mem_of_getElem? (i := 18) rfl))) (by decide) (backOf (W := 0) (rm5 l Z a0 hw [] ([w0, w1, w2, w3, w4].getD i.toNatClampNeg 0) h0 n0) hZ (hw _ (List.mem_of_getElem? (i := 18) rfl)) (hw _ (List.mem_of_getElem? (i := 14) rfl)) (by decide) (by decide)) (g := (mkF m 10 #[.val (.ref a1), .val (.int p2), .val (.int p3), .val (.int i)] [(.int ([w0, w1, w2, w3, w4].getD i.toNatClampNeg 0))])) rfl (by rw [hml]; rfl) (argsL := [(.int ([w0, w1, w2, w3, w4].getD i.toNatClampNeg 0))]) (rest := []) (lenOf pd_0 rfl) rfl (by show 2 * 0 + _ ≤ _; exact Nat.le_of_eq rfl) (hb hby d4_10) (fun _ _ => ⟨rfl, el1, (by decide : 0 + 0 ≤ _), (by decide : 0 + 0 ≤ _)⟩)
      dsimp only [Pt.U, Pt.locs, Pt.cells, Pt.slots] at X5 l5 y5 z5 st5 hQ5
      rw [y5, z5] at X5
      obtain ⟨rfl, N5q, e5⟩ := hQ5
      have N5 : Fr n0 L5 := by rw [l5]; exact Fr.app Nl1 N5q
      refine Gl.st st5 ?_
      show Gl _ _ _ _ _ _ _ (T5.setTop (mkF m 13 #[.val (.ref a1), .val (.int p2), .val (.int p3), .val (.int i)] [(.int (own_isws ([w0, w1, w2, w3, w4].getD i.toNatClampNeg 0)))]))
      by_cases hc13 : (own_isws ([w0, w1, w2, w3, w4].getD i.toNatClampNeg 0)) = (0 : Int32)
      · refine Gl.st (fun t k => XS.ifNo X5.here hx rfl (hb hby d4_13) rfl ((if0 _ _).trans (teq hc13).2) k) ?_
        show Gl _ _ _ _ _ _ _ (T5.setTop (mkF m 16 #[.val (.ref a1), .val (.int p2), .val (.int p3), .val (.int i)] []))
        refine Gl.st (fun t k => XS.iinc X5.here hx rfl (hb hby d4_16) rfl (l' := #[.val (.ref a1), .val (.int p2), .val (.int p3), .val (.int (i + (1 : Int32)))]) rfl k) ?_
        show Gl _ _ _ _ _ _ _ (T5.setTop (mkF m 19 #[.val (.ref a1), .val (.int p2), .val (.int p3), .val (.int (i + (1 : Int32)))] []))
        refine Gl.st (fun t k => XS.goto X5.here hx rfl (pc0 := 19) (pc' := 2) rfl (hb hby d4_19) (by decide) (by decide) k) ?_
        show Gl _ _ _ _ _ _ _ (T5.setTop (mkF m 2 #[.val (.ref a1), .val (.int p2), .val (.int p3), .val (.int (i + (1 : Int32)))] []))
        exact ih _ _ X5 e5 N5 _ (by rw [own_succ (by omega)]; omega) (by rw [own_succ (by omega)]; omega) (by rw [← hR]; simp only [own_scanN, if_pos hc13])
      · refine Gl.st (fun t k => XS.ifYes X5.here hx rfl (pc0 := 13) (pc' := 22) rfl (hb hby d4_13) rfl ((if0 _ _).trans (feq hc13).2) (by decide) (by decide) k) ?_
        show Gl _ _ _ _ _ _ _ (T5.setTop (mkF m 22 #[.val (.ref a1), .val (.int p2), .val (.int p3), .val (.int i)] []))
        refine Gl.st (fun t k => XS.iloadN X5.here hx rfl (hb hby d4_22) rfl  k) ?_
        show Gl _ _ _ _ _ _ _ (T5.setTop (mkF m 23 #[.val (.ref a1), .val (.int p2), .val (.int p3), .val (.int i)] [(.int i)]))
        exact Gl.retI X5 hx hlk Bd.returns (hb hby d4_23) (⟨congrArg (fun z => some (Value.int z)) (show i = own_end [w0, w1, w2, w3, w4] p2 p3 from by rw [← hR]; simp only [own_scanN, if_neg hc13]), N5, e5⟩) (by decide) (by decide)
  exact LP1 ((p3.toInt - p2.toInt).toNat) _ _ X0 e0 N0 _ (hb1) (by omega) (rfl)
theorem own_isws_ws (b : Int32) : own_isws b = own_ws b := by
  have e9 : (9 : Int32).toInt = 9 := by decide
  have e10 : (10 : Int32).toInt = 10 := by decide
  have e11 : (11 : Int32).toInt = 11 := by decide
  have e12 : (12 : Int32).toInt = 12 := by decide
  have e13 : (13 : Int32).toInt = 13 := by decide
  have e32 : (32 : Int32).toInt = 32 := by decide
  unfold own_isws own_ws
  simp only [Int32.lt_iff_toInt_lt, ← Int32.toInt_inj, e9, e10, e11, e12, e13, e32]
  generalize b.toInt = n
  repeat' split
  all_goals first | rfl | (exfalso; omega)
theorem own_digit {f : Int32} (h0 : 0 ≤ f.toInt) (h4 : f.toInt ≤ 5) : f = 0 ∨ f = 1 ∨ f = 2 ∨ f = 3 ∨ f = 4 ∨ f = 5 := by
  have e0 : (0 : Int32).toInt = 0 := by decide
  have e1 : (1 : Int32).toInt = 1 := by decide
  have e2 : (2 : Int32).toInt = 2 := by decide
  have e3 : (3 : Int32).toInt = 3 := by decide
  have e4 : (4 : Int32).toInt = 4 := by decide
  have e5 : (5 : Int32).toInt = 5 := by decide
  simp only [← Int32.toInt_inj, e0, e1, e2, e3, e4, e5]
  omega
theorem own_min_i (a b : Int32) : (own_min a b).toInt = min a.toInt b.toInt := by
  unfold own_min
  split
  all_goals (rename_i h; rw [Int32.lt_iff_toInt_lt] at h; omega)
theorem own_max_i (a b : Int32) : (own_max a b).toInt = max a.toInt b.toInt := by
  unfold own_max
  split
  all_goals (rename_i h; rw [Int32.lt_iff_toInt_lt] at h; omega)
theorem own_u (x : Int32) : 0 ≤ ((x &&& (255 : Int32)) % (6 : Int32)).toInt ∧ ((x &&& (255 : Int32)) % (6 : Int32)).toInt ≤ 5 := by
  have a := c_mask x 255 8 (by decide) (by decide)
  have b := (c_irem (x &&& 255) 6 6 (by decide)).1
  omega
theorem own_final (b0 b1 b2 b3 b4 f t z1 z2 z3 z4 z5 : Int32) (h0 : 0 ≤ f.toInt) (h1 : f.toInt ≤ t.toInt) (h2 : t.toInt ≤ 5)
    (q1 : z1 = (if (4 : Int32) < f then t else (if (4 : Int32) < t then (if own_ws b4 = (0 : Int32) then t else (4 : Int32)) else t))) (q2 : z2 = (if (3 : Int32) < f then z1 else (if (3 : Int32) < t then (if own_ws b3 = (0 : Int32) then z1 else (3 : Int32)) else z1))) (q3 : z3 = (if (2 : Int32) < f then z2 else (if (2 : Int32) < t then (if own_ws b2 = (0 : Int32) then z2 else (2 : Int32)) else z2))) (q4 : z4 = (if (1 : Int32) < f then z3 else (if (1 : Int32) < t then (if own_ws b1 = (0 : Int32) then z3 else (1 : Int32)) else z3))) (q5 : z5 = (if (0 : Int32) < f then z4 else (if (0 : Int32) < t then (if own_ws b0 = (0 : Int32) then z4 else (0 : Int32)) else z4))) :
    own_end [b0, b1, b2, b3, b4] f t = z5 := by
  subst q5 q4 q3 q2 q1
  rcases own_digit h0 (by omega) with rfl | rfl | rfl | rfl | rfl | rfl <;> rcases own_digit (f := t) (by omega) h2 with rfl | rfl | rfl | rfl | rfl | rfl <;>
    first | (exfalso; revert h1; decide) | (by_cases k0 : own_ws b0 = 0 <;> by_cases k1 : own_ws b1 = 0 <;> by_cases k2 : own_ws b2 = 0 <;> by_cases k3 : own_ws b3 = 0 <;> by_cases k4 : own_ws b4 = 0 <;> simp [own_end, own_scanN, own_isws_ws, k0, k1, k2, k3, k4])
theorem pf_5 : plainFor (⟨"com/example/ilsa/ilsa/io/LineFieldsFieldEndPinLaw", "law", "(IIIIII)Z"⟩ : MethodName) = true := by decide +kernel
def Q0 (Z : State) (p1 : Int32) (p2 : Int32) (p3 : Int32) (p4 : Int32) (p5 : Int32) (p6 : Int32) (h0 : Heap) (n0 : Nat) (v : Option Value) (h : Heap) (L : List Loc) : Prop := v = some (.int 1) ∧ Fr n0 L
theorem ef_0 (m : MethodId) (p1 : Int32) (p2 : Int32) (p3 : Int32) (p4 : Int32) (p5 : Int32) (p6 : Int32) : entryFrame m #[(.int p1), (.int p2), (.int p3), (.int p4), (.int p5), (.int p6)] maxLocals = mkF m 0 #[.val (.int p1), .val (.int p2), .val (.int p3), .val (.int p4), .val (.int p5), .val (.int p6), .unset, .unset, .unset, .unset, .unset, .unset, .unset] [] := by first | (simp [entryFrame, mkF, argsToLocals, Value.category, maxLocals]; done) | rfl
theorem pd_1 : parseMethodDescriptor "(II)I" = some ⟨[.int, .int], some .int⟩ := by decide +kernel
theorem pd_2 : parseMethodDescriptor "([BII)I" = some ⟨[(.array .byte), .int, .int], some .int⟩ := by decide +kernel
set_option maxRecDepth 65536 in
set_option maxHeartbeats 40000000 in
theorem rm0 (l : Launch) (Z : State) (a0 : Array Value) (hw : ∀ d ∈ tables_1, d.before a0 Z = true) (ws : List Jvm.Cond) (p1 : Int32) (p2 : Int32) (p3 : Int32) (p4 : Int32) (p5 : Int32) (p6 : Int32) (h0 : Heap) (n0 : Nat) (Z0 : n0 ≤ h0.size) :
    MetFree l x (head1 (Jvm.Cond.code x code maxLocals ret :: ws) room_1) (fun a U => a = #[(.int p1), (.int p2), (.int p3), (.int p4), (.int p5), (.int p6)] ∧ Z.Warmed39 U.vm ∧ U.heap = h0) (fun _ _ _ _ _ => True) (fun _ U o U' => ∃ v L, o = .returned v ∧ Q0 Z p1 p2 p3 p4 p5 p6 h0 n0 v U'.heap L ∧ FrameEnd U o U' L room_1.cells room_1.slots) := by
  refine MetFree.of_bodySF pf_5 hisR ?_
  intro p e s m args below meth c s₁ Bd hml0 hP hK
  obtain ⟨rfl, hZ, hh⟩ := hP
  have hx := Bd.exec
  have hby := Bd.bytes
  have hlk : meth.locks = false := BodyLoose.notSynchronized Bd
  have hml : c.maxLocals = 13 := hml0
  have hown : s.vm.findClass "com/example/ilsa/ilsa/io/LineFieldsFieldEndPinLaw" = some m.cls := findClass_of_methodNamed Bd.named
  have hnm := (name_of_methodNamed Bd.named Bd.method).1
  have X0 : Stand p l e room_1 s m #[(.int p1), (.int p2), (.int p3), (.int p4), (.int p5), (.int p6)] below meth c s₁ [] 0 0 := Stand.of_body Bd
  have e0 : s₁.heap = h0 := by rw [← hh, Bd.state]; rfl
  have N0 := Fr.nil n0
  show Gl p e below s (Q0 Z p1 p2 p3 p4 p5 p6 h0 n0) room_1.cells room_1.slots (s₁.setTop (entryFrame m #[(.int p1), (.int p2), (.int p3), (.int p4), (.int p5), (.int p6)] maxLocals))
  rw [ef_0]
  show Gl _ _ _ _ _ _ _ (s₁.setTop (mkF m 0 #[.val (.int p1), .val (.int p2), .val (.int p3), .val (.int p4), .val (.int p5), .val (.int p6), .unset, .unset, .unset, .unset, .unset, .unset, .unset] []))
  refine Gl.st (fun t k => XS.iconst X0.here hx rfl (hb hby at_0) k) ?_
  show Gl _ _ _ _ _ _ _ (s₁.setTop (mkF m 1 #[.val (.int p1), .val (.int p2), .val (.int p3), .val (.int p4), .val (.int p5), .val (.int p6), .unset, .unset, .unset, .unset, .unset, .unset, .unset] [(.int (5 : Int32))]))
  obtain ⟨T1, h1, k1, X1, e1, E1, A1, st1⟩ := newP X0 hx hZ (hw _ (List.mem_of_getElem? (i := 0) rfl)) e0 (g := (mkF m 1 #[.val (.int p1), .val (.int p2), .val (.int p3), .val (.int p4), .val (.int p5), .val (.int p6), .unset, .unset, .unset, .unset, .unset, .unset, .unset] [(.int (5 : Int32))])) rfl (hb hby at_1) rfl (by decide) (cap := 5) (by decide) (by decide) (by decide) (by decide)
  obtain ⟨b1, g1⟩ : ∃ z, z = h0.size := ⟨_, rfl⟩
  rw [← g1] at A1 st1
  refine Gl.st st1 ?_
  have gzb1 : n0 ≤ b1 := Nat.le_trans Z0 (Nat.le_of_eq g1.symm)
  have Z1 : n0 ≤ h1.size := Nat.le_trans Z0 E1.1
  have V1 : Arv Z h1 b1 k1 .byte (5 : Int32) [(.int (0 : Int32)), (.int (0 : Int32)), (.int (0 : Int32)), (.int (0 : Int32)), (.int (0 : Int32))] (.int (0 : Int32)) := (Arv.new A1 (by decide)).pad (pad_rep [] (.int (0 : Int32)) 5)
  show Gl _ _ _ _ _ _ _ (T1.setTop (mkF m 3 #[.val (.int p1), .val (.int p2), .val (.int p3), .val (.int p4), .val (.int p5), .val (.int p6), .unset, .unset, .unset, .unset, .unset, .unset, .unset] [(.ref b1)]))
  refine Gl.st (fun t k => XS.astore X1.here hx rfl (hb hby at_3) rfl rfl (l' := #[.val (.int p1), .val (.int p2), .val (.int p3), .val (.int p4), .val (.int p5), .val (.int p6), .val (.ref b1), .unset, .unset, .unset, .unset, .unset, .unset]) rfl k) ?_
  show Gl _ _ _ _ _ _ _ (T1.setTop (mkF m 5 #[.val (.int p1), .val (.int p2), .val (.int p3), .val (.int p4), .val (.int p5), .val (.int p6), .val (.ref b1), .unset, .unset, .unset, .unset, .unset, .unset] []))
  refine Gl.st (fun t k => XS.aload X1.here hx rfl (hb hby at_5) rfl rfl k) ?_
  show Gl _ _ _ _ _ _ _ (T1.setTop (mkF m 7 #[.val (.int p1), .val (.int p2), .val (.int p3), .val (.int p4), .val (.int p5), .val (.int p6), .val (.ref b1), .unset, .unset, .unset, .unset, .unset, .unset] [(.ref b1)]))
  refine Gl.st (fun t k => XS.iconst X1.here hx rfl (hb hby at_7) k) ?_
  show Gl _ _ _ _ _ _ _ (T1.setTop (mkF m 8 #[.val (.int p1), .val (.int p2), .val (.int p3), .val (.int p4), .val (.int p5), .val (.int p6), .val (.ref b1), .unset, .unset, .unset, .unset, .unset, .unset] [(.int (0 : Int32)), (.ref b1)]))
  refine Gl.st (fun t k => XS.iloadN X1.here hx rfl (hb hby at_8) rfl  k) ?_
  show Gl _ _ _ _ _ _ _ (T1.setTop (mkF m 9 #[.val (.int p1), .val (.int p2), .val (.int p3), .val (.int p4), .val (.int p5), .val (.int p6), .val (.ref b1), .unset, .unset, .unset, .unset, .unset, .unset] [(.int p1), (.int (0 : Int32)), (.ref b1)]))
  refine Gl.st (fun t k => XS.i2b X1.here hx rfl (hb hby at_9) rfl k) ?_
  show Gl _ _ _ _ _ _ _ (T1.setTop (mkF m 10 #[.val (.int p1), .val (.int p2), .val (.int p3), .val (.int p4), .val (.int p5), .val (.int p6), .val (.ref b1), .unset, .unset, .unset, .unset, .unset, .unset] [(.int (p1.toInt8.toInt32)), (.int (0 : Int32)), (.ref b1)]))
  have Vx2 := V1
  obtain ⟨cl2, Ar2, qk2, S2, M2, H2, G2⟩ := Vx2
  have hin2 : ¬ ((0 : Int32) < 0 ∨ cl2.slots.size ≤ ((0 : Int32)).toNatClampNeg) := inb_of S2 ⟨by decide, by decide⟩
  obtain ⟨T2, h2, X2, e2, W2, st2⟩ := stB X1 hx hZ e1 Ar2 (j := (0 : Int32)) hin2 (g := (mkF m 10 #[.val (.int p1), .val (.int p2), .val (.int p3), .val (.int p4), .val (.int p5), .val (.int p6), .val (.ref b1), .unset, .unset, .unset, .unset, .unset, .unset] [(.int (p1.toInt8.toInt32)), (.int (0 : Int32)), (.ref b1)])) rfl rfl (hb hby at_10)
  refine Gl.st st2 ?_
  have Z2 : n0 ≤ h2.size := Nat.le_trans Z1 (Keep.of_wr W2).1
  have N2 := Fr.snoc X2 N0 gzb1
  have V2 : Arv Z h2 b1 k1 .byte (5 : Int32) [(.int (nar .byte (p1.toInt8.toInt32))), (.int (0 : Int32)), (.int (0 : Int32)), (.int (0 : Int32)), (.int (0 : Int32))] (.int (0 : Int32)) := Arv.set Ar2 qk2 S2 M2 H2 G2 (fits_nar_byte _) W2 0 rfl (Nat.le_of_ble_eq_true rfl)
  show Gl _ _ _ _ _ _ _ (T2.setTop (mkF m 11 #[.val (.int p1), .val (.int p2), .val (.int p3), .val (.int p4), .val (.int p5), .val (.int p6), .val (.ref b1), .unset, .unset, .unset, .unset, .unset, .unset] []))
  refine Gl.st (fun t k => XS.aload X2.here hx rfl (hb hby at_11) rfl rfl k) ?_
  show Gl _ _ _ _ _ _ _ (T2.setTop (mkF m 13 #[.val (.int p1), .val (.int p2), .val (.int p3), .val (.int p4), .val (.int p5), .val (.int p6), .val (.ref b1), .unset, .unset, .unset, .unset, .unset, .unset] [(.ref b1)]))
  refine Gl.st (fun t k => XS.iconst X2.here hx rfl (hb hby at_13) k) ?_
  show Gl _ _ _ _ _ _ _ (T2.setTop (mkF m 14 #[.val (.int p1), .val (.int p2), .val (.int p3), .val (.int p4), .val (.int p5), .val (.int p6), .val (.ref b1), .unset, .unset, .unset, .unset, .unset, .unset] [(.int (1 : Int32)), (.ref b1)]))
  refine Gl.st (fun t k => XS.iloadN X2.here hx rfl (hb hby at_14) rfl  k) ?_
  show Gl _ _ _ _ _ _ _ (T2.setTop (mkF m 15 #[.val (.int p1), .val (.int p2), .val (.int p3), .val (.int p4), .val (.int p5), .val (.int p6), .val (.ref b1), .unset, .unset, .unset, .unset, .unset, .unset] [(.int p2), (.int (1 : Int32)), (.ref b1)]))
  refine Gl.st (fun t k => XS.i2b X2.here hx rfl (hb hby at_15) rfl k) ?_
  show Gl _ _ _ _ _ _ _ (T2.setTop (mkF m 16 #[.val (.int p1), .val (.int p2), .val (.int p3), .val (.int p4), .val (.int p5), .val (.int p6), .val (.ref b1), .unset, .unset, .unset, .unset, .unset, .unset] [(.int (p2.toInt8.toInt32)), (.int (1 : Int32)), (.ref b1)]))
  have Vx3 := V2
  obtain ⟨cl3, Ar3, qk3, S3, M3, H3, G3⟩ := Vx3
  have hin3 : ¬ ((1 : Int32) < 0 ∨ cl3.slots.size ≤ ((1 : Int32)).toNatClampNeg) := inb_of S3 ⟨by decide, by decide⟩
  obtain ⟨T3, h3, X3, e3, W3, st3⟩ := stB X2 hx hZ e2 Ar3 (j := (1 : Int32)) hin3 (g := (mkF m 16 #[.val (.int p1), .val (.int p2), .val (.int p3), .val (.int p4), .val (.int p5), .val (.int p6), .val (.ref b1), .unset, .unset, .unset, .unset, .unset, .unset] [(.int (p2.toInt8.toInt32)), (.int (1 : Int32)), (.ref b1)])) rfl rfl (hb hby at_16)
  refine Gl.st st3 ?_
  have Z3 : n0 ≤ h3.size := Nat.le_trans Z2 (Keep.of_wr W3).1
  have N3 := Fr.snoc X3 N2 gzb1
  have V3 : Arv Z h3 b1 k1 .byte (5 : Int32) [(.int (nar .byte (p1.toInt8.toInt32))), (.int (nar .byte (p2.toInt8.toInt32))), (.int (0 : Int32)), (.int (0 : Int32)), (.int (0 : Int32))] (.int (0 : Int32)) := Arv.set Ar3 qk3 S3 M3 H3 G3 (fits_nar_byte _) W3 1 rfl (Nat.le_of_ble_eq_true rfl)
  show Gl _ _ _ _ _ _ _ (T3.setTop (mkF m 17 #[.val (.int p1), .val (.int p2), .val (.int p3), .val (.int p4), .val (.int p5), .val (.int p6), .val (.ref b1), .unset, .unset, .unset, .unset, .unset, .unset] []))
  refine Gl.st (fun t k => XS.aload X3.here hx rfl (hb hby at_17) rfl rfl k) ?_
  show Gl _ _ _ _ _ _ _ (T3.setTop (mkF m 19 #[.val (.int p1), .val (.int p2), .val (.int p3), .val (.int p4), .val (.int p5), .val (.int p6), .val (.ref b1), .unset, .unset, .unset, .unset, .unset, .unset] [(.ref b1)]))
  refine Gl.st (fun t k => XS.iconst X3.here hx rfl (hb hby at_19) k) ?_
  show Gl _ _ _ _ _ _ _ (T3.setTop (mkF m 20 #[.val (.int p1), .val (.int p2), .val (.int p3), .val (.int p4), .val (.int p5), .val (.int p6), .val (.ref b1), .unset, .unset, .unset, .unset, .unset, .unset] [(.int (2 : Int32)), (.ref b1)]))
  refine Gl.st (fun t k => XS.iloadN X3.here hx rfl (hb hby at_20) rfl  k) ?_
  show Gl _ _ _ _ _ _ _ (T3.setTop (mkF m 21 #[.val (.int p1), .val (.int p2), .val (.int p3), .val (.int p4), .val (.int p5), .val (.int p6), .val (.ref b1), .unset, .unset, .unset, .unset, .unset, .unset] [(.int p3), (.int (2 : Int32)), (.ref b1)]))
  refine Gl.st (fun t k => XS.i2b X3.here hx rfl (hb hby at_21) rfl k) ?_
  show Gl _ _ _ _ _ _ _ (T3.setTop (mkF m 22 #[.val (.int p1), .val (.int p2), .val (.int p3), .val (.int p4), .val (.int p5), .val (.int p6), .val (.ref b1), .unset, .unset, .unset, .unset, .unset, .unset] [(.int (p3.toInt8.toInt32)), (.int (2 : Int32)), (.ref b1)]))
  have Vx4 := V3
  obtain ⟨cl4, Ar4, qk4, S4, M4, H4, G4⟩ := Vx4
  have hin4 : ¬ ((2 : Int32) < 0 ∨ cl4.slots.size ≤ ((2 : Int32)).toNatClampNeg) := inb_of S4 ⟨by decide, by decide⟩
  obtain ⟨T4, h4, X4, e4, W4, st4⟩ := stB X3 hx hZ e3 Ar4 (j := (2 : Int32)) hin4 (g := (mkF m 22 #[.val (.int p1), .val (.int p2), .val (.int p3), .val (.int p4), .val (.int p5), .val (.int p6), .val (.ref b1), .unset, .unset, .unset, .unset, .unset, .unset] [(.int (p3.toInt8.toInt32)), (.int (2 : Int32)), (.ref b1)])) rfl rfl (hb hby at_22)
  refine Gl.st st4 ?_
  have Z4 : n0 ≤ h4.size := Nat.le_trans Z3 (Keep.of_wr W4).1
  have N4 := Fr.snoc X4 N3 gzb1
  have V4 : Arv Z h4 b1 k1 .byte (5 : Int32) [(.int (nar .byte (p1.toInt8.toInt32))), (.int (nar .byte (p2.toInt8.toInt32))), (.int (nar .byte (p3.toInt8.toInt32))), (.int (0 : Int32)), (.int (0 : Int32))] (.int (0 : Int32)) := Arv.set Ar4 qk4 S4 M4 H4 G4 (fits_nar_byte _) W4 2 rfl (Nat.le_of_ble_eq_true rfl)
  show Gl _ _ _ _ _ _ _ (T4.setTop (mkF m 23 #[.val (.int p1), .val (.int p2), .val (.int p3), .val (.int p4), .val (.int p5), .val (.int p6), .val (.ref b1), .unset, .unset, .unset, .unset, .unset, .unset] []))
  refine Gl.st (fun t k => XS.aload X4.here hx rfl (hb hby at_23) rfl rfl k) ?_
  show Gl _ _ _ _ _ _ _ (T4.setTop (mkF m 25 #[.val (.int p1), .val (.int p2), .val (.int p3), .val (.int p4), .val (.int p5), .val (.int p6), .val (.ref b1), .unset, .unset, .unset, .unset, .unset, .unset] [(.ref b1)]))
  refine Gl.st (fun t k => XS.iconst X4.here hx rfl (hb hby at_25) k) ?_
  show Gl _ _ _ _ _ _ _ (T4.setTop (mkF m 26 #[.val (.int p1), .val (.int p2), .val (.int p3), .val (.int p4), .val (.int p5), .val (.int p6), .val (.ref b1), .unset, .unset, .unset, .unset, .unset, .unset] [(.int (3 : Int32)), (.ref b1)]))
  refine Gl.st (fun t k => XS.iloadN X4.here hx rfl (hb hby at_26) rfl  k) ?_
  show Gl _ _ _ _ _ _ _ (T4.setTop (mkF m 27 #[.val (.int p1), .val (.int p2), .val (.int p3), .val (.int p4), .val (.int p5), .val (.int p6), .val (.ref b1), .unset, .unset, .unset, .unset, .unset, .unset] [(.int p4), (.int (3 : Int32)), (.ref b1)]))
  refine Gl.st (fun t k => XS.i2b X4.here hx rfl (hb hby at_27) rfl k) ?_
  show Gl _ _ _ _ _ _ _ (T4.setTop (mkF m 28 #[.val (.int p1), .val (.int p2), .val (.int p3), .val (.int p4), .val (.int p5), .val (.int p6), .val (.ref b1), .unset, .unset, .unset, .unset, .unset, .unset] [(.int (p4.toInt8.toInt32)), (.int (3 : Int32)), (.ref b1)]))
  have Vx5 := V4
  obtain ⟨cl5, Ar5, qk5, S5, M5, H5, G5⟩ := Vx5
  have hin5 : ¬ ((3 : Int32) < 0 ∨ cl5.slots.size ≤ ((3 : Int32)).toNatClampNeg) := inb_of S5 ⟨by decide, by decide⟩
  obtain ⟨T5, h5, X5, e5, W5, st5⟩ := stB X4 hx hZ e4 Ar5 (j := (3 : Int32)) hin5 (g := (mkF m 28 #[.val (.int p1), .val (.int p2), .val (.int p3), .val (.int p4), .val (.int p5), .val (.int p6), .val (.ref b1), .unset, .unset, .unset, .unset, .unset, .unset] [(.int (p4.toInt8.toInt32)), (.int (3 : Int32)), (.ref b1)])) rfl rfl (hb hby at_28)
  refine Gl.st st5 ?_
  have Z5 : n0 ≤ h5.size := Nat.le_trans Z4 (Keep.of_wr W5).1
  have N5 := Fr.snoc X5 N4 gzb1
  have V5 : Arv Z h5 b1 k1 .byte (5 : Int32) [(.int (nar .byte (p1.toInt8.toInt32))), (.int (nar .byte (p2.toInt8.toInt32))), (.int (nar .byte (p3.toInt8.toInt32))), (.int (nar .byte (p4.toInt8.toInt32))), (.int (0 : Int32))] (.int (0 : Int32)) := Arv.set Ar5 qk5 S5 M5 H5 G5 (fits_nar_byte _) W5 3 rfl (Nat.le_of_ble_eq_true rfl)
  show Gl _ _ _ _ _ _ _ (T5.setTop (mkF m 29 #[.val (.int p1), .val (.int p2), .val (.int p3), .val (.int p4), .val (.int p5), .val (.int p6), .val (.ref b1), .unset, .unset, .unset, .unset, .unset, .unset] []))
  refine Gl.st (fun t k => XS.aload X5.here hx rfl (hb hby at_29) rfl rfl k) ?_
  show Gl _ _ _ _ _ _ _ (T5.setTop (mkF m 31 #[.val (.int p1), .val (.int p2), .val (.int p3), .val (.int p4), .val (.int p5), .val (.int p6), .val (.ref b1), .unset, .unset, .unset, .unset, .unset, .unset] [(.ref b1)]))
  refine Gl.st (fun t k => XS.iconst X5.here hx rfl (hb hby at_31) k) ?_
  show Gl _ _ _ _ _ _ _ (T5.setTop (mkF m 32 #[.val (.int p1), .val (.int p2), .val (.int p3), .val (.int p4), .val (.int p5), .val (.int p6), .val (.ref b1), .unset, .unset, .unset, .unset, .unset, .unset] [(.int (4 : Int32)), (.ref b1)]))
  refine Gl.st (fun t k => XS.iload X5.here hx rfl (hb hby at_32) rfl  k) ?_
  show Gl _ _ _ _ _ _ _ (T5.setTop (mkF m 34 #[.val (.int p1), .val (.int p2), .val (.int p3), .val (.int p4), .val (.int p5), .val (.int p6), .val (.ref b1), .unset, .unset, .unset, .unset, .unset, .unset] [(.int p5), (.int (4 : Int32)), (.ref b1)]))
  refine Gl.st (fun t k => XS.i2b X5.here hx rfl (hb hby at_34) rfl k) ?_
  show Gl _ _ _ _ _ _ _ (T5.setTop (mkF m 35 #[.val (.int p1), .val (.int p2), .val (.int p3), .val (.int p4), .val (.int p5), .val (.int p6), .val (.ref b1), .unset, .unset, .unset, .unset, .unset, .unset] [(.int (p5.toInt8.toInt32)), (.int (4 : Int32)), (.ref b1)]))
  have Vx6 := V5
  obtain ⟨cl6, Ar6, qk6, S6, M6, H6, G6⟩ := Vx6
  have hin6 : ¬ ((4 : Int32) < 0 ∨ cl6.slots.size ≤ ((4 : Int32)).toNatClampNeg) := inb_of S6 ⟨by decide, by decide⟩
  obtain ⟨T6, h6, X6, e6, W6, st6⟩ := stB X5 hx hZ e5 Ar6 (j := (4 : Int32)) hin6 (g := (mkF m 35 #[.val (.int p1), .val (.int p2), .val (.int p3), .val (.int p4), .val (.int p5), .val (.int p6), .val (.ref b1), .unset, .unset, .unset, .unset, .unset, .unset] [(.int (p5.toInt8.toInt32)), (.int (4 : Int32)), (.ref b1)])) rfl rfl (hb hby at_35)
  refine Gl.st st6 ?_
  have Z6 : n0 ≤ h6.size := Nat.le_trans Z5 (Keep.of_wr W6).1
  have N6 := Fr.snoc X6 N5 gzb1
  have V6 : Arv Z h6 b1 k1 .byte (5 : Int32) [(.int (nar .byte (p1.toInt8.toInt32))), (.int (nar .byte (p2.toInt8.toInt32))), (.int (nar .byte (p3.toInt8.toInt32))), (.int (nar .byte (p4.toInt8.toInt32))), (.int (nar .byte (p5.toInt8.toInt32)))] (.int (0 : Int32)) := Arv.set Ar6 qk6 S6 M6 H6 G6 (fits_nar_byte _) W6 4 rfl (Nat.le_of_ble_eq_true rfl)
  show Gl _ _ _ _ _ _ _ (T6.setTop (mkF m 36 #[.val (.int p1), .val (.int p2), .val (.int p3), .val (.int p4), .val (.int p5), .val (.int p6), .val (.ref b1), .unset, .unset, .unset, .unset, .unset, .unset] []))
  refine Gl.st (fun t k => XS.iload X6.here hx rfl (hb hby at_36) rfl  k) ?_
  show Gl _ _ _ _ _ _ _ (T6.setTop (mkF m 38 #[.val (.int p1), .val (.int p2), .val (.int p3), .val (.int p4), .val (.int p5), .val (.int p6), .val (.ref b1), .unset, .unset, .unset, .unset, .unset, .unset] [(.int p6)]))
  refine Gl.st (fun t k => XS.sipush X6.here hx rfl (hb hby at_38) k) ?_
  show Gl _ _ _ _ _ _ _ (T6.setTop (mkF m 41 #[.val (.int p1), .val (.int p2), .val (.int p3), .val (.int p4), .val (.int p5), .val (.int p6), .val (.ref b1), .unset, .unset, .unset, .unset, .unset, .unset] [(.int (255 : Int32)), (.int p6)]))
  refine Gl.st (fun t k => XS.iand X6.here hx rfl (hb hby at_41) rfl k) ?_
  show Gl _ _ _ _ _ _ _ (T6.setTop (mkF m 42 #[.val (.int p1), .val (.int p2), .val (.int p3), .val (.int p4), .val (.int p5), .val (.int p6), .val (.ref b1), .unset, .unset, .unset, .unset, .unset, .unset] [(.int (p6 &&& (255 : Int32)))]))
  refine Gl.st (fun t k => XS.bipush X6.here hx rfl (hb hby at_42) k) ?_
  show Gl _ _ _ _ _ _ _ (T6.setTop (mkF m 44 #[.val (.int p1), .val (.int p2), .val (.int p3), .val (.int p4), .val (.int p5), .val (.int p6), .val (.ref b1), .unset, .unset, .unset, .unset, .unset, .unset] [(.int (6 : Int32)), (.int (p6 &&& (255 : Int32)))]))
  refine Gl.st (fun t k => iremM X6 hx rfl (hb hby at_44) rfl (by decide) k) ?_
  show Gl _ _ _ _ _ _ _ (T6.setTop (mkF m 45 #[.val (.int p1), .val (.int p2), .val (.int p3), .val (.int p4), .val (.int p5), .val (.int p6), .val (.ref b1), .unset, .unset, .unset, .unset, .unset, .unset] [(.int ((p6 &&& (255 : Int32)) % (6 : Int32)))]))
  refine Gl.st (fun t k => XS.istore X6.here hx rfl (hb hby at_45) rfl (l' := #[.val (.int p1), .val (.int p2), .val (.int p3), .val (.int p4), .val (.int p5), .val (.int p6), .val (.ref b1), .val (.int ((p6 &&& (255 : Int32)) % (6 : Int32))), .unset, .unset, .unset, .unset, .unset]) rfl k) ?_
  show Gl _ _ _ _ _ _ _ (T6.setTop (mkF m 47 #[.val (.int p1), .val (.int p2), .val (.int p3), .val (.int p4), .val (.int p5), .val (.int p6), .val (.ref b1), .val (.int ((p6 &&& (255 : Int32)) % (6 : Int32))), .unset, .unset, .unset, .unset, .unset] []))
  obtain ⟨uu, huu⟩ : ∃ z : Int32, z = ((p6 &&& (255 : Int32)) % (6 : Int32)) := ⟨_, rfl⟩
  rw [← huu]
  show Gl _ _ _ _ _ _ _ (T6.setTop (mkF m 47 #[.val (.int p1), .val (.int p2), .val (.int p3), .val (.int p4), .val (.int p5), .val (.int p6), .val (.ref b1), .val (.int uu), .unset, .unset, .unset, .unset, .unset] []))
  refine Gl.st (fun t k => XS.iload X6.here hx rfl (hb hby at_47) rfl  k) ?_
  show Gl _ _ _ _ _ _ _ (T6.setTop (mkF m 49 #[.val (.int p1), .val (.int p2), .val (.int p3), .val (.int p4), .val (.int p5), .val (.int p6), .val (.ref b1), .val (.int uu), .unset, .unset, .unset, .unset, .unset] [(.int p6)]))
  refine Gl.st (fun t k => XS.bipush X6.here hx rfl (hb hby at_49) k) ?_
  show Gl _ _ _ _ _ _ _ (T6.setTop (mkF m 51 #[.val (.int p1), .val (.int p2), .val (.int p3), .val (.int p4), .val (.int p5), .val (.int p6), .val (.ref b1), .val (.int uu), .unset, .unset, .unset, .unset, .unset] [(.int (8 : Int32)), (.int p6)]))
  refine Gl.st (fun t k => XS.iushr X6.here hx rfl (hb hby at_51) rfl k) ?_
  show Gl _ _ _ _ _ _ _ (T6.setTop (mkF m 52 #[.val (.int p1), .val (.int p2), .val (.int p3), .val (.int p4), .val (.int p5), .val (.int p6), .val (.ref b1), .val (.int uu), .unset, .unset, .unset, .unset, .unset] [(.int ((p6.toUInt32 >>> ((8 : Int32) &&& 31).toUInt32).toInt32))]))
  refine Gl.st (fun t k => XS.sipush X6.here hx rfl (hb hby at_52) k) ?_
  show Gl _ _ _ _ _ _ _ (T6.setTop (mkF m 55 #[.val (.int p1), .val (.int p2), .val (.int p3), .val (.int p4), .val (.int p5), .val (.int p6), .val (.ref b1), .val (.int uu), .unset, .unset, .unset, .unset, .unset] [(.int (255 : Int32)), (.int ((p6.toUInt32 >>> ((8 : Int32) &&& 31).toUInt32).toInt32))]))
  refine Gl.st (fun t k => XS.iand X6.here hx rfl (hb hby at_55) rfl k) ?_
  show Gl _ _ _ _ _ _ _ (T6.setTop (mkF m 56 #[.val (.int p1), .val (.int p2), .val (.int p3), .val (.int p4), .val (.int p5), .val (.int p6), .val (.ref b1), .val (.int uu), .unset, .unset, .unset, .unset, .unset] [(.int (((p6.toUInt32 >>> ((8 : Int32) &&& 31).toUInt32).toInt32) &&& (255 : Int32)))]))
  refine Gl.st (fun t k => XS.bipush X6.here hx rfl (hb hby at_56) k) ?_
  show Gl _ _ _ _ _ _ _ (T6.setTop (mkF m 58 #[.val (.int p1), .val (.int p2), .val (.int p3), .val (.int p4), .val (.int p5), .val (.int p6), .val (.ref b1), .val (.int uu), .unset, .unset, .unset, .unset, .unset] [(.int (6 : Int32)), (.int (((p6.toUInt32 >>> ((8 : Int32) &&& 31).toUInt32).toInt32) &&& (255 : Int32)))]))
  refine Gl.st (fun t k => iremM X6 hx rfl (hb hby at_58) rfl (by decide) k) ?_
  show Gl _ _ _ _ _ _ _ (T6.setTop (mkF m 59 #[.val (.int p1), .val (.int p2), .val (.int p3), .val (.int p4), .val (.int p5), .val (.int p6), .val (.ref b1), .val (.int uu), .unset, .unset, .unset, .unset, .unset] [(.int ((((p6.toUInt32 >>> ((8 : Int32) &&& 31).toUInt32).toInt32) &&& (255 : Int32)) % (6 : Int32)))]))
  refine Gl.st (fun t k => XS.istore X6.here hx rfl (hb hby at_59) rfl (l' := #[.val (.int p1), .val (.int p2), .val (.int p3), .val (.int p4), .val (.int p5), .val (.int p6), .val (.ref b1), .val (.int uu), .val (.int ((((p6.toUInt32 >>> ((8 : Int32) &&& 31).toUInt32).toInt32) &&& (255 : Int32)) % (6 : Int32))), .unset, .unset, .unset, .unset]) rfl k) ?_
  show Gl _ _ _ _ _ _ _ (T6.setTop (mkF m 61 #[.val (.int p1), .val (.int p2), .val (.int p3), .val (.int p4), .val (.int p5), .val (.int p6), .val (.ref b1), .val (.int uu), .val (.int ((((p6.toUInt32 >>> ((8 : Int32) &&& 31).toUInt32).toInt32) &&& (255 : Int32)) % (6 : Int32))), .unset, .unset, .unset, .unset] []))
  obtain ⟨vv, hvv⟩ : ∃ z : Int32, z = ((((p6.toUInt32 >>> ((8 : Int32) &&& 31).toUInt32).toInt32) &&& (255 : Int32)) % (6 : Int32)) := ⟨_, rfl⟩
  rw [← hvv]
  show Gl _ _ _ _ _ _ _ (T6.setTop (mkF m 61 #[.val (.int p1), .val (.int p2), .val (.int p3), .val (.int p4), .val (.int p5), .val (.int p6), .val (.ref b1), .val (.int uu), .val (.int vv), .unset, .unset, .unset, .unset] []))
  refine Gl.st (fun t k => XS.iload X6.here hx rfl (hb hby at_61) rfl  k) ?_
  show Gl _ _ _ _ _ _ _ (T6.setTop (mkF m 63 #[.val (.int p1), .val (.int p2), .val (.int p3), .val (.int p4), .val (.int p5), .val (.int p6), .val (.ref b1), .val (.int uu), .val (.int vv), .unset, .unset, .unset, .unset] [(.int uu)]))
  refine Gl.st (fun t k => XS.iload X6.here hx rfl (hb hby at_63) rfl  k) ?_
  show Gl _ _ _ _ _ _ _ (T6.setTop (mkF m 65 #[.val (.int p1), .val (.int p2), .val (.int p3), .val (.int p4), .val (.int p5), .val (.int p6), .val (.ref b1), .val (.int uu), .val (.int vv), .unset, .unset, .unset, .unset] [(.int vv), (.int uu)]))
  obtain ⟨_, _, ⟨T7, L7, k7, n7⟩, -, X7, ⟨Lc7, hQ7, l7, y7, z7⟩, st7⟩ := Jvm.LawKit.callS X6 hx (y := (⟨"java/lang/Math", "min", "(II)I"⟩ : MethodName)) hown (mvT hZ (hw _ (List.mem_of_getElem? (i := 1) rfl))) (mvT hZ (hw _ (List.mem_of_getElem? (i := 2) rfl))) (mvT hZ (hw _ (List.mem_of_getElem? (i := 3) rfl))) (mvT hZ (hw _ (List.mem_of_getElem? (i := 4) rfl))) (by decide) (backOf (W := 0) (rm1 l Z a0 hw [] uu vv h6 n0) hZ (hw _ (List.mem_of_getElem? (i := 4) rfl)) (hw _ (List.mem_of_getElem? (i := 3) rfl)) (by decide) (by decide)) (g := (mkF m 65 #[.val (.int p1), .val (.int p2), .val (.int p3), .val (.int p4), .val (.int p5), .val (.int p6), .val (.ref b1), .val (.int uu), .val (.int vv), .unset, .unset, .unset, .unset] [(.int vv), (.int uu)])) rfl (by rw [hml]; rfl) (argsL := [(.int uu), (.int vv)]) (rest := []) (lenOf pd_1 rfl) rfl (by show 2 * 0 + _ ≤ _; exact Nat.le_of_eq rfl) (hb hby at_65) (fun _ _ => ⟨rfl, e6, (by decide : 1 + 0 ≤ _), (by decide : 5 + 0 ≤ _)⟩)
  dsimp only [Pt.U, Pt.locs, Pt.cells, Pt.slots] at X7 l7 y7 z7 st7 hQ7
  rw [y7, z7] at X7
  obtain ⟨rfl, N7q, e7⟩ := hQ7
  have N7 : Fr n0 L7 := by rw [l7]; exact Fr.app N6 N7q
  refine Gl.st st7 ?_
  show Gl _ _ _ _ _ _ _ (T7.setTop (mkF m 68 #[.val (.int p1), .val (.int p2), .val (.int p3), .val (.int p4), .val (.int p5), .val (.int p6), .val (.ref b1), .val (.int uu), .val (.int vv), .unset, .unset, .unset, .unset] [(.int (own_min uu vv))]))
  refine Gl.st (fun t k => XS.istore X7.here hx rfl (hb hby at_68) rfl (l' := #[.val (.int p1), .val (.int p2), .val (.int p3), .val (.int p4), .val (.int p5), .val (.int p6), .val (.ref b1), .val (.int uu), .val (.int vv), .val (.int (own_min uu vv)), .unset, .unset, .unset]) rfl k) ?_
  show Gl _ _ _ _ _ _ _ (T7.setTop (mkF m 70 #[.val (.int p1), .val (.int p2), .val (.int p3), .val (.int p4), .val (.int p5), .val (.int p6), .val (.ref b1), .val (.int uu), .val (.int vv), .val (.int (own_min uu vv)), .unset, .unset, .unset] []))
  obtain ⟨fr, hfr⟩ : ∃ z : Int32, z = (own_min uu vv) := ⟨_, rfl⟩
  rw [← hfr]
  show Gl _ _ _ _ _ _ _ (T7.setTop (mkF m 70 #[.val (.int p1), .val (.int p2), .val (.int p3), .val (.int p4), .val (.int p5), .val (.int p6), .val (.ref b1), .val (.int uu), .val (.int vv), .val (.int fr), .unset, .unset, .unset] []))
  refine Gl.st (fun t k => XS.iload X7.here hx rfl (hb hby at_70) rfl  k) ?_
  show Gl _ _ _ _ _ _ _ (T7.setTop (mkF m 72 #[.val (.int p1), .val (.int p2), .val (.int p3), .val (.int p4), .val (.int p5), .val (.int p6), .val (.ref b1), .val (.int uu), .val (.int vv), .val (.int fr), .unset, .unset, .unset] [(.int uu)]))
  refine Gl.st (fun t k => XS.iload X7.here hx rfl (hb hby at_72) rfl  k) ?_
  show Gl _ _ _ _ _ _ _ (T7.setTop (mkF m 74 #[.val (.int p1), .val (.int p2), .val (.int p3), .val (.int p4), .val (.int p5), .val (.int p6), .val (.ref b1), .val (.int uu), .val (.int vv), .val (.int fr), .unset, .unset, .unset] [(.int vv), (.int uu)]))
  obtain ⟨_, _, ⟨T8, L8, k8, n8⟩, -, X8, ⟨Lc8, hQ8, l8, y8, z8⟩, st8⟩ := Jvm.LawKit.callS X7 hx (y := (⟨"java/lang/Math", "max", "(II)I"⟩ : MethodName)) hown (mvT hZ (hw _ (List.mem_of_getElem? (i := 5) rfl))) (mvT hZ (hw _ (List.mem_of_getElem? (i := 6) rfl))) (mvT hZ (hw _ (List.mem_of_getElem? (i := 3) rfl))) (mvT hZ (hw _ (List.mem_of_getElem? (i := 7) rfl))) (by decide) (backOf (W := 0) (rm2 l Z a0 hw [] uu vv h6 n0) hZ (hw _ (List.mem_of_getElem? (i := 7) rfl)) (hw _ (List.mem_of_getElem? (i := 3) rfl)) (by decide) (by decide)) (g := (mkF m 74 #[.val (.int p1), .val (.int p2), .val (.int p3), .val (.int p4), .val (.int p5), .val (.int p6), .val (.ref b1), .val (.int uu), .val (.int vv), .val (.int fr), .unset, .unset, .unset] [(.int vv), (.int uu)])) rfl (by rw [hml]; rfl) (argsL := [(.int uu), (.int vv)]) (rest := []) (lenOf pd_1 rfl) rfl (by show 2 * 0 + _ ≤ _; exact Nat.le_of_eq rfl) (hb hby at_74) (fun _ _ => ⟨rfl, e7, (by decide : 1 + 0 ≤ _), (by decide : 5 + 0 ≤ _)⟩)
  dsimp only [Pt.U, Pt.locs, Pt.cells, Pt.slots] at X8 l8 y8 z8 st8 hQ8
  rw [y8, z8] at X8
  obtain ⟨rfl, N8q, e8⟩ := hQ8
  have N8 : Fr n0 L8 := by rw [l8]; exact Fr.app N7 N8q
  refine Gl.st st8 ?_
  show Gl _ _ _ _ _ _ _ (T8.setTop (mkF m 77 #[.val (.int p1), .val (.int p2), .val (.int p3), .val (.int p4), .val (.int p5), .val (.int p6), .val (.ref b1), .val (.int uu), .val (.int vv), .val (.int fr), .unset, .unset, .unset] [(.int (own_max uu vv))]))
  refine Gl.st (fun t k => XS.istore X8.here hx rfl (hb hby at_77) rfl (l' := #[.val (.int p1), .val (.int p2), .val (.int p3), .val (.int p4), .val (.int p5), .val (.int p6), .val (.ref b1), .val (.int uu), .val (.int vv), .val (.int fr), .val (.int (own_max uu vv)), .unset, .unset]) rfl k) ?_
  show Gl _ _ _ _ _ _ _ (T8.setTop (mkF m 79 #[.val (.int p1), .val (.int p2), .val (.int p3), .val (.int p4), .val (.int p5), .val (.int p6), .val (.ref b1), .val (.int uu), .val (.int vv), .val (.int fr), .val (.int (own_max uu vv)), .unset, .unset] []))
  obtain ⟨tt, htt⟩ : ∃ z : Int32, z = (own_max uu vv) := ⟨_, rfl⟩
  rw [← htt]
  have hu : 0 ≤ uu.toInt ∧ uu.toInt ≤ 5 := by rw [huu]; exact own_u _
  have hv : 0 ≤ vv.toInt ∧ vv.toInt ≤ 5 := by rw [hvv]; exact own_u _
  have hft : 0 ≤ fr.toInt ∧ fr.toInt ≤ tt.toInt ∧ tt.toInt ≤ 5 := by rw [hfr, htt, own_min_i, own_max_i]; omega
  show Gl _ _ _ _ _ _ _ (T8.setTop (mkF m 79 #[.val (.int p1), .val (.int p2), .val (.int p3), .val (.int p4), .val (.int p5), .val (.int p6), .val (.ref b1), .val (.int uu), .val (.int vv), .val (.int fr), .val (.int tt), .unset, .unset] []))
  refine Gl.st (fun t k => XS.iload X8.here hx rfl (hb hby at_79) rfl  k) ?_
  show Gl _ _ _ _ _ _ _ (T8.setTop (mkF m 81 #[.val (.int p1), .val (.int p2), .val (.int p3), .val (.int p4), .val (.int p5), .val (.int p6), .val (.ref b1), .val (.int uu), .val (.int vv), .val (.int fr), .val (.int tt), .unset, .unset] [(.int tt)]))
  refine Gl.st (fun t k => XS.istore X8.here hx rfl (hb hby at_81) rfl (l' := #[.val (.int p1), .val (.int p2), .val (.int p3), .val (.int p4), .val (.int p5), .val (.int p6), .val (.ref b1), .val (.int uu), .val (.int vv), .val (.int fr), .val (.int tt), .val (.int tt), .unset]) rfl k) ?_
  show Gl _ _ _ _ _ _ _ (T8.setTop (mkF m 83 #[.val (.int p1), .val (.int p2), .val (.int p3), .val (.int p4), .val (.int p5), .val (.int p6), .val (.ref b1), .val (.int uu), .val (.int vv), .val (.int fr), .val (.int tt), .val (.int tt), .unset] []))
  refine Gl.st (fun t k => XS.iload X8.here hx rfl (hb hby at_83) rfl  k) ?_
  show Gl _ _ _ _ _ _ _ (T8.setTop (mkF m 85 #[.val (.int p1), .val (.int p2), .val (.int p3), .val (.int p4), .val (.int p5), .val (.int p6), .val (.ref b1), .val (.int uu), .val (.int vv), .val (.int fr), .val (.int tt), .val (.int tt), .unset] [(.int fr)]))
  refine Gl.st (fun t k => XS.iconst X8.here hx rfl (hb hby at_85) k) ?_
  show Gl _ _ _ _ _ _ _ (T8.setTop (mkF m 86 #[.val (.int p1), .val (.int p2), .val (.int p3), .val (.int p4), .val (.int p5), .val (.int p6), .val (.ref b1), .val (.int uu), .val (.int vv), .val (.int fr), .val (.int tt), .val (.int tt), .unset] [(.int (4 : Int32)), (.int fr)]))
  have J9 : ∀ (Tj9 : State) (Lj9 : List Loc) (Xj9 : Stand p l e room_1 s m #[(.int p1), (.int p2), (.int p3), (.int p4), (.int p5), (.int p6)] below meth c Tj9 Lj9 1 5) (ej9 : Tj9.heap = h6) (Nj9 : Fr n0 Lj9) (z108l11 : Int32) (hz108l11 : z108l11 = (if (4 : Int32) < fr then tt else (if (4 : Int32) < tt then (if (own_ws (nar .byte (p5.toInt8.toInt32))) = (0 : Int32) then tt else (4 : Int32)) else tt))), Gl p e below s (Q0 Z p1 p2 p3 p4 p5 p6 h0 n0) room_1.cells room_1.slots (Tj9.setTop (mkF m 108 #[.val (.int p1), .val (.int p2), .val (.int p3), .val (.int p4), .val (.int p5), .val (.int p6), .val (.ref b1), .val (.int uu), .val (.int vv), .val (.int fr), .val (.int tt), .val (.int z108l11), .unset] [])) := by
    intro Tj9 Lj9 Xj9 ej9 Nj9 z108l11 hz108l11
    show Gl _ _ _ _ _ _ _ (Tj9.setTop (mkF m 108 #[.val (.int p1), .val (.int p2), .val (.int p3), .val (.int p4), .val (.int p5), .val (.int p6), .val (.ref b1), .val (.int uu), .val (.int vv), .val (.int fr), .val (.int tt), .val (.int z108l11), .unset] []))
    refine Gl.st (fun t k => XS.iload Xj9.here hx rfl (hb hby at_108) rfl  k) ?_
    show Gl _ _ _ _ _ _ _ (Tj9.setTop (mkF m 110 #[.val (.int p1), .val (.int p2), .val (.int p3), .val (.int p4), .val (.int p5), .val (.int p6), .val (.ref b1), .val (.int uu), .val (.int vv), .val (.int fr), .val (.int tt), .val (.int z108l11), .unset] [(.int fr)]))
    refine Gl.st (fun t k => XS.iconst Xj9.here hx rfl (hb hby at_110) k) ?_
    show Gl _ _ _ _ _ _ _ (Tj9.setTop (mkF m 111 #[.val (.int p1), .val (.int p2), .val (.int p3), .val (.int p4), .val (.int p5), .val (.int p6), .val (.ref b1), .val (.int uu), .val (.int vv), .val (.int fr), .val (.int tt), .val (.int z108l11), .unset] [(.int (3 : Int32)), (.int fr)]))
    have J10 : ∀ (Tj10 : State) (Lj10 : List Loc) (Xj10 : Stand p l e room_1 s m #[(.int p1), (.int p2), (.int p3), (.int p4), (.int p5), (.int p6)] below meth c Tj10 Lj10 1 5) (ej10 : Tj10.heap = h6) (Nj10 : Fr n0 Lj10) (z133l11 : Int32) (hz133l11 : z133l11 = (if (3 : Int32) < fr then z108l11 else (if (3 : Int32) < tt then (if (own_ws (nar .byte (p4.toInt8.toInt32))) = (0 : Int32) then z108l11 else (3 : Int32)) else z108l11))), Gl p e below s (Q0 Z p1 p2 p3 p4 p5 p6 h0 n0) room_1.cells room_1.slots (Tj10.setTop (mkF m 133 #[.val (.int p1), .val (.int p2), .val (.int p3), .val (.int p4), .val (.int p5), .val (.int p6), .val (.ref b1), .val (.int uu), .val (.int vv), .val (.int fr), .val (.int tt), .val (.int z133l11), .unset] [])) := by
      intro Tj10 Lj10 Xj10 ej10 Nj10 z133l11 hz133l11
      show Gl _ _ _ _ _ _ _ (Tj10.setTop (mkF m 133 #[.val (.int p1), .val (.int p2), .val (.int p3), .val (.int p4), .val (.int p5), .val (.int p6), .val (.ref b1), .val (.int uu), .val (.int vv), .val (.int fr), .val (.int tt), .val (.int z133l11), .unset] []))
      refine Gl.st (fun t k => XS.iload Xj10.here hx rfl (hb hby at_133) rfl  k) ?_
      show Gl _ _ _ _ _ _ _ (Tj10.setTop (mkF m 135 #[.val (.int p1), .val (.int p2), .val (.int p3), .val (.int p4), .val (.int p5), .val (.int p6), .val (.ref b1), .val (.int uu), .val (.int vv), .val (.int fr), .val (.int tt), .val (.int z133l11), .unset] [(.int fr)]))
      refine Gl.st (fun t k => XS.iconst Xj10.here hx rfl (hb hby at_135) k) ?_
      show Gl _ _ _ _ _ _ _ (Tj10.setTop (mkF m 136 #[.val (.int p1), .val (.int p2), .val (.int p3), .val (.int p4), .val (.int p5), .val (.int p6), .val (.ref b1), .val (.int uu), .val (.int vv), .val (.int fr), .val (.int tt), .val (.int z133l11), .unset] [(.int (2 : Int32)), (.int fr)]))
      have J11 : ∀ (Tj11 : State) (Lj11 : List Loc) (Xj11 : Stand p l e room_1 s m #[(.int p1), (.int p2), (.int p3), (.int p4), (.int p5), (.int p6)] below meth c Tj11 Lj11 1 5) (ej11 : Tj11.heap = h6) (Nj11 : Fr n0 Lj11) (z158l11 : Int32) (hz158l11 : z158l11 = (if (2 : Int32) < fr then z133l11 else (if (2 : Int32) < tt then (if (own_ws (nar .byte (p3.toInt8.toInt32))) = (0 : Int32) then z133l11 else (2 : Int32)) else z133l11))), Gl p e below s (Q0 Z p1 p2 p3 p4 p5 p6 h0 n0) room_1.cells room_1.slots (Tj11.setTop (mkF m 158 #[.val (.int p1), .val (.int p2), .val (.int p3), .val (.int p4), .val (.int p5), .val (.int p6), .val (.ref b1), .val (.int uu), .val (.int vv), .val (.int fr), .val (.int tt), .val (.int z158l11), .unset] [])) := by
        intro Tj11 Lj11 Xj11 ej11 Nj11 z158l11 hz158l11
        show Gl _ _ _ _ _ _ _ (Tj11.setTop (mkF m 158 #[.val (.int p1), .val (.int p2), .val (.int p3), .val (.int p4), .val (.int p5), .val (.int p6), .val (.ref b1), .val (.int uu), .val (.int vv), .val (.int fr), .val (.int tt), .val (.int z158l11), .unset] []))
        refine Gl.st (fun t k => XS.iload Xj11.here hx rfl (hb hby at_158) rfl  k) ?_
        show Gl _ _ _ _ _ _ _ (Tj11.setTop (mkF m 160 #[.val (.int p1), .val (.int p2), .val (.int p3), .val (.int p4), .val (.int p5), .val (.int p6), .val (.ref b1), .val (.int uu), .val (.int vv), .val (.int fr), .val (.int tt), .val (.int z158l11), .unset] [(.int fr)]))
        refine Gl.st (fun t k => XS.iconst Xj11.here hx rfl (hb hby at_160) k) ?_
        show Gl _ _ _ _ _ _ _ (Tj11.setTop (mkF m 161 #[.val (.int p1), .val (.int p2), .val (.int p3), .val (.int p4), .val (.int p5), .val (.int p6), .val (.ref b1), .val (.int uu), .val (.int vv), .val (.int fr), .val (.int tt), .val (.int z158l11), .unset] [(.int (1 : Int32)), (.int fr)]))
        have J12 : ∀ (Tj12 : State) (Lj12 : List Loc) (Xj12 : Stand p l e room_1 s m #[(.int p1), (.int p2), (.int p3), (.int p4), (.int p5), (.int p6)] below meth c Tj12 Lj12 1 5) (ej12 : Tj12.heap = h6) (Nj12 : Fr n0 Lj12) (z183l11 : Int32) (hz183l11 : z183l11 = (if (1 : Int32) < fr then z158l11 else (if (1 : Int32) < tt then (if (own_ws (nar .byte (p2.toInt8.toInt32))) = (0 : Int32) then z158l11 else (1 : Int32)) else z158l11))), Gl p e below s (Q0 Z p1 p2 p3 p4 p5 p6 h0 n0) room_1.cells room_1.slots (Tj12.setTop (mkF m 183 #[.val (.int p1), .val (.int p2), .val (.int p3), .val (.int p4), .val (.int p5), .val (.int p6), .val (.ref b1), .val (.int uu), .val (.int vv), .val (.int fr), .val (.int tt), .val (.int z183l11), .unset] [])) := by
          intro Tj12 Lj12 Xj12 ej12 Nj12 z183l11 hz183l11
          show Gl _ _ _ _ _ _ _ (Tj12.setTop (mkF m 183 #[.val (.int p1), .val (.int p2), .val (.int p3), .val (.int p4), .val (.int p5), .val (.int p6), .val (.ref b1), .val (.int uu), .val (.int vv), .val (.int fr), .val (.int tt), .val (.int z183l11), .unset] []))
          refine Gl.st (fun t k => XS.iload Xj12.here hx rfl (hb hby at_183) rfl  k) ?_
          show Gl _ _ _ _ _ _ _ (Tj12.setTop (mkF m 185 #[.val (.int p1), .val (.int p2), .val (.int p3), .val (.int p4), .val (.int p5), .val (.int p6), .val (.ref b1), .val (.int uu), .val (.int vv), .val (.int fr), .val (.int tt), .val (.int z183l11), .unset] [(.int fr)]))
          have J13 : ∀ (Tj13 : State) (Lj13 : List Loc) (Xj13 : Stand p l e room_1 s m #[(.int p1), (.int p2), (.int p3), (.int p4), (.int p5), (.int p6)] below meth c Tj13 Lj13 1 5) (ej13 : Tj13.heap = h6) (Nj13 : Fr n0 Lj13) (z207l11 : Int32) (hz207l11 : z207l11 = (if (0 : Int32) < fr then z183l11 else (if (0 : Int32) < tt then (if (own_ws (nar .byte (p1.toInt8.toInt32))) = (0 : Int32) then z183l11 else (0 : Int32)) else z183l11))), Gl p e below s (Q0 Z p1 p2 p3 p4 p5 p6 h0 n0) room_1.cells room_1.slots (Tj13.setTop (mkF m 207 #[.val (.int p1), .val (.int p2), .val (.int p3), .val (.int p4), .val (.int p5), .val (.int p6), .val (.ref b1), .val (.int uu), .val (.int vv), .val (.int fr), .val (.int tt), .val (.int z207l11), .unset] [])) := by
            intro Tj13 Lj13 Xj13 ej13 Nj13 z207l11 hz207l11
            show Gl _ _ _ _ _ _ _ (Tj13.setTop (mkF m 207 #[.val (.int p1), .val (.int p2), .val (.int p3), .val (.int p4), .val (.int p5), .val (.int p6), .val (.ref b1), .val (.int uu), .val (.int vv), .val (.int fr), .val (.int tt), .val (.int z207l11), .unset] []))
            refine Gl.st (fun t k => XS.aload Xj13.here hx rfl (hb hby at_207) rfl rfl k) ?_
            show Gl _ _ _ _ _ _ _ (Tj13.setTop (mkF m 209 #[.val (.int p1), .val (.int p2), .val (.int p3), .val (.int p4), .val (.int p5), .val (.int p6), .val (.ref b1), .val (.int uu), .val (.int vv), .val (.int fr), .val (.int tt), .val (.int z207l11), .unset] [(.ref b1)]))
            refine Gl.st (fun t k => XS.iload Xj13.here hx rfl (hb hby at_209) rfl  k) ?_
            show Gl _ _ _ _ _ _ _ (Tj13.setTop (mkF m 211 #[.val (.int p1), .val (.int p2), .val (.int p3), .val (.int p4), .val (.int p5), .val (.int p6), .val (.ref b1), .val (.int uu), .val (.int vv), .val (.int fr), .val (.int tt), .val (.int z207l11), .unset] [(.int fr), (.ref b1)]))
            refine Gl.st (fun t k => XS.iload Xj13.here hx rfl (hb hby at_211) rfl  k) ?_
            show Gl _ _ _ _ _ _ _ (Tj13.setTop (mkF m 213 #[.val (.int p1), .val (.int p2), .val (.int p3), .val (.int p4), .val (.int p5), .val (.int p6), .val (.ref b1), .val (.int uu), .val (.int vv), .val (.int fr), .val (.int tt), .val (.int z207l11), .unset] [(.int tt), (.int fr), (.ref b1)]))
            obtain ⟨_, _, ⟨T14, L14, k14, n14⟩, -, X14, ⟨Lc14, hQ14, l14, y14, z14⟩, st14⟩ := Jvm.LawKit.callS Xj13 hx (y := (⟨"com/example/ilsa/ilsa/io/LineFields", "fieldEnd", "([BII)I"⟩ : MethodName)) hown (mvT hZ (hw _ (List.mem_of_getElem? (i := 12) rfl))) (mvT hZ (hw _ (List.mem_of_getElem? (i := 13) rfl))) (mvT hZ (hw _ (List.mem_of_getElem? (i := 14) rfl))) (mvT hZ (hw _ (List.mem_of_getElem? (i := 15) rfl))) (by decide) (backOf (W := 0) (rm4 l Z a0 hw [] b1 fr tt (k1) ((nar .byte (p1.toInt8.toInt32))) ((nar .byte (p2.toInt8.toInt32))) ((nar .byte (p3.toInt8.toInt32))) ((nar .byte (p4.toInt8.toInt32))) ((nar .byte (p5.toInt8.toInt32))) h6 n0  V6 hft.1 hft.2.1 hft.2.2) hZ (hw _ (List.mem_of_getElem? (i := 15) rfl)) (hw _ (List.mem_of_getElem? (i := 14) rfl)) (by decide) (by decide)) (g := (mkF m 213 #[.val (.int p1), .val (.int p2), .val (.int p3), .val (.int p4), .val (.int p5), .val (.int p6), .val (.ref b1), .val (.int uu), .val (.int vv), .val (.int fr), .val (.int tt), .val (.int z207l11), .unset] [(.int tt), (.int fr), (.ref b1)])) rfl (by rw [hml]; rfl) (argsL := [(.ref b1), (.int fr), (.int tt)]) (rest := []) (lenOf pd_2 rfl) rfl (by show 2 * 0 + _ ≤ _; exact Nat.le_of_eq rfl) (hb hby at_213) (fun _ _ => ⟨rfl, ej13, (by decide : 1 + 0 ≤ _), (by decide : 5 + 0 ≤ _)⟩)
            dsimp only [Pt.U, Pt.locs, Pt.cells, Pt.slots] at X14 l14 y14 z14 st14 hQ14
            rw [y14, z14] at X14
            obtain ⟨rfl, N14q, e14⟩ := hQ14
            have N14 : Fr n0 L14 := by rw [l14]; exact Fr.app Nj13 N14q
            refine Gl.st st14 ?_
            show Gl _ _ _ _ _ _ _ (T14.setTop (mkF m 216 #[.val (.int p1), .val (.int p2), .val (.int p3), .val (.int p4), .val (.int p5), .val (.int p6), .val (.ref b1), .val (.int uu), .val (.int vv), .val (.int fr), .val (.int tt), .val (.int z207l11), .unset] [(.int (own_end [(nar .byte (p1.toInt8.toInt32)), (nar .byte (p2.toInt8.toInt32)), (nar .byte (p3.toInt8.toInt32)), (nar .byte (p4.toInt8.toInt32)), (nar .byte (p5.toInt8.toInt32))] fr tt))]))
            refine Gl.st (fun t k => XS.istore X14.here hx rfl (hb hby at_216) rfl (l' := #[.val (.int p1), .val (.int p2), .val (.int p3), .val (.int p4), .val (.int p5), .val (.int p6), .val (.ref b1), .val (.int uu), .val (.int vv), .val (.int fr), .val (.int tt), .val (.int z207l11), .val (.int (own_end [(nar .byte (p1.toInt8.toInt32)), (nar .byte (p2.toInt8.toInt32)), (nar .byte (p3.toInt8.toInt32)), (nar .byte (p4.toInt8.toInt32)), (nar .byte (p5.toInt8.toInt32))] fr tt))]) rfl k) ?_
            show Gl _ _ _ _ _ _ _ (T14.setTop (mkF m 218 #[.val (.int p1), .val (.int p2), .val (.int p3), .val (.int p4), .val (.int p5), .val (.int p6), .val (.ref b1), .val (.int uu), .val (.int vv), .val (.int fr), .val (.int tt), .val (.int z207l11), .val (.int (own_end [(nar .byte (p1.toInt8.toInt32)), (nar .byte (p2.toInt8.toInt32)), (nar .byte (p3.toInt8.toInt32)), (nar .byte (p4.toInt8.toInt32)), (nar .byte (p5.toInt8.toInt32))] fr tt))] []))
            refine Gl.st (fun t k => XS.iload X14.here hx rfl (hb hby at_218) rfl  k) ?_
            show Gl _ _ _ _ _ _ _ (T14.setTop (mkF m 220 #[.val (.int p1), .val (.int p2), .val (.int p3), .val (.int p4), .val (.int p5), .val (.int p6), .val (.ref b1), .val (.int uu), .val (.int vv), .val (.int fr), .val (.int tt), .val (.int z207l11), .val (.int (own_end [(nar .byte (p1.toInt8.toInt32)), (nar .byte (p2.toInt8.toInt32)), (nar .byte (p3.toInt8.toInt32)), (nar .byte (p4.toInt8.toInt32)), (nar .byte (p5.toInt8.toInt32))] fr tt))] [(.int (own_end [(nar .byte (p1.toInt8.toInt32)), (nar .byte (p2.toInt8.toInt32)), (nar .byte (p3.toInt8.toInt32)), (nar .byte (p4.toInt8.toInt32)), (nar .byte (p5.toInt8.toInt32))] fr tt))]))
            refine Gl.st (fun t k => XS.iload X14.here hx rfl (hb hby at_220) rfl  k) ?_
            show Gl _ _ _ _ _ _ _ (T14.setTop (mkF m 222 #[.val (.int p1), .val (.int p2), .val (.int p3), .val (.int p4), .val (.int p5), .val (.int p6), .val (.ref b1), .val (.int uu), .val (.int vv), .val (.int fr), .val (.int tt), .val (.int z207l11), .val (.int (own_end [(nar .byte (p1.toInt8.toInt32)), (nar .byte (p2.toInt8.toInt32)), (nar .byte (p3.toInt8.toInt32)), (nar .byte (p4.toInt8.toInt32)), (nar .byte (p5.toInt8.toInt32))] fr tt))] [(.int z207l11), (.int (own_end [(nar .byte (p1.toInt8.toInt32)), (nar .byte (p2.toInt8.toInt32)), (nar .byte (p3.toInt8.toInt32)), (nar .byte (p4.toInt8.toInt32)), (nar .byte (p5.toInt8.toInt32))] fr tt))]))
            have hc222_15 : (own_end [(nar .byte (p1.toInt8.toInt32)), (nar .byte (p2.toInt8.toInt32)), (nar .byte (p3.toInt8.toInt32)), (nar .byte (p4.toInt8.toInt32)), (nar .byte (p5.toInt8.toInt32))] fr tt) = z207l11 := by exact own_final _ _ _ _ _ _ _ _ _ _ _ _ hft.1 hft.2.1 hft.2.2 hz108l11 hz133l11 hz158l11 hz183l11 hz207l11
            refine Gl.st (fun t k => XS.icmpNo X14.here hx rfl (hb hby at_222) rfl (teq hc222_15).2 k) ?_
            show Gl _ _ _ _ _ _ _ (T14.setTop (mkF m 225 #[.val (.int p1), .val (.int p2), .val (.int p3), .val (.int p4), .val (.int p5), .val (.int p6), .val (.ref b1), .val (.int uu), .val (.int vv), .val (.int fr), .val (.int tt), .val (.int z207l11), .val (.int (own_end [(nar .byte (p1.toInt8.toInt32)), (nar .byte (p2.toInt8.toInt32)), (nar .byte (p3.toInt8.toInt32)), (nar .byte (p4.toInt8.toInt32)), (nar .byte (p5.toInt8.toInt32))] fr tt))] []))
            refine Gl.st (fun t k => XS.iconst X14.here hx rfl (hb hby at_225) k) ?_
            show Gl _ _ _ _ _ _ _ (T14.setTop (mkF m 226 #[.val (.int p1), .val (.int p2), .val (.int p3), .val (.int p4), .val (.int p5), .val (.int p6), .val (.ref b1), .val (.int uu), .val (.int vv), .val (.int fr), .val (.int tt), .val (.int z207l11), .val (.int (own_end [(nar .byte (p1.toInt8.toInt32)), (nar .byte (p2.toInt8.toInt32)), (nar .byte (p3.toInt8.toInt32)), (nar .byte (p4.toInt8.toInt32)), (nar .byte (p5.toInt8.toInt32))] fr tt))] [(.int (1 : Int32))]))
            refine Gl.st (fun t k => XS.goto X14.here hx rfl (pc0 := 226) (pc' := 230) rfl (hb hby at_226) (by decide) (by decide) k) ?_
            show Gl _ _ _ _ _ _ _ (T14.setTop (mkF m 230 #[.val (.int p1), .val (.int p2), .val (.int p3), .val (.int p4), .val (.int p5), .val (.int p6), .val (.ref b1), .val (.int uu), .val (.int vv), .val (.int fr), .val (.int tt), .val (.int z207l11), .val (.int (own_end [(nar .byte (p1.toInt8.toInt32)), (nar .byte (p2.toInt8.toInt32)), (nar .byte (p3.toInt8.toInt32)), (nar .byte (p4.toInt8.toInt32)), (nar .byte (p5.toInt8.toInt32))] fr tt))] [(.int (1 : Int32))]))
            exact Gl.retN X14 hx hlk Bd.returns (by simp) (hb hby at_230) (⟨rfl, N14⟩) (by decide) (by decide)
          by_cases hc185 : (0 : Int32) < fr
          · refine Gl.st (fun t k => XS.ifYes Xj12.here hx rfl (pc0 := 185) (pc' := 207) rfl (hb hby at_185) rfl ((if0 _ _).trans (tlt hc185).2.2.1) (by decide) (by decide) k) ?_
            show Gl _ _ _ _ _ _ _ (Tj12.setTop (mkF m 207 #[.val (.int p1), .val (.int p2), .val (.int p3), .val (.int p4), .val (.int p5), .val (.int p6), .val (.ref b1), .val (.int uu), .val (.int vv), .val (.int fr), .val (.int tt), .val (.int z183l11), .unset] []))
            exact J13 _ _ Xj12 ej12 Nj12 _ (by simp only [if_pos hc185])
          · refine Gl.st (fun t k => XS.ifNo Xj12.here hx rfl (hb hby at_185) rfl ((if0 _ _).trans (flt hc185).2.2.1) k) ?_
            show Gl _ _ _ _ _ _ _ (Tj12.setTop (mkF m 188 #[.val (.int p1), .val (.int p2), .val (.int p3), .val (.int p4), .val (.int p5), .val (.int p6), .val (.ref b1), .val (.int uu), .val (.int vv), .val (.int fr), .val (.int tt), .val (.int z183l11), .unset] []))
            refine Gl.st (fun t k => XS.iconst Xj12.here hx rfl (hb hby at_188) k) ?_
            show Gl _ _ _ _ _ _ _ (Tj12.setTop (mkF m 189 #[.val (.int p1), .val (.int p2), .val (.int p3), .val (.int p4), .val (.int p5), .val (.int p6), .val (.ref b1), .val (.int uu), .val (.int vv), .val (.int fr), .val (.int tt), .val (.int z183l11), .unset] [(.int (0 : Int32))]))
            refine Gl.st (fun t k => XS.iload Xj12.here hx rfl (hb hby at_189) rfl  k) ?_
            show Gl _ _ _ _ _ _ _ (Tj12.setTop (mkF m 191 #[.val (.int p1), .val (.int p2), .val (.int p3), .val (.int p4), .val (.int p5), .val (.int p6), .val (.ref b1), .val (.int uu), .val (.int vv), .val (.int fr), .val (.int tt), .val (.int z183l11), .unset] [(.int tt), (.int (0 : Int32))]))
            by_cases hc191 : (0 : Int32) < tt
            · refine Gl.st (fun t k => XS.icmpNo Xj12.here hx rfl (hb hby at_191) rfl (tlt hc191).2.1 k) ?_
              show Gl _ _ _ _ _ _ _ (Tj12.setTop (mkF m 194 #[.val (.int p1), .val (.int p2), .val (.int p3), .val (.int p4), .val (.int p5), .val (.int p6), .val (.ref b1), .val (.int uu), .val (.int vv), .val (.int fr), .val (.int tt), .val (.int z183l11), .unset] []))
              refine Gl.st (fun t k => XS.aload Xj12.here hx rfl (hb hby at_194) rfl rfl k) ?_
              show Gl _ _ _ _ _ _ _ (Tj12.setTop (mkF m 196 #[.val (.int p1), .val (.int p2), .val (.int p3), .val (.int p4), .val (.int p5), .val (.int p6), .val (.ref b1), .val (.int uu), .val (.int vv), .val (.int fr), .val (.int tt), .val (.int z183l11), .unset] [(.ref b1)]))
              refine Gl.st (fun t k => XS.iconst Xj12.here hx rfl (hb hby at_196) k) ?_
              show Gl _ _ _ _ _ _ _ (Tj12.setTop (mkF m 197 #[.val (.int p1), .val (.int p2), .val (.int p3), .val (.int p4), .val (.int p5), .val (.int p6), .val (.ref b1), .val (.int uu), .val (.int vv), .val (.int fr), .val (.int tt), .val (.int z183l11), .unset] [(.int (0 : Int32)), (.ref b1)]))
              have Vx16 := V6
              obtain ⟨cl16, Ar16, qk16, S16, M16, H16, G16⟩ := Vx16
              have hin16 : ¬ ((0 : Int32) < 0 ∨ cl16.slots.size ≤ ((0 : Int32)).toNatClampNeg) := inb_of S16 ⟨by decide, by decide⟩
              have hat16 : cl16.slots[((0 : Int32)).toNatClampNeg]? = some (.int (nar .byte (p1.toInt8.toInt32))) := H16.at hin16 rfl
              refine Gl.st (Xj12.baloadBytes hx (j := (0 : Int32)) (v := (.int (nar .byte (p1.toInt8.toInt32)))) (by rw [ej12]; exact Ar16.1) (State.isArrayOf_alike hZ.alike Ar16.2.1) Ar16.2.2 hin16 hat16 (g := (mkF m 197 #[.val (.int p1), .val (.int p2), .val (.int p3), .val (.int p4), .val (.int p5), .val (.int p6), .val (.ref b1), .val (.int uu), .val (.int vv), .val (.int fr), .val (.int tt), .val (.int z183l11), .unset] [(.int (0 : Int32)), (.ref b1)])) rfl rfl (hb hby at_197)) ?_
              show Gl _ _ _ _ _ _ _ (Tj12.setTop (mkF m 198 #[.val (.int p1), .val (.int p2), .val (.int p3), .val (.int p4), .val (.int p5), .val (.int p6), .val (.ref b1), .val (.int uu), .val (.int vv), .val (.int fr), .val (.int tt), .val (.int z183l11), .unset] [(.int (nar .byte (p1.toInt8.toInt32)))]))
              obtain ⟨_, _, ⟨T17, L17, k17, n17⟩, -, X17, ⟨Lc17, hQ17, l17, y17, z17⟩, st17⟩ := Jvm.LawKit.callS Xj12 hx (y := (⟨"com/example/ilsa/ilsa/io/LineFieldsFieldEndPinLaw", "ws", "(B)Z"⟩ : MethodName)) hown (mvT hZ (hw _ (List.mem_of_getElem? (i := 8) rfl))) (mvT hZ (hw _ (List.mem_of_getElem? (i := 9) rfl))) (mvT hZ (hw _ (List.mem_of_getElem? (i := 10) rfl))) (mvT hZ (hw _ (List.mem_of_getElem? (i := 11) rfl))) (by decide) (backOf (W := 0) (rm3 l Z a0 hw [] (nar .byte (p1.toInt8.toInt32)) h6 n0) hZ (hw _ (List.mem_of_getElem? (i := 11) rfl)) (hw _ (List.mem_of_getElem? (i := 10) rfl)) (by decide) (by decide)) (g := (mkF m 198 #[.val (.int p1), .val (.int p2), .val (.int p3), .val (.int p4), .val (.int p5), .val (.int p6), .val (.ref b1), .val (.int uu), .val (.int vv), .val (.int fr), .val (.int tt), .val (.int z183l11), .unset] [(.int (nar .byte (p1.toInt8.toInt32)))])) rfl (by rw [hml]; rfl) (argsL := [(.int (nar .byte (p1.toInt8.toInt32)))]) (rest := []) (lenOf pd_0 rfl) rfl (by show 2 * 0 + _ ≤ _; exact Nat.le_of_eq rfl) (hb hby at_198) (fun _ _ => ⟨rfl, ej12, (by decide : 1 + 0 ≤ _), (by decide : 5 + 0 ≤ _)⟩)
              dsimp only [Pt.U, Pt.locs, Pt.cells, Pt.slots] at X17 l17 y17 z17 st17 hQ17
              rw [y17, z17] at X17
              obtain ⟨rfl, N17q, e17⟩ := hQ17
              have N17 : Fr n0 L17 := by rw [l17]; exact Fr.app Nj12 N17q
              refine Gl.st st17 ?_
              show Gl _ _ _ _ _ _ _ (T17.setTop (mkF m 201 #[.val (.int p1), .val (.int p2), .val (.int p3), .val (.int p4), .val (.int p5), .val (.int p6), .val (.ref b1), .val (.int uu), .val (.int vv), .val (.int fr), .val (.int tt), .val (.int z183l11), .unset] [(.int (own_ws (nar .byte (p1.toInt8.toInt32))))]))
              by_cases hc201 : (own_ws (nar .byte (p1.toInt8.toInt32))) = (0 : Int32)
              · refine Gl.st (fun t k => XS.ifYes X17.here hx rfl (pc0 := 201) (pc' := 207) rfl (hb hby at_201) rfl ((if0 _ _).trans (teq hc201).1) (by decide) (by decide) k) ?_
                show Gl _ _ _ _ _ _ _ (T17.setTop (mkF m 207 #[.val (.int p1), .val (.int p2), .val (.int p3), .val (.int p4), .val (.int p5), .val (.int p6), .val (.ref b1), .val (.int uu), .val (.int vv), .val (.int fr), .val (.int tt), .val (.int z183l11), .unset] []))
                exact J13 _ _ X17 e17 N17 _ (by simp only [if_neg hc185, if_pos hc191, if_pos hc201])
              · refine Gl.st (fun t k => XS.ifNo X17.here hx rfl (hb hby at_201) rfl ((if0 _ _).trans (feq hc201).1) k) ?_
                show Gl _ _ _ _ _ _ _ (T17.setTop (mkF m 204 #[.val (.int p1), .val (.int p2), .val (.int p3), .val (.int p4), .val (.int p5), .val (.int p6), .val (.ref b1), .val (.int uu), .val (.int vv), .val (.int fr), .val (.int tt), .val (.int z183l11), .unset] []))
                refine Gl.st (fun t k => XS.iconst X17.here hx rfl (hb hby at_204) k) ?_
                show Gl _ _ _ _ _ _ _ (T17.setTop (mkF m 205 #[.val (.int p1), .val (.int p2), .val (.int p3), .val (.int p4), .val (.int p5), .val (.int p6), .val (.ref b1), .val (.int uu), .val (.int vv), .val (.int fr), .val (.int tt), .val (.int z183l11), .unset] [(.int (0 : Int32))]))
                refine Gl.st (fun t k => XS.istore X17.here hx rfl (hb hby at_205) rfl (l' := #[.val (.int p1), .val (.int p2), .val (.int p3), .val (.int p4), .val (.int p5), .val (.int p6), .val (.ref b1), .val (.int uu), .val (.int vv), .val (.int fr), .val (.int tt), .val (.int (0 : Int32)), .unset]) rfl k) ?_
                show Gl _ _ _ _ _ _ _ (T17.setTop (mkF m 207 #[.val (.int p1), .val (.int p2), .val (.int p3), .val (.int p4), .val (.int p5), .val (.int p6), .val (.ref b1), .val (.int uu), .val (.int vv), .val (.int fr), .val (.int tt), .val (.int (0 : Int32)), .unset] []))
                exact J13 _ _ X17 e17 N17 _ (by simp only [if_neg hc185, if_pos hc191, if_neg hc201])
            · refine Gl.st (fun t k => XS.icmpYes Xj12.here hx rfl (pc0 := 191) (pc' := 207) rfl (hb hby at_191) rfl (flt hc191).2.1 (by decide) (by decide) k) ?_
              show Gl _ _ _ _ _ _ _ (Tj12.setTop (mkF m 207 #[.val (.int p1), .val (.int p2), .val (.int p3), .val (.int p4), .val (.int p5), .val (.int p6), .val (.ref b1), .val (.int uu), .val (.int vv), .val (.int fr), .val (.int tt), .val (.int z183l11), .unset] []))
              exact J13 _ _ Xj12 ej12 Nj12 _ (by simp only [if_neg hc185, if_neg hc191])
        by_cases hc161 : (1 : Int32) < fr
        · refine Gl.st (fun t k => XS.icmpYes Xj11.here hx rfl (pc0 := 161) (pc' := 183) rfl (hb hby at_161) rfl (tlt hc161).2.2.1 (by decide) (by decide) k) ?_
          show Gl _ _ _ _ _ _ _ (Tj11.setTop (mkF m 183 #[.val (.int p1), .val (.int p2), .val (.int p3), .val (.int p4), .val (.int p5), .val (.int p6), .val (.ref b1), .val (.int uu), .val (.int vv), .val (.int fr), .val (.int tt), .val (.int z158l11), .unset] []))
          exact J12 _ _ Xj11 ej11 Nj11 _ (by simp only [if_pos hc161])
        · refine Gl.st (fun t k => XS.icmpNo Xj11.here hx rfl (hb hby at_161) rfl (flt hc161).2.2.1 k) ?_
          show Gl _ _ _ _ _ _ _ (Tj11.setTop (mkF m 164 #[.val (.int p1), .val (.int p2), .val (.int p3), .val (.int p4), .val (.int p5), .val (.int p6), .val (.ref b1), .val (.int uu), .val (.int vv), .val (.int fr), .val (.int tt), .val (.int z158l11), .unset] []))
          refine Gl.st (fun t k => XS.iconst Xj11.here hx rfl (hb hby at_164) k) ?_
          show Gl _ _ _ _ _ _ _ (Tj11.setTop (mkF m 165 #[.val (.int p1), .val (.int p2), .val (.int p3), .val (.int p4), .val (.int p5), .val (.int p6), .val (.ref b1), .val (.int uu), .val (.int vv), .val (.int fr), .val (.int tt), .val (.int z158l11), .unset] [(.int (1 : Int32))]))
          refine Gl.st (fun t k => XS.iload Xj11.here hx rfl (hb hby at_165) rfl  k) ?_
          show Gl _ _ _ _ _ _ _ (Tj11.setTop (mkF m 167 #[.val (.int p1), .val (.int p2), .val (.int p3), .val (.int p4), .val (.int p5), .val (.int p6), .val (.ref b1), .val (.int uu), .val (.int vv), .val (.int fr), .val (.int tt), .val (.int z158l11), .unset] [(.int tt), (.int (1 : Int32))]))
          by_cases hc167 : (1 : Int32) < tt
          · refine Gl.st (fun t k => XS.icmpNo Xj11.here hx rfl (hb hby at_167) rfl (tlt hc167).2.1 k) ?_
            show Gl _ _ _ _ _ _ _ (Tj11.setTop (mkF m 170 #[.val (.int p1), .val (.int p2), .val (.int p3), .val (.int p4), .val (.int p5), .val (.int p6), .val (.ref b1), .val (.int uu), .val (.int vv), .val (.int fr), .val (.int tt), .val (.int z158l11), .unset] []))
            refine Gl.st (fun t k => XS.aload Xj11.here hx rfl (hb hby at_170) rfl rfl k) ?_
            show Gl _ _ _ _ _ _ _ (Tj11.setTop (mkF m 172 #[.val (.int p1), .val (.int p2), .val (.int p3), .val (.int p4), .val (.int p5), .val (.int p6), .val (.ref b1), .val (.int uu), .val (.int vv), .val (.int fr), .val (.int tt), .val (.int z158l11), .unset] [(.ref b1)]))
            refine Gl.st (fun t k => XS.iconst Xj11.here hx rfl (hb hby at_172) k) ?_
            show Gl _ _ _ _ _ _ _ (Tj11.setTop (mkF m 173 #[.val (.int p1), .val (.int p2), .val (.int p3), .val (.int p4), .val (.int p5), .val (.int p6), .val (.ref b1), .val (.int uu), .val (.int vv), .val (.int fr), .val (.int tt), .val (.int z158l11), .unset] [(.int (1 : Int32)), (.ref b1)]))
            have Vx18 := V6
            obtain ⟨cl18, Ar18, qk18, S18, M18, H18, G18⟩ := Vx18
            have hin18 : ¬ ((1 : Int32) < 0 ∨ cl18.slots.size ≤ ((1 : Int32)).toNatClampNeg) := inb_of S18 ⟨by decide, by decide⟩
            have hat18 : cl18.slots[((1 : Int32)).toNatClampNeg]? = some (.int (nar .byte (p2.toInt8.toInt32))) := H18.at hin18 rfl
            refine Gl.st (Xj11.baloadBytes hx (j := (1 : Int32)) (v := (.int (nar .byte (p2.toInt8.toInt32)))) (by rw [ej11]; exact Ar18.1) (State.isArrayOf_alike hZ.alike Ar18.2.1) Ar18.2.2 hin18 hat18 (g := (mkF m 173 #[.val (.int p1), .val (.int p2), .val (.int p3), .val (.int p4), .val (.int p5), .val (.int p6), .val (.ref b1), .val (.int uu), .val (.int vv), .val (.int fr), .val (.int tt), .val (.int z158l11), .unset] [(.int (1 : Int32)), (.ref b1)])) rfl rfl (hb hby at_173)) ?_
            show Gl _ _ _ _ _ _ _ (Tj11.setTop (mkF m 174 #[.val (.int p1), .val (.int p2), .val (.int p3), .val (.int p4), .val (.int p5), .val (.int p6), .val (.ref b1), .val (.int uu), .val (.int vv), .val (.int fr), .val (.int tt), .val (.int z158l11), .unset] [(.int (nar .byte (p2.toInt8.toInt32)))]))
            obtain ⟨_, _, ⟨T19, L19, k19, n19⟩, -, X19, ⟨Lc19, hQ19, l19, y19, z19⟩, st19⟩ := Jvm.LawKit.callS Xj11 hx (y := (⟨"com/example/ilsa/ilsa/io/LineFieldsFieldEndPinLaw", "ws", "(B)Z"⟩ : MethodName)) hown (mvT hZ (hw _ (List.mem_of_getElem? (i := 8) rfl))) (mvT hZ (hw _ (List.mem_of_getElem? (i := 9) rfl))) (mvT hZ (hw _ (List.mem_of_getElem? (i := 10) rfl))) (mvT hZ (hw _ (List.mem_of_getElem? (i := 11) rfl))) (by decide) (backOf (W := 0) (rm3 l Z a0 hw [] (nar .byte (p2.toInt8.toInt32)) h6 n0) hZ (hw _ (List.mem_of_getElem? (i := 11) rfl)) (hw _ (List.mem_of_getElem? (i := 10) rfl)) (by decide) (by decide)) (g := (mkF m 174 #[.val (.int p1), .val (.int p2), .val (.int p3), .val (.int p4), .val (.int p5), .val (.int p6), .val (.ref b1), .val (.int uu), .val (.int vv), .val (.int fr), .val (.int tt), .val (.int z158l11), .unset] [(.int (nar .byte (p2.toInt8.toInt32)))])) rfl (by rw [hml]; rfl) (argsL := [(.int (nar .byte (p2.toInt8.toInt32)))]) (rest := []) (lenOf pd_0 rfl) rfl (by show 2 * 0 + _ ≤ _; exact Nat.le_of_eq rfl) (hb hby at_174) (fun _ _ => ⟨rfl, ej11, (by decide : 1 + 0 ≤ _), (by decide : 5 + 0 ≤ _)⟩)
            dsimp only [Pt.U, Pt.locs, Pt.cells, Pt.slots] at X19 l19 y19 z19 st19 hQ19
            rw [y19, z19] at X19
            obtain ⟨rfl, N19q, e19⟩ := hQ19
            have N19 : Fr n0 L19 := by rw [l19]; exact Fr.app Nj11 N19q
            refine Gl.st st19 ?_
            show Gl _ _ _ _ _ _ _ (T19.setTop (mkF m 177 #[.val (.int p1), .val (.int p2), .val (.int p3), .val (.int p4), .val (.int p5), .val (.int p6), .val (.ref b1), .val (.int uu), .val (.int vv), .val (.int fr), .val (.int tt), .val (.int z158l11), .unset] [(.int (own_ws (nar .byte (p2.toInt8.toInt32))))]))
            by_cases hc177 : (own_ws (nar .byte (p2.toInt8.toInt32))) = (0 : Int32)
            · refine Gl.st (fun t k => XS.ifYes X19.here hx rfl (pc0 := 177) (pc' := 183) rfl (hb hby at_177) rfl ((if0 _ _).trans (teq hc177).1) (by decide) (by decide) k) ?_
              show Gl _ _ _ _ _ _ _ (T19.setTop (mkF m 183 #[.val (.int p1), .val (.int p2), .val (.int p3), .val (.int p4), .val (.int p5), .val (.int p6), .val (.ref b1), .val (.int uu), .val (.int vv), .val (.int fr), .val (.int tt), .val (.int z158l11), .unset] []))
              exact J12 _ _ X19 e19 N19 _ (by simp only [if_neg hc161, if_pos hc167, if_pos hc177])
            · refine Gl.st (fun t k => XS.ifNo X19.here hx rfl (hb hby at_177) rfl ((if0 _ _).trans (feq hc177).1) k) ?_
              show Gl _ _ _ _ _ _ _ (T19.setTop (mkF m 180 #[.val (.int p1), .val (.int p2), .val (.int p3), .val (.int p4), .val (.int p5), .val (.int p6), .val (.ref b1), .val (.int uu), .val (.int vv), .val (.int fr), .val (.int tt), .val (.int z158l11), .unset] []))
              refine Gl.st (fun t k => XS.iconst X19.here hx rfl (hb hby at_180) k) ?_
              show Gl _ _ _ _ _ _ _ (T19.setTop (mkF m 181 #[.val (.int p1), .val (.int p2), .val (.int p3), .val (.int p4), .val (.int p5), .val (.int p6), .val (.ref b1), .val (.int uu), .val (.int vv), .val (.int fr), .val (.int tt), .val (.int z158l11), .unset] [(.int (1 : Int32))]))
              refine Gl.st (fun t k => XS.istore X19.here hx rfl (hb hby at_181) rfl (l' := #[.val (.int p1), .val (.int p2), .val (.int p3), .val (.int p4), .val (.int p5), .val (.int p6), .val (.ref b1), .val (.int uu), .val (.int vv), .val (.int fr), .val (.int tt), .val (.int (1 : Int32)), .unset]) rfl k) ?_
              show Gl _ _ _ _ _ _ _ (T19.setTop (mkF m 183 #[.val (.int p1), .val (.int p2), .val (.int p3), .val (.int p4), .val (.int p5), .val (.int p6), .val (.ref b1), .val (.int uu), .val (.int vv), .val (.int fr), .val (.int tt), .val (.int (1 : Int32)), .unset] []))
              exact J12 _ _ X19 e19 N19 _ (by simp only [if_neg hc161, if_pos hc167, if_neg hc177])
          · refine Gl.st (fun t k => XS.icmpYes Xj11.here hx rfl (pc0 := 167) (pc' := 183) rfl (hb hby at_167) rfl (flt hc167).2.1 (by decide) (by decide) k) ?_
            show Gl _ _ _ _ _ _ _ (Tj11.setTop (mkF m 183 #[.val (.int p1), .val (.int p2), .val (.int p3), .val (.int p4), .val (.int p5), .val (.int p6), .val (.ref b1), .val (.int uu), .val (.int vv), .val (.int fr), .val (.int tt), .val (.int z158l11), .unset] []))
            exact J12 _ _ Xj11 ej11 Nj11 _ (by simp only [if_neg hc161, if_neg hc167])
      by_cases hc136 : (2 : Int32) < fr
      · refine Gl.st (fun t k => XS.icmpYes Xj10.here hx rfl (pc0 := 136) (pc' := 158) rfl (hb hby at_136) rfl (tlt hc136).2.2.1 (by decide) (by decide) k) ?_
        show Gl _ _ _ _ _ _ _ (Tj10.setTop (mkF m 158 #[.val (.int p1), .val (.int p2), .val (.int p3), .val (.int p4), .val (.int p5), .val (.int p6), .val (.ref b1), .val (.int uu), .val (.int vv), .val (.int fr), .val (.int tt), .val (.int z133l11), .unset] []))
        exact J11 _ _ Xj10 ej10 Nj10 _ (by simp only [if_pos hc136])
      · refine Gl.st (fun t k => XS.icmpNo Xj10.here hx rfl (hb hby at_136) rfl (flt hc136).2.2.1 k) ?_
        show Gl _ _ _ _ _ _ _ (Tj10.setTop (mkF m 139 #[.val (.int p1), .val (.int p2), .val (.int p3), .val (.int p4), .val (.int p5), .val (.int p6), .val (.ref b1), .val (.int uu), .val (.int vv), .val (.int fr), .val (.int tt), .val (.int z133l11), .unset] []))
        refine Gl.st (fun t k => XS.iconst Xj10.here hx rfl (hb hby at_139) k) ?_
        show Gl _ _ _ _ _ _ _ (Tj10.setTop (mkF m 140 #[.val (.int p1), .val (.int p2), .val (.int p3), .val (.int p4), .val (.int p5), .val (.int p6), .val (.ref b1), .val (.int uu), .val (.int vv), .val (.int fr), .val (.int tt), .val (.int z133l11), .unset] [(.int (2 : Int32))]))
        refine Gl.st (fun t k => XS.iload Xj10.here hx rfl (hb hby at_140) rfl  k) ?_
        show Gl _ _ _ _ _ _ _ (Tj10.setTop (mkF m 142 #[.val (.int p1), .val (.int p2), .val (.int p3), .val (.int p4), .val (.int p5), .val (.int p6), .val (.ref b1), .val (.int uu), .val (.int vv), .val (.int fr), .val (.int tt), .val (.int z133l11), .unset] [(.int tt), (.int (2 : Int32))]))
        by_cases hc142 : (2 : Int32) < tt
        · refine Gl.st (fun t k => XS.icmpNo Xj10.here hx rfl (hb hby at_142) rfl (tlt hc142).2.1 k) ?_
          show Gl _ _ _ _ _ _ _ (Tj10.setTop (mkF m 145 #[.val (.int p1), .val (.int p2), .val (.int p3), .val (.int p4), .val (.int p5), .val (.int p6), .val (.ref b1), .val (.int uu), .val (.int vv), .val (.int fr), .val (.int tt), .val (.int z133l11), .unset] []))
          refine Gl.st (fun t k => XS.aload Xj10.here hx rfl (hb hby at_145) rfl rfl k) ?_
          show Gl _ _ _ _ _ _ _ (Tj10.setTop (mkF m 147 #[.val (.int p1), .val (.int p2), .val (.int p3), .val (.int p4), .val (.int p5), .val (.int p6), .val (.ref b1), .val (.int uu), .val (.int vv), .val (.int fr), .val (.int tt), .val (.int z133l11), .unset] [(.ref b1)]))
          refine Gl.st (fun t k => XS.iconst Xj10.here hx rfl (hb hby at_147) k) ?_
          show Gl _ _ _ _ _ _ _ (Tj10.setTop (mkF m 148 #[.val (.int p1), .val (.int p2), .val (.int p3), .val (.int p4), .val (.int p5), .val (.int p6), .val (.ref b1), .val (.int uu), .val (.int vv), .val (.int fr), .val (.int tt), .val (.int z133l11), .unset] [(.int (2 : Int32)), (.ref b1)]))
          have Vx20 := V6
          obtain ⟨cl20, Ar20, qk20, S20, M20, H20, G20⟩ := Vx20
          have hin20 : ¬ ((2 : Int32) < 0 ∨ cl20.slots.size ≤ ((2 : Int32)).toNatClampNeg) := inb_of S20 ⟨by decide, by decide⟩
          have hat20 : cl20.slots[((2 : Int32)).toNatClampNeg]? = some (.int (nar .byte (p3.toInt8.toInt32))) := H20.at hin20 rfl
          refine Gl.st (Xj10.baloadBytes hx (j := (2 : Int32)) (v := (.int (nar .byte (p3.toInt8.toInt32)))) (by rw [ej10]; exact Ar20.1) (State.isArrayOf_alike hZ.alike Ar20.2.1) Ar20.2.2 hin20 hat20 (g := (mkF m 148 #[.val (.int p1), .val (.int p2), .val (.int p3), .val (.int p4), .val (.int p5), .val (.int p6), .val (.ref b1), .val (.int uu), .val (.int vv), .val (.int fr), .val (.int tt), .val (.int z133l11), .unset] [(.int (2 : Int32)), (.ref b1)])) rfl rfl (hb hby at_148)) ?_
          show Gl _ _ _ _ _ _ _ (Tj10.setTop (mkF m 149 #[.val (.int p1), .val (.int p2), .val (.int p3), .val (.int p4), .val (.int p5), .val (.int p6), .val (.ref b1), .val (.int uu), .val (.int vv), .val (.int fr), .val (.int tt), .val (.int z133l11), .unset] [(.int (nar .byte (p3.toInt8.toInt32)))]))
          obtain ⟨_, _, ⟨T21, L21, k21, n21⟩, -, X21, ⟨Lc21, hQ21, l21, y21, z21⟩, st21⟩ := Jvm.LawKit.callS Xj10 hx (y := (⟨"com/example/ilsa/ilsa/io/LineFieldsFieldEndPinLaw", "ws", "(B)Z"⟩ : MethodName)) hown (mvT hZ (hw _ (List.mem_of_getElem? (i := 8) rfl))) (mvT hZ (hw _ (List.mem_of_getElem? (i := 9) rfl))) (mvT hZ (hw _ (List.mem_of_getElem? (i := 10) rfl))) (mvT hZ (hw _ (List.mem_of_getElem? (i := 11) rfl))) (by decide) (backOf (W := 0) (rm3 l Z a0 hw [] (nar .byte (p3.toInt8.toInt32)) h6 n0) hZ (hw _ (List.mem_of_getElem? (i := 11) rfl)) (hw _ (List.mem_of_getElem? (i := 10) rfl)) (by decide) (by decide)) (g := (mkF m 149 #[.val (.int p1), .val (.int p2), .val (.int p3), .val (.int p4), .val (.int p5), .val (.int p6), .val (.ref b1), .val (.int uu), .val (.int vv), .val (.int fr), .val (.int tt), .val (.int z133l11), .unset] [(.int (nar .byte (p3.toInt8.toInt32)))])) rfl (by rw [hml]; rfl) (argsL := [(.int (nar .byte (p3.toInt8.toInt32)))]) (rest := []) (lenOf pd_0 rfl) rfl (by show 2 * 0 + _ ≤ _; exact Nat.le_of_eq rfl) (hb hby at_149) (fun _ _ => ⟨rfl, ej10, (by decide : 1 + 0 ≤ _), (by decide : 5 + 0 ≤ _)⟩)
          dsimp only [Pt.U, Pt.locs, Pt.cells, Pt.slots] at X21 l21 y21 z21 st21 hQ21
          rw [y21, z21] at X21
          obtain ⟨rfl, N21q, e21⟩ := hQ21
          have N21 : Fr n0 L21 := by rw [l21]; exact Fr.app Nj10 N21q
          refine Gl.st st21 ?_
          show Gl _ _ _ _ _ _ _ (T21.setTop (mkF m 152 #[.val (.int p1), .val (.int p2), .val (.int p3), .val (.int p4), .val (.int p5), .val (.int p6), .val (.ref b1), .val (.int uu), .val (.int vv), .val (.int fr), .val (.int tt), .val (.int z133l11), .unset] [(.int (own_ws (nar .byte (p3.toInt8.toInt32))))]))
          by_cases hc152 : (own_ws (nar .byte (p3.toInt8.toInt32))) = (0 : Int32)
          · refine Gl.st (fun t k => XS.ifYes X21.here hx rfl (pc0 := 152) (pc' := 158) rfl (hb hby at_152) rfl ((if0 _ _).trans (teq hc152).1) (by decide) (by decide) k) ?_
            show Gl _ _ _ _ _ _ _ (T21.setTop (mkF m 158 #[.val (.int p1), .val (.int p2), .val (.int p3), .val (.int p4), .val (.int p5), .val (.int p6), .val (.ref b1), .val (.int uu), .val (.int vv), .val (.int fr), .val (.int tt), .val (.int z133l11), .unset] []))
            exact J11 _ _ X21 e21 N21 _ (by simp only [if_neg hc136, if_pos hc142, if_pos hc152])
          · refine Gl.st (fun t k => XS.ifNo X21.here hx rfl (hb hby at_152) rfl ((if0 _ _).trans (feq hc152).1) k) ?_
            show Gl _ _ _ _ _ _ _ (T21.setTop (mkF m 155 #[.val (.int p1), .val (.int p2), .val (.int p3), .val (.int p4), .val (.int p5), .val (.int p6), .val (.ref b1), .val (.int uu), .val (.int vv), .val (.int fr), .val (.int tt), .val (.int z133l11), .unset] []))
            refine Gl.st (fun t k => XS.iconst X21.here hx rfl (hb hby at_155) k) ?_
            show Gl _ _ _ _ _ _ _ (T21.setTop (mkF m 156 #[.val (.int p1), .val (.int p2), .val (.int p3), .val (.int p4), .val (.int p5), .val (.int p6), .val (.ref b1), .val (.int uu), .val (.int vv), .val (.int fr), .val (.int tt), .val (.int z133l11), .unset] [(.int (2 : Int32))]))
            refine Gl.st (fun t k => XS.istore X21.here hx rfl (hb hby at_156) rfl (l' := #[.val (.int p1), .val (.int p2), .val (.int p3), .val (.int p4), .val (.int p5), .val (.int p6), .val (.ref b1), .val (.int uu), .val (.int vv), .val (.int fr), .val (.int tt), .val (.int (2 : Int32)), .unset]) rfl k) ?_
            show Gl _ _ _ _ _ _ _ (T21.setTop (mkF m 158 #[.val (.int p1), .val (.int p2), .val (.int p3), .val (.int p4), .val (.int p5), .val (.int p6), .val (.ref b1), .val (.int uu), .val (.int vv), .val (.int fr), .val (.int tt), .val (.int (2 : Int32)), .unset] []))
            exact J11 _ _ X21 e21 N21 _ (by simp only [if_neg hc136, if_pos hc142, if_neg hc152])
        · refine Gl.st (fun t k => XS.icmpYes Xj10.here hx rfl (pc0 := 142) (pc' := 158) rfl (hb hby at_142) rfl (flt hc142).2.1 (by decide) (by decide) k) ?_
          show Gl _ _ _ _ _ _ _ (Tj10.setTop (mkF m 158 #[.val (.int p1), .val (.int p2), .val (.int p3), .val (.int p4), .val (.int p5), .val (.int p6), .val (.ref b1), .val (.int uu), .val (.int vv), .val (.int fr), .val (.int tt), .val (.int z133l11), .unset] []))
          exact J11 _ _ Xj10 ej10 Nj10 _ (by simp only [if_neg hc136, if_neg hc142])
    by_cases hc111 : (3 : Int32) < fr
    · refine Gl.st (fun t k => XS.icmpYes Xj9.here hx rfl (pc0 := 111) (pc' := 133) rfl (hb hby at_111) rfl (tlt hc111).2.2.1 (by decide) (by decide) k) ?_
      show Gl _ _ _ _ _ _ _ (Tj9.setTop (mkF m 133 #[.val (.int p1), .val (.int p2), .val (.int p3), .val (.int p4), .val (.int p5), .val (.int p6), .val (.ref b1), .val (.int uu), .val (.int vv), .val (.int fr), .val (.int tt), .val (.int z108l11), .unset] []))
      exact J10 _ _ Xj9 ej9 Nj9 _ (by simp only [if_pos hc111])
    · refine Gl.st (fun t k => XS.icmpNo Xj9.here hx rfl (hb hby at_111) rfl (flt hc111).2.2.1 k) ?_
      show Gl _ _ _ _ _ _ _ (Tj9.setTop (mkF m 114 #[.val (.int p1), .val (.int p2), .val (.int p3), .val (.int p4), .val (.int p5), .val (.int p6), .val (.ref b1), .val (.int uu), .val (.int vv), .val (.int fr), .val (.int tt), .val (.int z108l11), .unset] []))
      refine Gl.st (fun t k => XS.iconst Xj9.here hx rfl (hb hby at_114) k) ?_
      show Gl _ _ _ _ _ _ _ (Tj9.setTop (mkF m 115 #[.val (.int p1), .val (.int p2), .val (.int p3), .val (.int p4), .val (.int p5), .val (.int p6), .val (.ref b1), .val (.int uu), .val (.int vv), .val (.int fr), .val (.int tt), .val (.int z108l11), .unset] [(.int (3 : Int32))]))
      refine Gl.st (fun t k => XS.iload Xj9.here hx rfl (hb hby at_115) rfl  k) ?_
      show Gl _ _ _ _ _ _ _ (Tj9.setTop (mkF m 117 #[.val (.int p1), .val (.int p2), .val (.int p3), .val (.int p4), .val (.int p5), .val (.int p6), .val (.ref b1), .val (.int uu), .val (.int vv), .val (.int fr), .val (.int tt), .val (.int z108l11), .unset] [(.int tt), (.int (3 : Int32))]))
      by_cases hc117 : (3 : Int32) < tt
      · refine Gl.st (fun t k => XS.icmpNo Xj9.here hx rfl (hb hby at_117) rfl (tlt hc117).2.1 k) ?_
        show Gl _ _ _ _ _ _ _ (Tj9.setTop (mkF m 120 #[.val (.int p1), .val (.int p2), .val (.int p3), .val (.int p4), .val (.int p5), .val (.int p6), .val (.ref b1), .val (.int uu), .val (.int vv), .val (.int fr), .val (.int tt), .val (.int z108l11), .unset] []))
        refine Gl.st (fun t k => XS.aload Xj9.here hx rfl (hb hby at_120) rfl rfl k) ?_
        show Gl _ _ _ _ _ _ _ (Tj9.setTop (mkF m 122 #[.val (.int p1), .val (.int p2), .val (.int p3), .val (.int p4), .val (.int p5), .val (.int p6), .val (.ref b1), .val (.int uu), .val (.int vv), .val (.int fr), .val (.int tt), .val (.int z108l11), .unset] [(.ref b1)]))
        refine Gl.st (fun t k => XS.iconst Xj9.here hx rfl (hb hby at_122) k) ?_
        show Gl _ _ _ _ _ _ _ (Tj9.setTop (mkF m 123 #[.val (.int p1), .val (.int p2), .val (.int p3), .val (.int p4), .val (.int p5), .val (.int p6), .val (.ref b1), .val (.int uu), .val (.int vv), .val (.int fr), .val (.int tt), .val (.int z108l11), .unset] [(.int (3 : Int32)), (.ref b1)]))
        have Vx22 := V6
        obtain ⟨cl22, Ar22, qk22, S22, M22, H22, G22⟩ := Vx22
        have hin22 : ¬ ((3 : Int32) < 0 ∨ cl22.slots.size ≤ ((3 : Int32)).toNatClampNeg) := inb_of S22 ⟨by decide, by decide⟩
        have hat22 : cl22.slots[((3 : Int32)).toNatClampNeg]? = some (.int (nar .byte (p4.toInt8.toInt32))) := H22.at hin22 rfl
        refine Gl.st (Xj9.baloadBytes hx (j := (3 : Int32)) (v := (.int (nar .byte (p4.toInt8.toInt32)))) (by rw [ej9]; exact Ar22.1) (State.isArrayOf_alike hZ.alike Ar22.2.1) Ar22.2.2 hin22 hat22 (g := (mkF m 123 #[.val (.int p1), .val (.int p2), .val (.int p3), .val (.int p4), .val (.int p5), .val (.int p6), .val (.ref b1), .val (.int uu), .val (.int vv), .val (.int fr), .val (.int tt), .val (.int z108l11), .unset] [(.int (3 : Int32)), (.ref b1)])) rfl rfl (hb hby at_123)) ?_
        show Gl _ _ _ _ _ _ _ (Tj9.setTop (mkF m 124 #[.val (.int p1), .val (.int p2), .val (.int p3), .val (.int p4), .val (.int p5), .val (.int p6), .val (.ref b1), .val (.int uu), .val (.int vv), .val (.int fr), .val (.int tt), .val (.int z108l11), .unset] [(.int (nar .byte (p4.toInt8.toInt32)))]))
        obtain ⟨_, _, ⟨T23, L23, k23, n23⟩, -, X23, ⟨Lc23, hQ23, l23, y23, z23⟩, st23⟩ := Jvm.LawKit.callS Xj9 hx (y := (⟨"com/example/ilsa/ilsa/io/LineFieldsFieldEndPinLaw", "ws", "(B)Z"⟩ : MethodName)) hown (mvT hZ (hw _ (List.mem_of_getElem? (i := 8) rfl))) (mvT hZ (hw _ (List.mem_of_getElem? (i := 9) rfl))) (mvT hZ (hw _ (List.mem_of_getElem? (i := 10) rfl))) (mvT hZ (hw _ (List.mem_of_getElem? (i := 11) rfl))) (by decide) (backOf (W := 0) (rm3 l Z a0 hw [] (nar .byte (p4.toInt8.toInt32)) h6 n0) hZ (hw _ (List.mem_of_getElem? (i := 11) rfl)) (hw _ (List.mem_of_getElem? (i := 10) rfl)) (by decide) (by decide)) (g := (mkF m 124 #[.val (.int p1), .val (.int p2), .val (.int p3), .val (.int p4), .val (.int p5), .val (.int p6), .val (.ref b1), .val (.int uu), .val (.int vv), .val (.int fr), .val (.int tt), .val (.int z108l11), .unset] [(.int (nar .byte (p4.toInt8.toInt32)))])) rfl (by rw [hml]; rfl) (argsL := [(.int (nar .byte (p4.toInt8.toInt32)))]) (rest := []) (lenOf pd_0 rfl) rfl (by show 2 * 0 + _ ≤ _; exact Nat.le_of_eq rfl) (hb hby at_124) (fun _ _ => ⟨rfl, ej9, (by decide : 1 + 0 ≤ _), (by decide : 5 + 0 ≤ _)⟩)
        dsimp only [Pt.U, Pt.locs, Pt.cells, Pt.slots] at X23 l23 y23 z23 st23 hQ23
        rw [y23, z23] at X23
        obtain ⟨rfl, N23q, e23⟩ := hQ23
        have N23 : Fr n0 L23 := by rw [l23]; exact Fr.app Nj9 N23q
        refine Gl.st st23 ?_
        show Gl _ _ _ _ _ _ _ (T23.setTop (mkF m 127 #[.val (.int p1), .val (.int p2), .val (.int p3), .val (.int p4), .val (.int p5), .val (.int p6), .val (.ref b1), .val (.int uu), .val (.int vv), .val (.int fr), .val (.int tt), .val (.int z108l11), .unset] [(.int (own_ws (nar .byte (p4.toInt8.toInt32))))]))
        by_cases hc127 : (own_ws (nar .byte (p4.toInt8.toInt32))) = (0 : Int32)
        · refine Gl.st (fun t k => XS.ifYes X23.here hx rfl (pc0 := 127) (pc' := 133) rfl (hb hby at_127) rfl ((if0 _ _).trans (teq hc127).1) (by decide) (by decide) k) ?_
          show Gl _ _ _ _ _ _ _ (T23.setTop (mkF m 133 #[.val (.int p1), .val (.int p2), .val (.int p3), .val (.int p4), .val (.int p5), .val (.int p6), .val (.ref b1), .val (.int uu), .val (.int vv), .val (.int fr), .val (.int tt), .val (.int z108l11), .unset] []))
          exact J10 _ _ X23 e23 N23 _ (by simp only [if_neg hc111, if_pos hc117, if_pos hc127])
        · refine Gl.st (fun t k => XS.ifNo X23.here hx rfl (hb hby at_127) rfl ((if0 _ _).trans (feq hc127).1) k) ?_
          show Gl _ _ _ _ _ _ _ (T23.setTop (mkF m 130 #[.val (.int p1), .val (.int p2), .val (.int p3), .val (.int p4), .val (.int p5), .val (.int p6), .val (.ref b1), .val (.int uu), .val (.int vv), .val (.int fr), .val (.int tt), .val (.int z108l11), .unset] []))
          refine Gl.st (fun t k => XS.iconst X23.here hx rfl (hb hby at_130) k) ?_
          show Gl _ _ _ _ _ _ _ (T23.setTop (mkF m 131 #[.val (.int p1), .val (.int p2), .val (.int p3), .val (.int p4), .val (.int p5), .val (.int p6), .val (.ref b1), .val (.int uu), .val (.int vv), .val (.int fr), .val (.int tt), .val (.int z108l11), .unset] [(.int (3 : Int32))]))
          refine Gl.st (fun t k => XS.istore X23.here hx rfl (hb hby at_131) rfl (l' := #[.val (.int p1), .val (.int p2), .val (.int p3), .val (.int p4), .val (.int p5), .val (.int p6), .val (.ref b1), .val (.int uu), .val (.int vv), .val (.int fr), .val (.int tt), .val (.int (3 : Int32)), .unset]) rfl k) ?_
          show Gl _ _ _ _ _ _ _ (T23.setTop (mkF m 133 #[.val (.int p1), .val (.int p2), .val (.int p3), .val (.int p4), .val (.int p5), .val (.int p6), .val (.ref b1), .val (.int uu), .val (.int vv), .val (.int fr), .val (.int tt), .val (.int (3 : Int32)), .unset] []))
          exact J10 _ _ X23 e23 N23 _ (by simp only [if_neg hc111, if_pos hc117, if_neg hc127])
      · refine Gl.st (fun t k => XS.icmpYes Xj9.here hx rfl (pc0 := 117) (pc' := 133) rfl (hb hby at_117) rfl (flt hc117).2.1 (by decide) (by decide) k) ?_
        show Gl _ _ _ _ _ _ _ (Tj9.setTop (mkF m 133 #[.val (.int p1), .val (.int p2), .val (.int p3), .val (.int p4), .val (.int p5), .val (.int p6), .val (.ref b1), .val (.int uu), .val (.int vv), .val (.int fr), .val (.int tt), .val (.int z108l11), .unset] []))
        exact J10 _ _ Xj9 ej9 Nj9 _ (by simp only [if_neg hc111, if_neg hc117])
  by_cases hc86 : (4 : Int32) < fr
  · refine Gl.st (fun t k => XS.icmpYes X8.here hx rfl (pc0 := 86) (pc' := 108) rfl (hb hby at_86) rfl (tlt hc86).2.2.1 (by decide) (by decide) k) ?_
    show Gl _ _ _ _ _ _ _ (T8.setTop (mkF m 108 #[.val (.int p1), .val (.int p2), .val (.int p3), .val (.int p4), .val (.int p5), .val (.int p6), .val (.ref b1), .val (.int uu), .val (.int vv), .val (.int fr), .val (.int tt), .val (.int tt), .unset] []))
    exact J9 _ _ X8 e8 N8 _ (by simp only [if_pos hc86])
  · refine Gl.st (fun t k => XS.icmpNo X8.here hx rfl (hb hby at_86) rfl (flt hc86).2.2.1 k) ?_
    show Gl _ _ _ _ _ _ _ (T8.setTop (mkF m 89 #[.val (.int p1), .val (.int p2), .val (.int p3), .val (.int p4), .val (.int p5), .val (.int p6), .val (.ref b1), .val (.int uu), .val (.int vv), .val (.int fr), .val (.int tt), .val (.int tt), .unset] []))
    refine Gl.st (fun t k => XS.iconst X8.here hx rfl (hb hby at_89) k) ?_
    show Gl _ _ _ _ _ _ _ (T8.setTop (mkF m 90 #[.val (.int p1), .val (.int p2), .val (.int p3), .val (.int p4), .val (.int p5), .val (.int p6), .val (.ref b1), .val (.int uu), .val (.int vv), .val (.int fr), .val (.int tt), .val (.int tt), .unset] [(.int (4 : Int32))]))
    refine Gl.st (fun t k => XS.iload X8.here hx rfl (hb hby at_90) rfl  k) ?_
    show Gl _ _ _ _ _ _ _ (T8.setTop (mkF m 92 #[.val (.int p1), .val (.int p2), .val (.int p3), .val (.int p4), .val (.int p5), .val (.int p6), .val (.ref b1), .val (.int uu), .val (.int vv), .val (.int fr), .val (.int tt), .val (.int tt), .unset] [(.int tt), (.int (4 : Int32))]))
    by_cases hc92 : (4 : Int32) < tt
    · refine Gl.st (fun t k => XS.icmpNo X8.here hx rfl (hb hby at_92) rfl (tlt hc92).2.1 k) ?_
      show Gl _ _ _ _ _ _ _ (T8.setTop (mkF m 95 #[.val (.int p1), .val (.int p2), .val (.int p3), .val (.int p4), .val (.int p5), .val (.int p6), .val (.ref b1), .val (.int uu), .val (.int vv), .val (.int fr), .val (.int tt), .val (.int tt), .unset] []))
      refine Gl.st (fun t k => XS.aload X8.here hx rfl (hb hby at_95) rfl rfl k) ?_
      show Gl _ _ _ _ _ _ _ (T8.setTop (mkF m 97 #[.val (.int p1), .val (.int p2), .val (.int p3), .val (.int p4), .val (.int p5), .val (.int p6), .val (.ref b1), .val (.int uu), .val (.int vv), .val (.int fr), .val (.int tt), .val (.int tt), .unset] [(.ref b1)]))
      refine Gl.st (fun t k => XS.iconst X8.here hx rfl (hb hby at_97) k) ?_
      show Gl _ _ _ _ _ _ _ (T8.setTop (mkF m 98 #[.val (.int p1), .val (.int p2), .val (.int p3), .val (.int p4), .val (.int p5), .val (.int p6), .val (.ref b1), .val (.int uu), .val (.int vv), .val (.int fr), .val (.int tt), .val (.int tt), .unset] [(.int (4 : Int32)), (.ref b1)]))
      have Vx24 := V6
      obtain ⟨cl24, Ar24, qk24, S24, M24, H24, G24⟩ := Vx24
      have hin24 : ¬ ((4 : Int32) < 0 ∨ cl24.slots.size ≤ ((4 : Int32)).toNatClampNeg) := inb_of S24 ⟨by decide, by decide⟩
      have hat24 : cl24.slots[((4 : Int32)).toNatClampNeg]? = some (.int (nar .byte (p5.toInt8.toInt32))) := H24.at hin24 rfl
      refine Gl.st (X8.baloadBytes hx (j := (4 : Int32)) (v := (.int (nar .byte (p5.toInt8.toInt32)))) (by rw [e8]; exact Ar24.1) (State.isArrayOf_alike hZ.alike Ar24.2.1) Ar24.2.2 hin24 hat24 (g := (mkF m 98 #[.val (.int p1), .val (.int p2), .val (.int p3), .val (.int p4), .val (.int p5), .val (.int p6), .val (.ref b1), .val (.int uu), .val (.int vv), .val (.int fr), .val (.int tt), .val (.int tt), .unset] [(.int (4 : Int32)), (.ref b1)])) rfl rfl (hb hby at_98)) ?_
      show Gl _ _ _ _ _ _ _ (T8.setTop (mkF m 99 #[.val (.int p1), .val (.int p2), .val (.int p3), .val (.int p4), .val (.int p5), .val (.int p6), .val (.ref b1), .val (.int uu), .val (.int vv), .val (.int fr), .val (.int tt), .val (.int tt), .unset] [(.int (nar .byte (p5.toInt8.toInt32)))]))
      obtain ⟨_, _, ⟨T25, L25, k25, n25⟩, -, X25, ⟨Lc25, hQ25, l25, y25, z25⟩, st25⟩ := Jvm.LawKit.callS X8 hx (y := (⟨"com/example/ilsa/ilsa/io/LineFieldsFieldEndPinLaw", "ws", "(B)Z"⟩ : MethodName)) hown (mvT hZ (hw _ (List.mem_of_getElem? (i := 8) rfl))) (mvT hZ (hw _ (List.mem_of_getElem? (i := 9) rfl))) (mvT hZ (hw _ (List.mem_of_getElem? (i := 10) rfl))) (mvT hZ (hw _ (List.mem_of_getElem? (i := 11) rfl))) (by decide) (backOf (W := 0) (rm3 l Z a0 hw [] (nar .byte (p5.toInt8.toInt32)) h6 n0) hZ (hw _ (List.mem_of_getElem? (i := 11) rfl)) (hw _ (List.mem_of_getElem? (i := 10) rfl)) (by decide) (by decide)) (g := (mkF m 99 #[.val (.int p1), .val (.int p2), .val (.int p3), .val (.int p4), .val (.int p5), .val (.int p6), .val (.ref b1), .val (.int uu), .val (.int vv), .val (.int fr), .val (.int tt), .val (.int tt), .unset] [(.int (nar .byte (p5.toInt8.toInt32)))])) rfl (by rw [hml]; rfl) (argsL := [(.int (nar .byte (p5.toInt8.toInt32)))]) (rest := []) (lenOf pd_0 rfl) rfl (by show 2 * 0 + _ ≤ _; exact Nat.le_of_eq rfl) (hb hby at_99) (fun _ _ => ⟨rfl, e8, (by decide : 1 + 0 ≤ _), (by decide : 5 + 0 ≤ _)⟩)
      dsimp only [Pt.U, Pt.locs, Pt.cells, Pt.slots] at X25 l25 y25 z25 st25 hQ25
      rw [y25, z25] at X25
      obtain ⟨rfl, N25q, e25⟩ := hQ25
      have N25 : Fr n0 L25 := by rw [l25]; exact Fr.app N8 N25q
      refine Gl.st st25 ?_
      show Gl _ _ _ _ _ _ _ (T25.setTop (mkF m 102 #[.val (.int p1), .val (.int p2), .val (.int p3), .val (.int p4), .val (.int p5), .val (.int p6), .val (.ref b1), .val (.int uu), .val (.int vv), .val (.int fr), .val (.int tt), .val (.int tt), .unset] [(.int (own_ws (nar .byte (p5.toInt8.toInt32))))]))
      by_cases hc102 : (own_ws (nar .byte (p5.toInt8.toInt32))) = (0 : Int32)
      · refine Gl.st (fun t k => XS.ifYes X25.here hx rfl (pc0 := 102) (pc' := 108) rfl (hb hby at_102) rfl ((if0 _ _).trans (teq hc102).1) (by decide) (by decide) k) ?_
        show Gl _ _ _ _ _ _ _ (T25.setTop (mkF m 108 #[.val (.int p1), .val (.int p2), .val (.int p3), .val (.int p4), .val (.int p5), .val (.int p6), .val (.ref b1), .val (.int uu), .val (.int vv), .val (.int fr), .val (.int tt), .val (.int tt), .unset] []))
        exact J9 _ _ X25 e25 N25 _ (by simp only [if_neg hc86, if_pos hc92, if_pos hc102])
      · refine Gl.st (fun t k => XS.ifNo X25.here hx rfl (hb hby at_102) rfl ((if0 _ _).trans (feq hc102).1) k) ?_
        show Gl _ _ _ _ _ _ _ (T25.setTop (mkF m 105 #[.val (.int p1), .val (.int p2), .val (.int p3), .val (.int p4), .val (.int p5), .val (.int p6), .val (.ref b1), .val (.int uu), .val (.int vv), .val (.int fr), .val (.int tt), .val (.int tt), .unset] []))
        refine Gl.st (fun t k => XS.iconst X25.here hx rfl (hb hby at_105) k) ?_
        show Gl _ _ _ _ _ _ _ (T25.setTop (mkF m 106 #[.val (.int p1), .val (.int p2), .val (.int p3), .val (.int p4), .val (.int p5), .val (.int p6), .val (.ref b1), .val (.int uu), .val (.int vv), .val (.int fr), .val (.int tt), .val (.int tt), .unset] [(.int (4 : Int32))]))
        refine Gl.st (fun t k => XS.istore X25.here hx rfl (hb hby at_106) rfl (l' := #[.val (.int p1), .val (.int p2), .val (.int p3), .val (.int p4), .val (.int p5), .val (.int p6), .val (.ref b1), .val (.int uu), .val (.int vv), .val (.int fr), .val (.int tt), .val (.int (4 : Int32)), .unset]) rfl k) ?_
        show Gl _ _ _ _ _ _ _ (T25.setTop (mkF m 108 #[.val (.int p1), .val (.int p2), .val (.int p3), .val (.int p4), .val (.int p5), .val (.int p6), .val (.ref b1), .val (.int uu), .val (.int vv), .val (.int fr), .val (.int tt), .val (.int (4 : Int32)), .unset] []))
        exact J9 _ _ X25 e25 N25 _ (by simp only [if_neg hc86, if_pos hc92, if_neg hc102])
    · refine Gl.st (fun t k => XS.icmpYes X8.here hx rfl (pc0 := 92) (pc' := 108) rfl (hb hby at_92) rfl (flt hc92).2.1 (by decide) (by decide) k) ?_
      show Gl _ _ _ _ _ _ _ (T8.setTop (mkF m 108 #[.val (.int p1), .val (.int p2), .val (.int p3), .val (.int p4), .val (.int p5), .val (.int p6), .val (.ref b1), .val (.int uu), .val (.int vv), .val (.int fr), .val (.int tt), .val (.int tt), .unset] []))
      exact J9 _ _ X8 e8 N8 _ (by simp only [if_neg hc86, if_neg hc92])
set_option maxRecDepth 65536 in
set_option maxHeartbeats 40000000 in
theorem comes_1 {Post : Tables → Env → Array Value → State → Outcome → State → Prop} (hpost : ∀ tb e args s v u, (limb_1_1.after args s (.returned v) u = true ∧ limb_1_2.after args s (.returned v) u = true ∧ True) → FrameEnd s (.returned v) u (Jvm.fieldLocs frame_1_writes args s ++ Jvm.arrayLocs frame_1_arrays args s ++ Jvm.staticLocs frame_1_statics s) 16 128 → Post tb e args s (.returned v) u) :
    ArmFor flags0 classFile x code maxLocals ret World_1 tables_1 room_1 Calls_1 rest_1 Pre_1 Post := by
  intro l hfl _ _ p e ha hc hk s m args below hf hA hF happ hP
  obtain ⟨hcalls, hrest, hpre⟩ := hP
  obtain ⟨-, -, -, hnamed, -, -, -, hat⟩ := (Spec.applies_iff hf).mp happ
  obtain ⟨hg, hn⟩ := and_e (Cond.before_iff.mp (show (Jvm.Cond.and given_1 narrow_1).before args s = true from hpre))
  obtain ⟨hcnt, hr0⟩ := and_e hg
  obtain ⟨ha0, hr1⟩ := and_e hr0
  obtain ⟨ha1, hr2⟩ := and_e hr1
  obtain ⟨ha2, hr3⟩ := and_e hr2
  obtain ⟨ha3, hr4⟩ := and_e hr3
  obtain ⟨ha4, hr5⟩ := and_e hr4
  have ha5 := hr5
  obtain ⟨w0, w1, w2, w3, w4, w5, rfl⟩ : ∃ w0 w1 w2 w3 w4 w5 : Value, args = #[w0, w1, w2, w3, w4, w5] := by
    have hs : args.size = 6 := by simpa [Cond.value, given_1] using hcnt
    obtain ⟨L⟩ := args
    match L, hs with
    | [w0, w1, w2, w3, w4, w5], _ => exact ⟨w0, w1, w2, w3, w4, w5, rfl⟩
  have hw := fun d (hd : d ∈ tables_1) => atoms_spec (ws := Jvm.Cond.code x code maxLocals ret :: tables_1) hat d (List.mem_cons_of_mem _ hd)
  obtain ⟨i0, ei0⟩ := is_v ha0
  obtain rfl : w0 = (.int i0) := Option.some.inj ei0
  obtain ⟨i1, ei1⟩ := is_v ha1
  obtain rfl : w1 = (.int i1) := Option.some.inj ei1
  obtain ⟨i2, ei2⟩ := is_v ha2
  obtain rfl : w2 = (.int i2) := Option.some.inj ei2
  obtain ⟨i3, ei3⟩ := is_v ha3
  obtain rfl : w3 = (.int i3) := Option.some.inj ei3
  obtain ⟨i4, ei4⟩ := is_v ha4
  obtain rfl : w4 = (.int i4) := Option.some.inj ei4
  obtain ⟨i5, ei5⟩ := is_v ha5
  obtain rfl : w5 = (.int i5) := Option.some.inj ei5
  obtain ⟨n, o, h1, h2, h3, _, L, rfl, ⟨rfl, N⟩, hq⟩ := rm0 l s _ hw tables_1 i0 i1 i2 i3 i4 i5 s.heap s.heap.size (Nat.le_refl _) p e ha hc hk s m _ below hf ((Spec.applies_iff_loose hf).mp happ).1 ⟨rfl, State.Warmed39.refl s, rfl⟩ trivial
  refine ⟨n, _, h1, h2, h3, hpost _ _ _ _ _ _ ⟨Cond.after_iff.mpr rfl, Cond.after_iff.mpr (eq_i res_at (Term.int_eval (1)) rfl), trivial⟩ ⟨hq.1, hq.2.1, (hq.2.2.sift fun y hy => Or.inr (N y hy)).mono (by decide) (by decide)⟩⟩
theorem main_1_1 : Claimed_1_1 := comes_1 fun _ _ _ _ _ _ h hF => ⟨h.1, hF⟩
theorem main_1_2 : Claimed_1_2 := comes_1 fun _ _ _ _ _ _ h hF => ⟨h.2.1, hF⟩
end Jvm.Pilot.@@N@@
namespace Jvm.Pilot.@@N@@
open Jvm Jvm.ClassFile Sem Op Lib Jvm.Free Jvm.Stand Jvm.Pilot.@@N@@.Jvm.D
/-! MADE BY PROGRAM (witnessworld.py) out of the Statement's table words and the real class files: 10 classes; the members and pool entries that the words name. The judged class is class 1, her method 2. -/
namespace start1
open Jvm.ClassFile
def u (s : String) : CpInfo := .utf8 (stringToUtf16 s)
/-- a pool by its gaps: so many unusable entries, then the entry; so many at the end -/
def gap : Nat → List CpInfo → List CpInfo
  | 0, r => r
  | n + 1, r => .unusable :: gap n r
def poolList (es : List (Nat × CpInfo)) (last : Nat) : List CpInfo := es.foldr (fun e r => gap e.1 (e.2 :: r)) (gap last [])
def pool (es : List (Nat × CpInfo)) (last : Nat) : Array CpInfo := ⟨poolList es last⟩
def fileOf (pool : Array CpInfo) (this : Nat) (attrs : Array Attribute := #[]) (ms : Array MethodInfo := #[]) (fl : Nat := 33) (sup : Nat := 0) (ifs : Array Nat := #[]) (fds : Array FieldInfo := #[]) : ClassFile where
  minorVersion := 0
  majorVersion := 65
  constantPool := pool
  accessFlags := fl
  thisClass := this
  superClass := sup
  interfaces := ifs
  fields := fds
  methods := ms
  attributes := attrs
def plain (name : String) (sup : Option ClassId) : Class where
  name := name
  kind := .ordinary
  loader := none
  accessFlags := 33
  super := sup
  interfaces := #[]
  cf := none
  fields := #[]
  methods := #[]
  instanceTypes := #[]
  staticTypes := #[]
  resolved := #[]
  callSites := []
  init := .initialized
  statics := none
  mirror := none

def pool0 : Array CpInfo := pool [(5, u "<init>"), (0, u "()V"), (1, .class_ 10), (1, u "java/lang/Object")] 113

def k0m0 : Method := { name := "<init>", desc := "()V", sig := { parameters := [], returnType := none }, accessFlags := 1, code := none }
/-- java/lang/Object -/
def k0 : Class := { plain "java/lang/Object" none with
  accessFlags := 33
  interfaces := #[]
  cf := some (fileOf pool0 8 #[] #[{ accessFlags := 1, nameIndex := 5, descriptorIndex := 6, attributes := #[] }] 33 0 #[] #[])
  fields := #[]
  methods := #[k0m0]
  instanceTypes := #[]
  staticTypes := #[]
  resolved := Array.replicate 124 none
  statics := none }

def pool1 : Array CpInfo := pool [(2, .class_ 4), (1, u "java/lang/Object"), (0, u "<init>"), (0, u "()V"), (0, .methodref 8 9), (0, .class_ 10), (0, .nameAndType 11 12), (0, u "java/lang/Math"), (0, u "min"), (0, u "(II)I"), (0, .methodref 8 14), (0, .nameAndType 15 12), (0, u "max"), (0, .methodref 17 18), (0, .class_ 19), (0, .nameAndType 20 21), (0, u "com/example/ilsa/ilsa/io/LineFieldsFieldEndPinLaw"), (0, u "ws"), (0, u "(B)Z"), (0, .methodref 23 24), (0, .class_ 25), (0, .nameAndType 26 27), (0, u "com/example/ilsa/ilsa/io/LineFields"), (0, u "fieldEnd"), (0, u "([BII)I"), (3, u "law"), (0, u "(IIIIII)Z")] 4

def k1m0 : Method := { name := "<init>", desc := "()V", sig := { parameters := [], returnType := none }, accessFlags := 2, code := none }
def k1c1 : Code := { maxStack := 2, maxLocals := 1, code := method_2_code, exceptionTable := #[], attributes := #[] }
def k1m1 : Method := { name := "ws", desc := "(B)Z", sig := { parameters := [.byte], returnType := some .boolean }, accessFlags := 10, code := some k1c1 }
def k1c2 : Code := { maxStack := 3, maxLocals := 13, code := code, exceptionTable := #[], attributes := #[] }
def k1m2 : Method := { name := "law", desc := "(IIIIII)Z", sig := { parameters := [.int, .int, .int, .int, .int, .int], returnType := some .boolean }, accessFlags := 9, code := some k1c2 }
/-- com/example/ilsa/ilsa/io/LineFieldsFieldEndPinLaw -/
def k1 : Class := { plain "com/example/ilsa/ilsa/io/LineFieldsFieldEndPinLaw" (some 0) with
  accessFlags := 49
  interfaces := #[]
  cf := some (fileOf pool1 17 #[] #[{ accessFlags := 2, nameIndex := 5, descriptorIndex := 6, attributes := #[] }, { accessFlags := 10, nameIndex := 20, descriptorIndex := 21, attributes := #[] }, { accessFlags := 9, nameIndex := 31, descriptorIndex := 32, attributes := #[] }] 49 2 #[] #[])
  fields := #[]
  methods := #[k1m0, k1m1, k1m2]
  instanceTypes := #[]
  staticTypes := #[]
  resolved := Array.replicate 37 none
  statics := none }

def pool2 : Array CpInfo := pool [(1, .class_ 2), (0, u "java/lang/Math"), (1, .class_ 6), (1, u "java/lang/Object"), (0, u "<init>"), (0, u "()V"), (89, .class_ 100), (1, u "java/lang/Math$RandomNumberGeneratorHolder"), (71, u "negativeZeroFloatBits"), (0, u "J"), (2, u "negativeZeroDoubleBits"), (21, u "max"), (2, u "min"), (43, u "$assertionsDisabled"), (0, u "Z"), (88, u "(II)I"), (2, u "twoToTheDoubleScaleDown"), (0, u "D"), (4, u "twoToTheDoubleScaleUp"), (9, u "E"), (3, u "PI"), (2, u "TAU"), (2, u "DEGREES_TO_RADIANS"), (0, u "RADIANS_TO_DEGREES")] 94

def k2m0 : Method := { name := "<init>", desc := "()V", sig := { parameters := [], returnType := none }, accessFlags := 2, code := none }
def k2c1 : Code := { maxStack := 2, maxLocals := 2, code := jdk_29_method_65_code, exceptionTable := #[], attributes := #[] }
def k2m1 : Method := { name := "max", desc := "(II)I", sig := { parameters := [.int, .int], returnType := some .int }, accessFlags := 9, code := some k2c1 }
def k2c2 : Code := { maxStack := 2, maxLocals := 2, code := jdk_29_method_69_code, exceptionTable := #[], attributes := #[] }
def k2m2 : Method := { name := "min", desc := "(II)I", sig := { parameters := [.int, .int], returnType := some .int }, accessFlags := 9, code := some k2c2 }
/-- java/lang/Math -/
def k2 : Class := { plain "java/lang/Math" (some 0) with
  accessFlags := 49
  interfaces := #[]
  cf := some (fileOf pool2 1 #[.nestMembers #[98]] #[{ accessFlags := 2, nameIndex := 7, descriptorIndex := 8, attributes := #[] }, { accessFlags := 9, nameIndex := 198, descriptorIndex := 335, attributes := #[] }, { accessFlags := 9, nameIndex := 201, descriptorIndex := 335, attributes := #[] }] 49 4 #[] #[{ accessFlags := 25, nameIndex := 354, descriptorIndex := 339, attributes := #[] }, { accessFlags := 25, nameIndex := 358, descriptorIndex := 339, attributes := #[] }, { accessFlags := 25, nameIndex := 361, descriptorIndex := 339, attributes := #[] }, { accessFlags := 26, nameIndex := 364, descriptorIndex := 339, attributes := #[] }, { accessFlags := 26, nameIndex := 365, descriptorIndex := 339, attributes := #[] }, { accessFlags := 26, nameIndex := 172, descriptorIndex := 173, attributes := #[] }, { accessFlags := 26, nameIndex := 176, descriptorIndex := 173, attributes := #[] }, { accessFlags := 8, nameIndex := 344, descriptorIndex := 339, attributes := #[] }, { accessFlags := 8, nameIndex := 338, descriptorIndex := 339, attributes := #[] }, { accessFlags := 4120, nameIndex := 245, descriptorIndex := 246, attributes := #[] }])
  fields := #[{ name := "E", type := .double, accessFlags := 25, slot := 0, constantValue := 0 }, { name := "PI", type := .double, accessFlags := 25, slot := 1, constantValue := 0 }, { name := "TAU", type := .double, accessFlags := 25, slot := 2, constantValue := 0 }, { name := "DEGREES_TO_RADIANS", type := .double, accessFlags := 26, slot := 3, constantValue := 0 }, { name := "RADIANS_TO_DEGREES", type := .double, accessFlags := 26, slot := 4, constantValue := 0 }, { name := "negativeZeroFloatBits", type := .long, accessFlags := 26, slot := 5, constantValue := 0 }, { name := "negativeZeroDoubleBits", type := .long, accessFlags := 26, slot := 6, constantValue := 0 }, { name := "twoToTheDoubleScaleUp", type := .double, accessFlags := 8, slot := 7, constantValue := 0 }, { name := "twoToTheDoubleScaleDown", type := .double, accessFlags := 8, slot := 8, constantValue := 0 }, { name := "$assertionsDisabled", type := .boolean, accessFlags := 4120, slot := 9, constantValue := 0 }]
  methods := #[k2m0, k2m1, k2m2]
  instanceTypes := #[]
  staticTypes := #[.double, .double, .double, .double, .double, .long, .long, .double, .double, .boolean]
  resolved := Array.replicate 460 none
  statics := none }

def pool3 : Array CpInfo := pool [(2, .class_ 4), (1, u "java/lang/Object"), (0, u "<init>"), (0, u "()V"), (1, .class_ 10), (1, u "com/example/ilsa/ilsa/io/LineFields"), (1, u "([BII)I"), (0, .methodref 8 14), (0, .nameAndType 15 16), (0, u "isWhitespace"), (0, u "(B)Z"), (15, u "fieldEnd")] 4

def k3m0 : Method := { name := "<init>", desc := "()V", sig := { parameters := [], returnType := none }, accessFlags := 2, code := none }
def k3c1 : Code := { maxStack := 2, maxLocals := 4, code := prog_5_method_4_code, exceptionTable := #[], attributes := #[] }
def k3m1 : Method := { name := "fieldEnd", desc := "([BII)I", sig := { parameters := [(.array .byte), .int, .int], returnType := some .int }, accessFlags := 8, code := some k3c1 }
def k3c2 : Code := { maxStack := 2, maxLocals := 1, code := prog_5_method_6_code, exceptionTable := #[], attributes := #[] }
def k3m2 : Method := { name := "isWhitespace", desc := "(B)Z", sig := { parameters := [.byte], returnType := some .boolean }, accessFlags := 10, code := some k3c2 }
/-- com/example/ilsa/ilsa/io/LineFields -/
def k3 : Class := { plain "com/example/ilsa/ilsa/io/LineFields" (some 0) with
  accessFlags := 48
  interfaces := #[]
  cf := some (fileOf pool3 8 #[] #[{ accessFlags := 2, nameIndex := 5, descriptorIndex := 6, attributes := #[] }, { accessFlags := 8, nameIndex := 32, descriptorIndex := 12, attributes := #[] }, { accessFlags := 10, nameIndex := 15, descriptorIndex := 16, attributes := #[] }] 48 2 #[] #[])
  fields := #[]
  methods := #[k3m0, k3m1, k3m2]
  instanceTypes := #[]
  staticTypes := #[]
  resolved := Array.replicate 37 none
  statics := none }

def pool4 : Array CpInfo := pool [(1, u "java/lang/Cloneable"), (0, .class_ 1), (0, u "java/lang/Object"), (0, .class_ 3)] 3

/-- java/lang/Cloneable -/
def k4 : Class := { plain "java/lang/Cloneable" (some 0) with
  accessFlags := 1537
  interfaces := #[]
  cf := some (fileOf pool4 2 #[] #[] 1537 4 #[] #[])
  fields := #[]
  methods := #[]
  instanceTypes := #[]
  staticTypes := #[]
  resolved := Array.replicate 8 none
  statics := none }

def pool5 : Array CpInfo := pool [(1, u "java/io/Serializable"), (0, .class_ 1), (0, u "java/lang/Object"), (0, .class_ 3)] 3

/-- java/io/Serializable -/
def k5 : Class := { plain "java/io/Serializable" (some 0) with
  accessFlags := 1537
  interfaces := #[]
  cf := some (fileOf pool5 2 #[] #[] 1537 4 #[] #[])
  fields := #[]
  methods := #[]
  instanceTypes := #[]
  staticTypes := #[]
  resolved := Array.replicate 8 none
  statics := none }

/-- the primitive byte -/
def k6 : Class := { plain "byte" none with kind := .primitive 'B', accessFlags := 0x411 }
/-- [B -/
def k7 : Class := { plain "[B" (some 0) with kind := .array 6 .byte, interfaces := #[4, 5], accessFlags := 1041 }

/-- the primitive int -/
def k8 : Class := { plain "int" none with kind := .primitive 'I', accessFlags := 0x411 }
/-- [I -/
def k9 : Class := { plain "[I" (some 0) with kind := .array 8 .int, interfaces := #[4, 5], accessFlags := 1041 }

def heap : Heap := #[]
def classes : Array Class := #[k0, k1, k2, k3, k4, k5, k6, k7, k8, k9]
def interned : List (Array UInt16 × Addr) := []
def slotsUsed : Nat := 0
def theMethod : MethodId := ⟨1, 2⟩
def args0 : Array Value := #[.int 5, .int 32, .int 0, .int (-7), .int 9, .int 12345]
def aboutOver (below : List Frame) : State where
  vm := { classes := classes, interned := interned.toArray }
  heap := heap
  slotsUsed := slotsUsed
  threads := #[{ frames := .invoking theMethod args0 :: below }]
def below0 : List Frame := [.native { method := ⟨0, 0⟩, args := #[] }]
def about1 : State := aboutOver below0
def p0 : Program := .bare "" "" ""
def e0 : Env := launch0.env 0 0 0
theorem w_frames : about1.frames = Frame.invoking theMethod args0 :: below0 := rfl
set_option maxRecDepth 65536 in
theorem w_args : argsFit about1.vm theMethod args0 = true := by decide +kernel
set_option maxRecDepth 65536 in
theorem w_heap : heapFits about1 = true := by decide +kernel
set_option maxRecDepth 65536 in
theorem w_runnable : about1.curStatus? = some .runnable := by decide +kernel
set_option maxRecDepth 65536 in
theorem w_alone : about1.alone = true := by decide +kernel
set_option maxRecDepth 65536 in
theorem w_named : about1.methodNamed? x = some theMethod := by decide +kernel
set_option maxRecDepth 65536 in
theorem w_hears : about1.hears theMethod below0 = true := by decide +kernel
set_option maxRecDepth 65536 in
theorem w_ripe : about1.ripe theMethod args0 below0 = true := by decide +kernel
theorem w_running : about1.status = .running := rfl
set_option maxRecDepth 65536 in
theorem w_room : about1.hasRoom e0.platform room_1 = true :=
  launch0.hasRoom_least _ room_1 (by decide +kernel) (by decide +kernel) (by decide +kernel) (by decide +kernel) (by decide +kernel) (by decide +kernel)
theorem allAtoms_all (ts : List Jvm.Cond) (a : Array Jvm.Value) (st : Jvm.State) : (allAtoms ts).before a st = ts.all (fun c => c.before a st) := by
  induction ts with
  | nil => rfl
  | cons c t ih =>
    show (Jvm.Cond.and c (allAtoms t)).before a st = _
    rw [Jvm.Cond.before_and, ih, List.all_cons]
def words1 : List Jvm.Cond := Jvm.Cond.code x code maxLocals ret :: tables_1
/-- a 'code' word, met by the world's own term for the bytes: nothing is compared byte by byte -/
theorem code_word {y : MethodName} {bytes : ByteArray} {mx : Nat} {rt : Option FieldType} {a : Array Value} {s : State} {m : MethodId} {meth : Method} {c : Code} (h1 : s.methodNamed? y = some m) (h2 : s.vm.method? m = some meth) (h3 : meth.code = some c) (h4 : c.code = bytes)
    (h5 : (c.maxLocals == mx && c.exceptionTable.isEmpty && decide (c.maxStack ≤ mostOperands) && decide (meth.sig.returnType = rt) && !meth.locks && decide (parseMethodDescriptor y.desc = some meth.sig)) = true) : (Jvm.Cond.code y bytes mx rt).before a s = true := by
  simp only [Bool.and_eq_true, beq_iff_eq, Bool.not_eq_true', decide_eq_true_eq] at h5
  obtain ⟨⟨⟨⟨⟨g1, g2⟩, g3⟩, g4⟩, g5⟩, g6⟩ := h5
  simp [Cond.before, Cond.holds, Cond.value, h1, h2, h3, h4, g1, g2, g3, g4, g5, g6]
def isCode : Jvm.Cond → Bool
  | .code _ _ _ _ => true
  | _ => false
theorem all_split {L : List Jvm.Cond} {P : Jvm.Cond → Bool} (h1 : L.all (fun c => isCode c || P c) = true) (h2 : ∀ c ∈ L.filter isCode, P c = true) : L.all P = true := by
  refine List.all_eq_true.mpr fun c hc => ?_
  have h := List.all_eq_true.mp h1 c hc
  rcases Bool.eq_false_or_eq_true (isCode c) with hi | hi
  · exact h2 c (List.mem_filter.mpr ⟨hc, hi⟩)
  · simpa [hi] using h
set_option maxRecDepth 65536 in
theorem w_c0 : (Jvm.Cond.code x code maxLocals ret).before args0 about1 = true := code_word (m := ⟨1, 2⟩) (meth := k1m2) (c := k1c2) (by decide +kernel) rfl rfl rfl (by decide +kernel)
set_option maxRecDepth 65536 in
theorem w_c1 : (Jvm.Cond.code ({ cls := "java/lang/Math", name := "min", desc := "(II)I" } : Jvm.MethodName) jdk_29_method_69_code (2 : Nat) (Option.some Jvm.ClassFile.FieldType.int)).before args0 about1 = true := code_word (m := ⟨2, 2⟩) (meth := k2m2) (c := k2c2) (by decide +kernel) rfl rfl rfl (by decide +kernel)
set_option maxRecDepth 65536 in
theorem w_c2 : (Jvm.Cond.code ({ cls := "java/lang/Math", name := "max", desc := "(II)I" } : Jvm.MethodName) jdk_29_method_65_code (2 : Nat) (Option.some Jvm.ClassFile.FieldType.int)).before args0 about1 = true := code_word (m := ⟨2, 1⟩) (meth := k2m1) (c := k2c1) (by decide +kernel) rfl rfl rfl (by decide +kernel)
set_option maxRecDepth 65536 in
theorem w_c3 : (Jvm.Cond.code ({ cls := "com/example/ilsa/ilsa/io/LineFieldsFieldEndPinLaw", name := "ws", desc := "(B)Z" } : Jvm.MethodName) method_2_code (1 : Nat) (Option.some Jvm.ClassFile.FieldType.boolean)).before args0 about1 = true := code_word (m := ⟨1, 1⟩) (meth := k1m1) (c := k1c1) (by decide +kernel) rfl rfl rfl (by decide +kernel)
set_option maxRecDepth 65536 in
theorem w_c4 : (Jvm.Cond.code ({ cls := "com/example/ilsa/ilsa/io/LineFields", name := "fieldEnd", desc := "([BII)I" } : Jvm.MethodName) prog_5_method_4_code (4 : Nat) (Option.some Jvm.ClassFile.FieldType.int)).before args0 about1 = true := code_word (m := ⟨3, 1⟩) (meth := k3m1) (c := k3c1) (by decide +kernel) rfl rfl rfl (by decide +kernel)
set_option maxRecDepth 65536 in
theorem w_c5 : (Jvm.Cond.code ({ cls := "com/example/ilsa/ilsa/io/LineFields", name := "isWhitespace", desc := "(B)Z" } : Jvm.MethodName) prog_5_method_6_code (1 : Nat) (Option.some Jvm.ClassFile.FieldType.boolean)).before args0 about1 = true := code_word (m := ⟨3, 2⟩) (meth := k3m2) (c := k3c2) (by decide +kernel) rfl rfl rfl (by decide +kernel)
def codes1 : List Jvm.Cond := [Jvm.Cond.code x code maxLocals ret, Jvm.Cond.code ({ cls := "java/lang/Math", name := "min", desc := "(II)I" } : Jvm.MethodName) jdk_29_method_69_code (2 : Nat) (Option.some Jvm.ClassFile.FieldType.int), Jvm.Cond.code ({ cls := "java/lang/Math", name := "max", desc := "(II)I" } : Jvm.MethodName) jdk_29_method_65_code (2 : Nat) (Option.some Jvm.ClassFile.FieldType.int), Jvm.Cond.code ({ cls := "com/example/ilsa/ilsa/io/LineFieldsFieldEndPinLaw", name := "ws", desc := "(B)Z" } : Jvm.MethodName) method_2_code (1 : Nat) (Option.some Jvm.ClassFile.FieldType.boolean), Jvm.Cond.code ({ cls := "com/example/ilsa/ilsa/io/LineFields", name := "fieldEnd", desc := "([BII)I" } : Jvm.MethodName) prog_5_method_4_code (4 : Nat) (Option.some Jvm.ClassFile.FieldType.int), Jvm.Cond.code ({ cls := "com/example/ilsa/ilsa/io/LineFields", name := "isWhitespace", desc := "(B)Z" } : Jvm.MethodName) prog_5_method_6_code (1 : Nat) (Option.some Jvm.ClassFile.FieldType.boolean)]
set_option maxRecDepth 65536 in
theorem codes_eq : words1.filter isCode = codes1 := rfl
theorem w_codes : ∀ c ∈ words1.filter isCode, c.before args0 about1 = true := by
  rw [codes_eq]
  intro c hc
  simp only [codes1, List.mem_cons, List.not_mem_nil, or_false] at hc
  rcases hc with rfl | rfl | rfl | rfl | rfl | rfl
  · exact w_c0
  · exact w_c1
  · exact w_c2
  · exact w_c3
  · exact w_c4
  · exact w_c5
set_option maxRecDepth 65536 in
theorem w_t1 : words1.all (fun c => isCode c || c.before args0 about1) = true := by decide +kernel
theorem w_tables : (allAtoms (Jvm.Cond.code x code maxLocals ret :: tables_1)).before args0 about1 = true := by
  rw [allAtoms_all]
  show words1.all (fun c => c.before args0 about1) = true
  refine all_split ?_ w_codes
  rw [w_t1]
set_option maxRecDepth 65536 in
theorem w_case : (Jvm.Cond.and given_1 narrow_1).before args0 about1 = true := by decide +kernel
theorem w_applies : (headSpec (Jvm.Cond.code x code maxLocals ret :: tables_1) room_1).applies x e0.platform about1 = true :=
  (Spec.applies_iff w_frames).mpr ⟨w_running, w_runnable, w_alone, w_named, w_hears, w_ripe, w_room, w_tables⟩
theorem atStart : AtStart classFile x code maxLocals ret World_1 tables_1 room_1 Calls_1 rest_1 Pre_1 launch0 p0 e0 about1 theMethod args0 below0 :=
  ⟨lists_1, trivial, launch0.admits_env _ _ _, launch0.least_env, fairChoices_fair.cas, fairChoices_fair.clock, w_frames, w_args, w_heap, w_applies, trivial, trivial, w_case⟩
end start1
theorem witness_1 : WitnessClaimed_1 := ⟨start1.p0, start1.e0, start1.about1, start1.theMethod, start1.args0, start1.below0, start1.atStart⟩
end Jvm.Pilot.@@N@@
