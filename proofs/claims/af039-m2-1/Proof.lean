import JvmDerived
import JvmDerived.Pilot.@@N@@Statement
import JvmDerived.Pilot.@@N@@Code
set_option linter.unusedVariables false
set_option linter.unusedSimpArgs false
namespace Jvm.RoadKit
open Sem ClassFile Op Lib Jvm.Stand Jvm.Free Jvm.LawKit
section New
variable {p : Program} {l : Launch} {e : Env} {R : Room} {s : State} {m : MethodId} {args : Array Value} {below : List Frame} {meth : Method} {c : Code} {T T' : State} {locs : List Loc} {cells slots cs sl : Nat} {Q : Option Value → Heap → List Loc → Prop}
/-- from T the run ends, and Q holds at the end -/
def Gl (p : Program) (e : Env) (below : List Frame) (s : State) (Q : Option Value → Heap → List Loc → Prop) (cs sl : Nat) (T : State) : Prop :=
  ∃ s₂ o, Steps p.tables e below T s₂ ∧ s₂.status = .running ∧ Ended s₂ below o ∧ ∃ v L, o = .returned v ∧ Q v s₂.heap L ∧ FrameEnd s o s₂ L cs sl
theorem Gl.st (k : ∀ t, Steps p.tables e below T' t → Steps p.tables e below T t) (h : Gl p e below s Q cs sl T') : Gl p e below s Q cs sl T := by
  obtain ⟨a, o, h1, r⟩ := h
  exact ⟨a, o, k _ h1, r⟩
theorem Gl.to (k : Steps p.tables e below T T') (h : Gl p e below s Q cs sl T') : Gl p e below s Q cs sl T := Gl.st (fun _ q => k.trans q) h
theorem Gl.fin (X : Stand p l e R s m args below meth c T locs cells slots) {v : Option Value} (hv : meth.sig.returnType = none → v = none) (hlk : meth.locks = false) (hQ : Q v T.heap locs) (hc : cells ≤ cs) (hs : slots ≤ sl) {S0 : State}
    (k : ∀ fs, (∀ (f : JFrame) (acts : List Action), f.method = m → f.locked = none → f.entered = [] → (doReturn e (T.setTop f) acts v).1 = T.setFrames fs) → Steps p.tables e below S0 (T.setFrames fs)) : Gl p e below s Q cs sl S0 := by
  obtain ⟨fs, hr, hrun, hended, hW, hsame⟩ := X.leave hv hlk
  exact ⟨_, _, k fs hr, hrun, hended, v, locs, rfl, hQ, ⟨_, rfl⟩, hW, hsame.mono hc hs⟩
theorem Gl.retN (X : Stand p l e R s m args below meth c T locs cells slots) (hx : p.tables.exec = Jvm.exec) (hlk : meth.locks = false) {pc : Nat} {Ls : Array Slot} {z : Int32} {t : FieldType} {rest : List Value} (hret : meth.sig.returnType = some t) (ht : t = .boolean ∨ t = .byte ∨ t = .char ∨ t = .short)
    (hd : decode c.code pc = .ok (.ireturn, 1)) (hQ : Q (some (.int (nar t z))) T.heap locs) (hc : cells ≤ cs) (hs : slots ≤ sl) : Gl p e below s Q cs sl (T.setTop (mkF m pc Ls (.int z :: rest))) :=
  Gl.fin X (fun h => by rw [hret] at h; cases h) hlk hQ hc hs fun _ hr => Jvm.RoadKit.retN X hx hret ht hd hr
theorem Gl.retI (X : Stand p l e R s m args below meth c T locs cells slots) (hx : p.tables.exec = Jvm.exec) (hlk : meth.locks = false) {pc : Nat} {Ls : Array Slot} {z : Int32} {rest : List Value} (hret : meth.sig.returnType = some .int)
    (hd : decode c.code pc = .ok (.ireturn, 1)) (hQ : Q (some (.int z)) T.heap locs) (hc : cells ≤ cs) (hs : slots ≤ sl) : Gl p e below s Q cs sl (T.setTop (mkF m pc Ls (.int z :: rest))) :=
  Gl.fin X (fun h => by rw [hret] at h; cases h) hlk hQ hc hs fun _ hr => retOut X hx hret rfl (Or.inl ⟨rfl, Or.inl rfl, z, rfl⟩) hd hr
theorem Gl.retJ (X : Stand p l e R s m args below meth c T locs cells slots) (hx : p.tables.exec = Jvm.exec) (hlk : meth.locks = false) {pc : Nat} {Ls : Array Slot} {z : Int64} {rest : List Value} (hret : meth.sig.returnType = some .long)
    (hd : decode c.code pc = .ok (.lreturn, 1)) (hQ : Q (some (.long z)) T.heap locs) (hc : cells ≤ cs) (hs : slots ≤ sl) : Gl p e below s Q cs sl (T.setTop (mkF m pc Ls (.long z :: rest))) :=
  Gl.fin X (fun h => by rw [hret] at h; cases h) hlk hQ hc hs fun _ hr => retOut X hx hret rfl (Or.inr (Or.inl ⟨rfl, rfl, z, rfl⟩)) hd hr
theorem Gl.retV (X : Stand p l e R s m args below meth c T locs cells slots) (hx : p.tables.exec = Jvm.exec) (hlk : meth.locks = false) {pc : Nat} {Ls : Array Slot} (hret : meth.sig.returnType = none)
    (hd : decode c.code pc = .ok (.return_, 1)) (hQ : Q none T.heap locs) (hc : cells ≤ cs) (hs : slots ≤ sl) : Gl p e below s Q cs sl (T.setTop (mkF m pc Ls [])) :=
  Gl.fin X (fun _ => rfl) hlk hQ hc hs fun _ hr => X.returnOut hx hret hd hr
/-- .. where String constants may have been interned -/
def GlW (p : Program) (e : Env) (below : List Frame) (s : State) (Q : Option Value → Heap → List Loc → Prop) (cs sl : Nat) (T : State) : Prop :=
  ∃ s₂ o, Steps p.tables e below T s₂ ∧ s₂.status = .running ∧ Ended s₂ below o ∧ ∃ v L, o = .returned v ∧ Q v s₂.heap L ∧ ReturnedEndW s o s₂ L cs sl
theorem GlW.st (k : ∀ t, Steps p.tables e below T' t → Steps p.tables e below T t) (h : GlW p e below s Q cs sl T') : GlW p e below s Q cs sl T := by
  obtain ⟨a, o, h1, r⟩ := h
  exact ⟨a, o, k _ h1, r⟩
theorem GlW.to (k : Steps p.tables e below T T') (h : GlW p e below s Q cs sl T') : GlW p e below s Q cs sl T := GlW.st (fun _ q => k.trans q) h
theorem GlW.retN {vm₁ : Vm} (X : Stand p l e R (s.setVm vm₁) m args below meth c T locs cells slots) (hx : p.tables.exec = Jvm.exec) {n : Nat} (hS : s.Since vm₁ n) (hn : n ≤ T.heap.size) (hlk : meth.locks = false) {pc : Nat} {Ls : Array Slot} {z : Int32} {t : FieldType} {rest : List Value} (hret : meth.sig.returnType = some t) (ht : t = .boolean ∨ t = .byte ∨ t = .char ∨ t = .short)
    (hd : decode c.code pc = .ok (.ireturn, 1)) (hQ : Q (some (.int (nar t z))) T.heap locs) (hc : cells ≤ cs) (hs : slots ≤ sl) : GlW p e below s Q cs sl (T.setTop (mkF m pc Ls (.int z :: rest))) := by
  obtain ⟨fs, hr, hrun, hended, h1, h2, h3, h4⟩ := X.leaveW hS hn (v := some (.int (nar t z))) (fun h => by rw [hret] at h; cases h) hlk
  exact ⟨_, _, Jvm.RoadKit.retN X hx hret ht hd hr, hrun, hended, _, locs, rfl, hQ, h1, h2, h3, h4.mono hc hs⟩
theorem lc_t {x y : Int64} (h : x < y) : ifCond.holds .lt (lcmpW x y) = true ∧ ifCond.holds .ge (lcmpW x y) = false ∧ ifCond.holds .gt (lcmpW y x) = true ∧ ifCond.holds .le (lcmpW y x) = false :=
  have a := tlt ((lw_lt x y).mpr h)
  have b := tlt ((lw_gt y x).mpr h)
  ⟨(if0 _ _).trans a.1, (if0 _ _).trans a.2.1, (if0 _ _).trans b.2.2.1, (if0 _ _).trans b.2.2.2⟩
theorem lc_f {x y : Int64} (h : ¬ x < y) : ifCond.holds .lt (lcmpW x y) = false ∧ ifCond.holds .ge (lcmpW x y) = true ∧ ifCond.holds .gt (lcmpW y x) = false ∧ ifCond.holds .le (lcmpW y x) = true :=
  have a := flt (fun q => h ((lw_lt x y).mp q))
  have b := flt (fun q => h ((lw_gt y x).mp q))
  ⟨(if0 _ _).trans a.1, (if0 _ _).trans a.2.1, (if0 _ _).trans b.2.2.1, (if0 _ _).trans b.2.2.2⟩
theorem le_t {x y : Int64} (h : x = y) : ifCond.holds .eq (lcmpW x y) = true ∧ ifCond.holds .ne (lcmpW x y) = false :=
  have a := teq ((lw_eq x y).mpr h)
  ⟨(if0 _ _).trans a.1, (if0 _ _).trans a.2⟩
theorem le_f {x y : Int64} (h : ¬ x = y) : ifCond.holds .eq (lcmpW x y) = false ∧ ifCond.holds .ne (lcmpW x y) = true :=
  have a := feq (fun q => h ((lw_eq x y).mp q))
  ⟨(if0 _ _).trans a.1, (if0 _ _).trans a.2⟩
end New
end Jvm.RoadKit
namespace Jvm.Pilot.@@N@@
open Jvm Jvm.ClassFile Sem Op Lib Jvm.Free Jvm.Stand Jvm.LawKit Jvm.RoadKit Bundle Jvm.Pilot.@@N@@.Jvm.D
def own_min (q1 : Int64) (q2 : Int64) : Int64 := (if q2 < q1 then q2 else q1)
theorem d1_0 : decode jdk_29_method_70_code 0 = .ok (.lload_n 0, 1) := by decide +kernel
theorem d1_1 : decode jdk_29_method_70_code 1 = .ok (.lload_n 2, 1) := by decide +kernel
theorem d1_2 : decode jdk_29_method_70_code 2 = .ok (.lcmp, 1) := by decide +kernel
theorem d1_3 : decode jdk_29_method_70_code 3 = .ok (.ifCond .gt 7, 3) := by decide +kernel
theorem d1_6 : decode jdk_29_method_70_code 6 = .ok (.lload_n 0, 1) := by decide +kernel
theorem d1_7 : decode jdk_29_method_70_code 7 = .ok (.goto 4, 3) := by decide +kernel
theorem d1_10 : decode jdk_29_method_70_code 10 = .ok (.lload_n 2, 1) := by decide +kernel
theorem d1_11 : decode jdk_29_method_70_code 11 = .ok (.lreturn, 1) := by decide +kernel
theorem pf_0 : plainFor (⟨"java/lang/Math", "min", "(JJ)J"⟩ : MethodName) = true := by decide +kernel
def Q1 (Z : State) (q1 : Int64) (q2 : Int64) (h0 : Heap) (n0 : Nat) (v : Option Value) (h : Heap) (L : List Loc) : Prop := v = some (.long (own_min q1 q2)) ∧ Fr n0 L ∧ h = h0
theorem ef_1 (m : MethodId) (q1 : Int64) (q2 : Int64) : entryFrame m #[(.long q1), (.long q2)] 4 = mkF m 0 #[.val (.long q1), .second, .val (.long q2), .second] [] := by first | (simp [entryFrame, mkF, argsToLocals, Value.category]; done) | rfl
set_option maxRecDepth 65536 in
set_option maxHeartbeats 40000000 in
theorem rm1 (l : Launch) (Z : State) (a0 : Array Value) (hw : ∀ d ∈ tables_1, d.before a0 Z = true) (ws : List Jvm.Cond) (q1 : Int64) (q2 : Int64) (h0 : Heap) (n0 : Nat) :
    MetFree l (⟨"java/lang/Math", "min", "(JJ)J"⟩ : MethodName) (head1 (Jvm.Cond.code (⟨"java/lang/Math", "min", "(JJ)J"⟩ : MethodName) jdk_29_method_70_code 4 (some .long) :: ws) ({ frames := 0, cells := 0, slots := 0, locals := 0 } : Room)) (fun a U => a = #[(.long q1), (.long q2)] ∧ Z.Warmed39 U.vm ∧ U.heap = h0) (fun _ _ _ _ _ => True) (fun _ U o U' => ∃ v L, o = .returned v ∧ Q1 Z q1 q2 h0 n0 v U'.heap L ∧ FrameEnd U o U' L ({ frames := 0, cells := 0, slots := 0, locals := 0 } : Room).cells ({ frames := 0, cells := 0, slots := 0, locals := 0 } : Room).slots) := by
  refine MetFree.of_bodySF pf_0 hisR ?_
  intro p e s m args below meth c s₁ Bd hml0 hP hK
  obtain ⟨rfl, hZ, hh⟩ := hP
  have hx := Bd.exec
  have hby := Bd.bytes
  have hlk : meth.locks = false := BodyLoose.notSynchronized Bd
  have hml : c.maxLocals = 4 := hml0
  have hown : s.vm.findClass "java/lang/Math" = some m.cls := findClass_of_methodNamed Bd.named
  have hnm := (name_of_methodNamed Bd.named Bd.method).1
  have X0 : Stand p l e ({ frames := 0, cells := 0, slots := 0, locals := 0 } : Room) s m #[(.long q1), (.long q2)] below meth c s₁ [] 0 0 := Stand.of_body Bd
  have e0 : s₁.heap = h0 := by rw [← hh, Bd.state]; rfl
  have N0 := Fr.nil n0
  show Gl p e below s (Q1 Z q1 q2 h0 n0) ({ frames := 0, cells := 0, slots := 0, locals := 0 } : Room).cells ({ frames := 0, cells := 0, slots := 0, locals := 0 } : Room).slots (s₁.setTop (entryFrame m #[(.long q1), (.long q2)] 4))
  rw [ef_1]
  show Gl _ _ _ _ _ _ _ (s₁.setTop (mkF m 0 #[.val (.long q1), .second, .val (.long q2), .second] []))
  refine Gl.st (fun t k => XS.lloadN X0.here hx rfl (hb hby d1_0) rfl  k) ?_
  show Gl _ _ _ _ _ _ _ (s₁.setTop (mkF m 1 #[.val (.long q1), .second, .val (.long q2), .second] [(.long q1)]))
  refine Gl.st (fun t k => XS.lloadN X0.here hx rfl (hb hby d1_1) rfl  k) ?_
  show Gl _ _ _ _ _ _ _ (s₁.setTop (mkF m 2 #[.val (.long q1), .second, .val (.long q2), .second] [(.long q2), (.long q1)]))
  refine Gl.st (fun t k => XS.lcmp X0.here hx rfl (hb hby d1_2) rfl k) ?_
  show Gl _ _ _ _ _ _ _ (s₁.setTop (mkF m 3 #[.val (.long q1), .second, .val (.long q2), .second] [(.int (lcmpW q1 q2))]))
  by_cases hc3 : q2 < q1
  · refine Gl.st (fun t k => XS.ifYes X0.here hx rfl (pc0 := 3) (pc' := 10) rfl (hb hby d1_3) rfl (lc_t hc3).2.2.1 (by decide) (by decide) k) ?_
    show Gl _ _ _ _ _ _ _ (s₁.setTop (mkF m 10 #[.val (.long q1), .second, .val (.long q2), .second] []))
    refine Gl.st (fun t k => XS.lloadN X0.here hx rfl (hb hby d1_10) rfl  k) ?_
    show Gl _ _ _ _ _ _ _ (s₁.setTop (mkF m 11 #[.val (.long q1), .second, .val (.long q2), .second] [(.long q2)]))
    exact Gl.retJ X0 hx hlk Bd.returns (hb hby d1_11) (⟨congrArg (fun z => some (Value.long z)) (show q2 = own_min q1 q2 from by simp only [own_min, if_pos hc3]), N0, e0⟩) (by decide) (by decide)
  · refine Gl.st (fun t k => XS.ifNo X0.here hx rfl (hb hby d1_3) rfl (lc_f hc3).2.2.1 k) ?_
    show Gl _ _ _ _ _ _ _ (s₁.setTop (mkF m 6 #[.val (.long q1), .second, .val (.long q2), .second] []))
    refine Gl.st (fun t k => XS.lloadN X0.here hx rfl (hb hby d1_6) rfl  k) ?_
    show Gl _ _ _ _ _ _ _ (s₁.setTop (mkF m 7 #[.val (.long q1), .second, .val (.long q2), .second] [(.long q1)]))
    refine Gl.st (fun t k => XS.goto X0.here hx rfl (pc0 := 7) (pc' := 11) rfl (hb hby d1_7) (by decide) (by decide) k) ?_
    show Gl _ _ _ _ _ _ _ (s₁.setTop (mkF m 11 #[.val (.long q1), .second, .val (.long q2), .second] [(.long q1)]))
    exact Gl.retJ X0 hx hlk Bd.returns (hb hby d1_11) (⟨congrArg (fun z => some (Value.long z)) (show q1 = own_min q1 q2 from by simp only [own_min, if_neg hc3]), N0, e0⟩) (by decide) (by decide)
def own_max (q1 : Int64) (q2 : Int64) : Int64 := (if q1 < q2 then q2 else q1)
theorem d2_0 : decode jdk_29_method_66_code 0 = .ok (.lload_n 0, 1) := by decide +kernel
theorem d2_1 : decode jdk_29_method_66_code 1 = .ok (.lload_n 2, 1) := by decide +kernel
theorem d2_2 : decode jdk_29_method_66_code 2 = .ok (.lcmp, 1) := by decide +kernel
theorem d2_3 : decode jdk_29_method_66_code 3 = .ok (.ifCond .lt 7, 3) := by decide +kernel
theorem d2_6 : decode jdk_29_method_66_code 6 = .ok (.lload_n 0, 1) := by decide +kernel
theorem d2_7 : decode jdk_29_method_66_code 7 = .ok (.goto 4, 3) := by decide +kernel
theorem d2_10 : decode jdk_29_method_66_code 10 = .ok (.lload_n 2, 1) := by decide +kernel
theorem d2_11 : decode jdk_29_method_66_code 11 = .ok (.lreturn, 1) := by decide +kernel
theorem pf_1 : plainFor (⟨"java/lang/Math", "max", "(JJ)J"⟩ : MethodName) = true := by decide +kernel
def Q2 (Z : State) (q1 : Int64) (q2 : Int64) (h0 : Heap) (n0 : Nat) (v : Option Value) (h : Heap) (L : List Loc) : Prop := v = some (.long (own_max q1 q2)) ∧ Fr n0 L ∧ h = h0
theorem ef_2 (m : MethodId) (q1 : Int64) (q2 : Int64) : entryFrame m #[(.long q1), (.long q2)] 4 = mkF m 0 #[.val (.long q1), .second, .val (.long q2), .second] [] := by first | (simp [entryFrame, mkF, argsToLocals, Value.category]; done) | rfl
set_option maxRecDepth 65536 in
set_option maxHeartbeats 40000000 in
theorem rm2 (l : Launch) (Z : State) (a0 : Array Value) (hw : ∀ d ∈ tables_1, d.before a0 Z = true) (ws : List Jvm.Cond) (q1 : Int64) (q2 : Int64) (h0 : Heap) (n0 : Nat) :
    MetFree l (⟨"java/lang/Math", "max", "(JJ)J"⟩ : MethodName) (head1 (Jvm.Cond.code (⟨"java/lang/Math", "max", "(JJ)J"⟩ : MethodName) jdk_29_method_66_code 4 (some .long) :: ws) ({ frames := 0, cells := 0, slots := 0, locals := 0 } : Room)) (fun a U => a = #[(.long q1), (.long q2)] ∧ Z.Warmed39 U.vm ∧ U.heap = h0) (fun _ _ _ _ _ => True) (fun _ U o U' => ∃ v L, o = .returned v ∧ Q2 Z q1 q2 h0 n0 v U'.heap L ∧ FrameEnd U o U' L ({ frames := 0, cells := 0, slots := 0, locals := 0 } : Room).cells ({ frames := 0, cells := 0, slots := 0, locals := 0 } : Room).slots) := by
  refine MetFree.of_bodySF pf_1 hisR ?_
  intro p e s m args below meth c s₁ Bd hml0 hP hK
  obtain ⟨rfl, hZ, hh⟩ := hP
  have hx := Bd.exec
  have hby := Bd.bytes
  have hlk : meth.locks = false := BodyLoose.notSynchronized Bd
  have hml : c.maxLocals = 4 := hml0
  have hown : s.vm.findClass "java/lang/Math" = some m.cls := findClass_of_methodNamed Bd.named
  have hnm := (name_of_methodNamed Bd.named Bd.method).1
  have X0 : Stand p l e ({ frames := 0, cells := 0, slots := 0, locals := 0 } : Room) s m #[(.long q1), (.long q2)] below meth c s₁ [] 0 0 := Stand.of_body Bd
  have e0 : s₁.heap = h0 := by rw [← hh, Bd.state]; rfl
  have N0 := Fr.nil n0
  show Gl p e below s (Q2 Z q1 q2 h0 n0) ({ frames := 0, cells := 0, slots := 0, locals := 0 } : Room).cells ({ frames := 0, cells := 0, slots := 0, locals := 0 } : Room).slots (s₁.setTop (entryFrame m #[(.long q1), (.long q2)] 4))
  rw [ef_2]
  show Gl _ _ _ _ _ _ _ (s₁.setTop (mkF m 0 #[.val (.long q1), .second, .val (.long q2), .second] []))
  refine Gl.st (fun t k => XS.lloadN X0.here hx rfl (hb hby d2_0) rfl  k) ?_
  show Gl _ _ _ _ _ _ _ (s₁.setTop (mkF m 1 #[.val (.long q1), .second, .val (.long q2), .second] [(.long q1)]))
  refine Gl.st (fun t k => XS.lloadN X0.here hx rfl (hb hby d2_1) rfl  k) ?_
  show Gl _ _ _ _ _ _ _ (s₁.setTop (mkF m 2 #[.val (.long q1), .second, .val (.long q2), .second] [(.long q2), (.long q1)]))
  refine Gl.st (fun t k => XS.lcmp X0.here hx rfl (hb hby d2_2) rfl k) ?_
  show Gl _ _ _ _ _ _ _ (s₁.setTop (mkF m 3 #[.val (.long q1), .second, .val (.long q2), .second] [(.int (lcmpW q1 q2))]))
  by_cases hc3 : q1 < q2
  · refine Gl.st (fun t k => XS.ifYes X0.here hx rfl (pc0 := 3) (pc' := 10) rfl (hb hby d2_3) rfl (lc_t hc3).1 (by decide) (by decide) k) ?_
    show Gl _ _ _ _ _ _ _ (s₁.setTop (mkF m 10 #[.val (.long q1), .second, .val (.long q2), .second] []))
    refine Gl.st (fun t k => XS.lloadN X0.here hx rfl (hb hby d2_10) rfl  k) ?_
    show Gl _ _ _ _ _ _ _ (s₁.setTop (mkF m 11 #[.val (.long q1), .second, .val (.long q2), .second] [(.long q2)]))
    exact Gl.retJ X0 hx hlk Bd.returns (hb hby d2_11) (⟨congrArg (fun z => some (Value.long z)) (show q2 = own_max q1 q2 from by simp only [own_max, if_pos hc3]), N0, e0⟩) (by decide) (by decide)
  · refine Gl.st (fun t k => XS.ifNo X0.here hx rfl (hb hby d2_3) rfl (lc_f hc3).1 k) ?_
    show Gl _ _ _ _ _ _ _ (s₁.setTop (mkF m 6 #[.val (.long q1), .second, .val (.long q2), .second] []))
    refine Gl.st (fun t k => XS.lloadN X0.here hx rfl (hb hby d2_6) rfl  k) ?_
    show Gl _ _ _ _ _ _ _ (s₁.setTop (mkF m 7 #[.val (.long q1), .second, .val (.long q2), .second] [(.long q1)]))
    refine Gl.st (fun t k => XS.goto X0.here hx rfl (pc0 := 7) (pc' := 11) rfl (hb hby d2_7) (by decide) (by decide) k) ?_
    show Gl _ _ _ _ _ _ _ (s₁.setTop (mkF m 11 #[.val (.long q1), .second, .val (.long q2), .second] [(.long q1)]))
    exact Gl.retJ X0 hx hlk Bd.returns (hb hby d2_11) (⟨congrArg (fun z => some (Value.long z)) (show q1 = own_max q1 q2 from by simp only [own_max, if_neg hc3]), N0, e0⟩) (by decide) (by decide)
theorem d4_0 : decode jdk_30_method_1_code 0 = .ok (.aload_n 0, 1) := by decide +kernel
theorem d4_1 : decode jdk_30_method_1_code 1 = .ok (.invokespecial 1, 3) := by decide +kernel
theorem d4_4 : decode jdk_30_method_1_code 4 = .ok (.return_, 1) := by decide +kernel
theorem pf_2 : plainFor (⟨"java/lang/Record", "<init>", "()V"⟩ : MethodName) = true := by decide +kernel
def Q4 (Z : State) (a1 : Addr) (h0 : Heap) (n0 : Nat) (v : Option Value) (h : Heap) (L : List Loc) : Prop := v = none ∧ Fr n0 L ∧ h = h0
theorem ef_4 (m : MethodId) (a1 : Addr) : entryFrame m #[(.ref a1)] 1 = mkF m 0 #[.val (.ref a1)] [] := by first | (simp [entryFrame, mkF, argsToLocals, Value.category]; done) | rfl
set_option maxRecDepth 65536 in
set_option maxHeartbeats 40000000 in
theorem rm4 (l : Launch) (Z : State) (a0 : Array Value) (hw : ∀ d ∈ tables_1, d.before a0 Z = true) (ws : List Jvm.Cond) (a1 : Addr) (h0 : Heap) (n0 : Nat) :
    MetFree l (⟨"java/lang/Record", "<init>", "()V"⟩ : MethodName) (head1 (Jvm.Cond.code (⟨"java/lang/Record", "<init>", "()V"⟩ : MethodName) jdk_30_method_1_code 1 none :: ws) ({ frames := 1, cells := 0, slots := 0, locals := 12 } : Room)) (fun a U => a = #[(.ref a1)] ∧ Z.Warmed39 U.vm ∧ U.heap = h0) (fun _ _ _ _ _ => True) (fun _ U o U' => ∃ v L, o = .returned v ∧ Q4 Z a1 h0 n0 v U'.heap L ∧ FrameEnd U o U' L ({ frames := 1, cells := 0, slots := 0, locals := 12 } : Room).cells ({ frames := 1, cells := 0, slots := 0, locals := 12 } : Room).slots) := by
  refine MetFree.of_bodySF pf_2 hisR ?_
  intro p e s m args below meth c s₁ Bd hml0 hP hK
  obtain ⟨rfl, hZ, hh⟩ := hP
  have hx := Bd.exec
  have hby := Bd.bytes
  have hlk : meth.locks = false := BodyLoose.notSynchronized Bd
  have hml : c.maxLocals = 1 := hml0
  have hown : s.vm.findClass "java/lang/Record" = some m.cls := findClass_of_methodNamed Bd.named
  have hnm := (name_of_methodNamed Bd.named Bd.method).1
  have X0 : Stand p l e ({ frames := 1, cells := 0, slots := 0, locals := 12 } : Room) s m #[(.ref a1)] below meth c s₁ [] 0 0 := Stand.of_body Bd
  have e0 : s₁.heap = h0 := by rw [← hh, Bd.state]; rfl
  have N0 := Fr.nil n0
  show Gl p e below s (Q4 Z a1 h0 n0) ({ frames := 1, cells := 0, slots := 0, locals := 12 } : Room).cells ({ frames := 1, cells := 0, slots := 0, locals := 12 } : Room).slots (s₁.setTop (entryFrame m #[(.ref a1)] 1))
  rw [ef_4]
  show Gl _ _ _ _ _ _ _ (s₁.setTop (mkF m 0 #[.val (.ref a1)] []))
  refine Gl.st (fun t k => XS.aloadN X0.here hx rfl (hb hby d4_0) rfl rfl k) ?_
  show Gl _ _ _ _ _ _ _ (s₁.setTop (mkF m 1 #[.val (.ref a1)] [(.ref a1)]))
  obtain ⟨T1, X1, e1, st1⟩ := initO X0 hx hZ hown (hw _ (List.mem_of_getElem? (i := 18) rfl)) (hw _ (List.mem_of_getElem? (i := 19) rfl)) (hw _ (List.mem_of_getElem? (i := 20) rfl)) e0 (g := (mkF m 1 #[.val (.ref a1)] [(.ref a1)])) rfl (by rw [hml]; rfl) rfl (hb hby d4_1) (by decide) (W := 0) (by show 2 * 0 + _ ≤ _; exact Nat.le_of_eq rfl) (by decide)
  refine Gl.st st1 ?_
  show Gl _ _ _ _ _ _ _ (T1.setTop (mkF m 4 #[.val (.ref a1)] []))
  exact Gl.retV X1 hx hlk Bd.returns (hb hby d4_4) (⟨rfl, N0, e1⟩) (by decide) (by decide)
theorem pd_0 : parseMethodDescriptor "()V" = some ⟨[], none⟩ := by decide +kernel
theorem d3_0 : decode prog_16_method_1_code 0 = .ok (.aload_n 0, 1) := by decide +kernel
theorem d3_1 : decode prog_16_method_1_code 1 = .ok (.invokespecial 3, 3) := by decide +kernel
theorem d3_4 : decode prog_16_method_1_code 4 = .ok (.aload_n 0, 1) := by decide +kernel
theorem d3_5 : decode prog_16_method_1_code 5 = .ok (.lload_n 1, 1) := by decide +kernel
theorem d3_6 : decode prog_16_method_1_code 6 = .ok (.putfield 9, 3) := by decide +kernel
theorem d3_9 : decode prog_16_method_1_code 9 = .ok (.aload_n 0, 1) := by decide +kernel
theorem d3_10 : decode prog_16_method_1_code 10 = .ok (.lload_n 3, 1) := by decide +kernel
theorem d3_11 : decode prog_16_method_1_code 11 = .ok (.putfield 15, 3) := by decide +kernel
theorem d3_14 : decode prog_16_method_1_code 14 = .ok (.return_, 1) := by decide +kernel
theorem pf_3 : plainFor (⟨"com/example/meisai/meisai/Period", "<init>", "(JJ)V"⟩ : MethodName) = true := by decide +kernel
def Q3 (Z : State) (a1 : Addr) (q2 : Int64) (q3 : Int64) (u_start : Value) (u_end : Value) (h0 : Heap) (n0 : Nat) (v : Option Value) (h : Heap) (L : List Loc) : Prop := v = none ∧ Fr n0 L ∧ Keep h0 h [a1] ∧ Exa Z h a1 "com/example/meisai/meisai/Period" ∧ Fld Z h a1 "com/example/meisai/meisai/Period" "start" "J" (.long q2) ∧ Fld Z h a1 "com/example/meisai/meisai/Period" "end" "J" (.long q3)
theorem ef_3 (m : MethodId) (a1 : Addr) (q2 : Int64) (q3 : Int64) : entryFrame m #[(.ref a1), (.long q2), (.long q3)] 5 = mkF m 0 #[.val (.ref a1), .val (.long q2), .second, .val (.long q3), .second] [] := by first | (simp [entryFrame, mkF, argsToLocals, Value.category]; done) | rfl
set_option maxRecDepth 65536 in
set_option maxHeartbeats 40000000 in
theorem rm3 (l : Launch) (Z : State) (a0 : Array Value) (hw : ∀ d ∈ tables_1, d.before a0 Z = true) (ws : List Jvm.Cond) (a1 : Addr) (q2 : Int64) (q3 : Int64) (u_start : Value) (u_end : Value) (h0 : Heap) (n0 : Nat) (Z0 : n0 ≤ h0.size) (E_a1 : Exa Z h0 a1 "com/example/meisai/meisai/Period") (F_start : Fld Z h0 a1 "com/example/meisai/meisai/Period" "start" "J" u_start) (F_end : Fld Z h0 a1 "com/example/meisai/meisai/Period" "end" "J" u_end) (g_a1 : n0 ≤ a1) :
    MetFree l (⟨"com/example/meisai/meisai/Period", "<init>", "(JJ)V"⟩ : MethodName) (head1 (Jvm.Cond.code (⟨"com/example/meisai/meisai/Period", "<init>", "(JJ)V"⟩ : MethodName) prog_16_method_1_code 5 none :: ws) ({ frames := 2, cells := 0, slots := 0, locals := 24 } : Room)) (fun a U => a = #[(.ref a1), (.long q2), (.long q3)] ∧ Z.Warmed39 U.vm ∧ U.heap = h0) (fun _ _ _ _ _ => True) (fun _ U o U' => ∃ v L, o = .returned v ∧ Q3 Z a1 q2 q3 u_start u_end h0 n0 v U'.heap L ∧ FrameEnd U o U' L ({ frames := 2, cells := 0, slots := 0, locals := 24 } : Room).cells ({ frames := 2, cells := 0, slots := 0, locals := 24 } : Room).slots) := by
  refine MetFree.of_bodySF pf_3 hisR ?_
  intro p e s m args below meth c s₁ Bd hml0 hP hK
  obtain ⟨rfl, hZ, hh⟩ := hP
  have hx := Bd.exec
  have hby := Bd.bytes
  have hlk : meth.locks = false := BodyLoose.notSynchronized Bd
  have hml : c.maxLocals = 5 := hml0
  have hown : s.vm.findClass "com/example/meisai/meisai/Period" = some m.cls := findClass_of_methodNamed Bd.named
  have hnm := (name_of_methodNamed Bd.named Bd.method).1
  have X0 : Stand p l e ({ frames := 2, cells := 0, slots := 0, locals := 24 } : Room) s m #[(.ref a1), (.long q2), (.long q3)] below meth c s₁ [] 0 0 := Stand.of_body Bd
  have e0 : s₁.heap = h0 := by rw [← hh, Bd.state]; rfl
  have N0 := Fr.nil n0
  have K0 : Keep h0 h0 [a1] := Keep.refl h0 _
  show Gl p e below s (Q3 Z a1 q2 q3 u_start u_end h0 n0) ({ frames := 2, cells := 0, slots := 0, locals := 24 } : Room).cells ({ frames := 2, cells := 0, slots := 0, locals := 24 } : Room).slots (s₁.setTop (entryFrame m #[(.ref a1), (.long q2), (.long q3)] 5))
  rw [ef_3]
  show Gl _ _ _ _ _ _ _ (s₁.setTop (mkF m 0 #[.val (.ref a1), .val (.long q2), .second, .val (.long q3), .second] []))
  refine Gl.st (fun t k => XS.aloadN X0.here hx rfl (hb hby d3_0) rfl rfl k) ?_
  show Gl _ _ _ _ _ _ _ (s₁.setTop (mkF m 1 #[.val (.ref a1), .val (.long q2), .second, .val (.long q3), .second] [(.ref a1)]))
  obtain ⟨_, _, ⟨T1, L1, k1, n1⟩, -, X1, ⟨Lc1, hQ1, l1, y1, z1⟩, st1⟩ := X0.specialBack hx (y := (⟨"java/lang/Record", "<init>", "()V"⟩ : MethodName)) rfl hown (mvT hZ (hw _ (List.mem_of_getElem? (i := 13) rfl))) (mvT hZ (hw _ (List.mem_of_getElem? (i := 14) rfl))) (mvT hZ (hw _ (List.mem_of_getElem? (i := 17) rfl))) (by decide) (backOf (W := 0) (rm4 l Z a0 hw [] a1 h0 n0  ) hZ (hw _ (List.mem_of_getElem? (i := 17) rfl)) (hw _ (List.mem_of_getElem? (i := 16) rfl)) (by decide) (by decide)) (g := (mkF m 1 #[.val (.ref a1), .val (.long q2), .second, .val (.long q3), .second] [(.ref a1)])) rfl (by rw [hml]; rfl) (Steps.refl _) (a := a1) (argsL := []) (rest := []) (lenOf pd_0 rfl) rfl (by show 2 * 0 + _ ≤ _; exact Nat.le_of_eq rfl) (hb hby d3_1) (fun _ _ => ⟨rfl, e0, (by decide : 0 + 0 ≤ _), (by decide : 0 + 0 ≤ _)⟩)
  dsimp only [Pt.U, Pt.locs, Pt.cells, Pt.slots] at X1 l1 y1 z1 st1 hQ1
  subst l1 y1 z1
  obtain ⟨rfl, N1q, e1⟩ := hQ1
  have N1 := Fr.app N0 N1q
  refine Gl.to st1 ?_
  show Gl _ _ _ _ _ _ _ (T1.setTop (mkF m 4 #[.val (.ref a1), .val (.long q2), .second, .val (.long q3), .second] []))
  refine Gl.st (fun t k => XS.aloadN X1.here hx rfl (hb hby d3_4) rfl rfl k) ?_
  show Gl _ _ _ _ _ _ _ (T1.setTop (mkF m 5 #[.val (.ref a1), .val (.long q2), .second, .val (.long q3), .second] [(.ref a1)]))
  refine Gl.st (fun t k => XS.lloadN X1.here hx rfl (hb hby d3_5) rfl  k) ?_
  show Gl _ _ _ _ _ _ _ (T1.setTop (mkF m 6 #[.val (.ref a1), .val (.long q2), .second, .val (.long q3), .second] [(.long q2), (.ref a1)]))
  obtain ⟨T2, h2, X2, e2, W2, st2⟩ := putF X1 hx hZ hown (host := "") (Or.inl (hw _ (List.mem_of_getElem? (i := 21) rfl))) Via.refl e1 F_start E_a1 (Or.inr ⟨(hw _ (List.mem_of_getElem? (i := 22) rfl)), rfl, hnm⟩) (hw _ (List.mem_of_getElem? (i := 8) rfl)) (ty := .long) (by decide) rfl rfl (g := (mkF m 6 #[.val (.ref a1), .val (.long q2), .second, .val (.long q3), .second] [(.long q2), (.ref a1)])) rfl rfl (hb hby d3_6)
  refine Gl.st st2 ?_
  have Z2 : n0 ≤ h2.size := Nat.le_trans Z0 (Keep.of_wr W2).1
  have N2 := Fr.snoc X2 N1 g_a1
  have K2 : Keep h0 h2 [a1] := K0.wr W2 (Or.inl (List.mem_of_getElem? (i := 0) rfl))
  have E_a1'3 : Exa Z h2 a1 "com/example/meisai/meisai/Period" := E_a1.wr W2
  have F_end'4 : Fld Z h2 a1 "com/example/meisai/meisai/Period" "end" "J" u_end := F_end.other W2 (Or.inr (slot_ne (Or.inr (hw _ (List.mem_of_getElem? (i := 24) rfl))) (Or.inr (hw _ (List.mem_of_getElem? (i := 22) rfl))) (by decide) (t := .long) (t' := .long) (by decide) (by decide)))
  have Fw2 : Fld Z h2 a1 "com/example/meisai/meisai/Period" "start" "J" (.long q2) := F_start.same W2
  show Gl _ _ _ _ _ _ _ (T2.setTop (mkF m 9 #[.val (.ref a1), .val (.long q2), .second, .val (.long q3), .second] []))
  refine Gl.st (fun t k => XS.aloadN X2.here hx rfl (hb hby d3_9) rfl rfl k) ?_
  show Gl _ _ _ _ _ _ _ (T2.setTop (mkF m 10 #[.val (.ref a1), .val (.long q2), .second, .val (.long q3), .second] [(.ref a1)]))
  refine Gl.st (fun t k => XS.lloadN X2.here hx rfl (hb hby d3_10) rfl  k) ?_
  show Gl _ _ _ _ _ _ _ (T2.setTop (mkF m 11 #[.val (.ref a1), .val (.long q2), .second, .val (.long q3), .second] [(.long q3), (.ref a1)]))
  obtain ⟨T5, h5, X5, e5, W5, st5⟩ := putF X2 hx hZ hown (host := "") (Or.inl (hw _ (List.mem_of_getElem? (i := 23) rfl))) Via.refl e2 F_end'4 E_a1'3 (Or.inr ⟨(hw _ (List.mem_of_getElem? (i := 24) rfl)), rfl, hnm⟩) (hw _ (List.mem_of_getElem? (i := 8) rfl)) (ty := .long) (by decide) rfl rfl (g := (mkF m 11 #[.val (.ref a1), .val (.long q2), .second, .val (.long q3), .second] [(.long q3), (.ref a1)])) rfl rfl (hb hby d3_11)
  refine Gl.st st5 ?_
  have Z5 : n0 ≤ h5.size := Nat.le_trans Z2 (Keep.of_wr W5).1
  have N5 := Fr.snoc X5 N2 g_a1
  have K5 : Keep h0 h5 [a1] := K2.wr W5 (Or.inl (List.mem_of_getElem? (i := 0) rfl))
  have E_a1'6 : Exa Z h5 a1 "com/example/meisai/meisai/Period" := E_a1'3.wr W5
  have Fw2'7 : Fld Z h5 a1 "com/example/meisai/meisai/Period" "start" "J" (.long q2) := Fw2.other W5 (Or.inr (slot_ne (Or.inr (hw _ (List.mem_of_getElem? (i := 22) rfl))) (Or.inr (hw _ (List.mem_of_getElem? (i := 24) rfl))) (by decide) (t := .long) (t' := .long) (by decide) (by decide)))
  have Fw5 : Fld Z h5 a1 "com/example/meisai/meisai/Period" "end" "J" (.long q3) := F_end'4.same W5
  show Gl _ _ _ _ _ _ _ (T5.setTop (mkF m 14 #[.val (.ref a1), .val (.long q2), .second, .val (.long q3), .second] []))
  exact Gl.retV X5 hx hlk Bd.returns (hb hby d3_14) (by
        rw [e5]
        exact ⟨rfl, N5, K5, E_a1'6, Fw2'7, Fw5⟩) (by decide) (by decide)
def own_holds (q2 : Int64) (w0 : Int64) (w1 : Int64) : Int32 := (if q2 < w0 then (nar .boolean (0 : Int32)) else (if q2 < w1 then (nar .boolean (1 : Int32)) else (nar .boolean (0 : Int32))))
theorem d6_0 : decode prog_16_method_3_code 0 = .ok (.lload_n 1, 1) := by decide +kernel
theorem d6_1 : decode prog_16_method_3_code 1 = .ok (.aload_n 0, 1) := by decide +kernel
theorem d6_2 : decode prog_16_method_3_code 2 = .ok (.getfield 9, 3) := by decide +kernel
theorem d6_5 : decode prog_16_method_3_code 5 = .ok (.lcmp, 1) := by decide +kernel
theorem d6_6 : decode prog_16_method_3_code 6 = .ok (.ifCond .lt 16, 3) := by decide +kernel
theorem d6_9 : decode prog_16_method_3_code 9 = .ok (.lload_n 1, 1) := by decide +kernel
theorem d6_10 : decode prog_16_method_3_code 10 = .ok (.aload_n 0, 1) := by decide +kernel
theorem d6_11 : decode prog_16_method_3_code 11 = .ok (.getfield 15, 3) := by decide +kernel
theorem d6_14 : decode prog_16_method_3_code 14 = .ok (.lcmp, 1) := by decide +kernel
theorem d6_15 : decode prog_16_method_3_code 15 = .ok (.ifCond .ge 7, 3) := by decide +kernel
theorem d6_18 : decode prog_16_method_3_code 18 = .ok (.iconst 1, 1) := by decide +kernel
theorem d6_19 : decode prog_16_method_3_code 19 = .ok (.goto 4, 3) := by decide +kernel
theorem d6_22 : decode prog_16_method_3_code 22 = .ok (.iconst 0, 1) := by decide +kernel
theorem d6_23 : decode prog_16_method_3_code 23 = .ok (.ireturn, 1) := by decide +kernel
theorem pf_4 : plainFor (⟨"com/example/meisai/meisai/Period", "holds", "(J)Z"⟩ : MethodName) = true := by decide +kernel
def Q6 (Z : State) (a1 : Addr) (q2 : Int64) (w0 : Int64) (w1 : Int64) (h0 : Heap) (n0 : Nat) (v : Option Value) (h : Heap) (L : List Loc) : Prop := v = some (.int (own_holds q2 w0 w1)) ∧ Fr n0 L ∧ h = h0
theorem ef_6 (m : MethodId) (a1 : Addr) (q2 : Int64) : entryFrame m #[(.ref a1), (.long q2)] 3 = mkF m 0 #[.val (.ref a1), .val (.long q2), .second] [] := by first | (simp [entryFrame, mkF, argsToLocals, Value.category]; done) | rfl
set_option maxRecDepth 65536 in
set_option maxHeartbeats 40000000 in
theorem rm6 (l : Launch) (Z : State) (a0 : Array Value) (hw : ∀ d ∈ tables_1, d.before a0 Z = true) (ws : List Jvm.Cond) (a1 : Addr) (q2 : Int64) (w0 : Int64) (w1 : Int64) (h0 : Heap) (n0 : Nat) (Fs : Fld Z h0 a1 "com/example/meisai/meisai/Period" "start" "J" (.long w0)) (Fe : Fld Z h0 a1 "com/example/meisai/meisai/Period" "end" "J" (.long w1)) :
    MetFree l (⟨"com/example/meisai/meisai/Period", "holds", "(J)Z"⟩ : MethodName) (head1 (Jvm.Cond.code (⟨"com/example/meisai/meisai/Period", "holds", "(J)Z"⟩ : MethodName) prog_16_method_3_code 3 (some .boolean) :: ws) ({ frames := 0, cells := 0, slots := 0, locals := 0 } : Room)) (fun a U => a = #[(.ref a1), (.long q2)] ∧ Z.Warmed39 U.vm ∧ U.heap = h0) (fun _ _ _ _ _ => True) (fun _ U o U' => ∃ v L, o = .returned v ∧ Q6 Z a1 q2 w0 w1 h0 n0 v U'.heap L ∧ FrameEnd U o U' L ({ frames := 0, cells := 0, slots := 0, locals := 0 } : Room).cells ({ frames := 0, cells := 0, slots := 0, locals := 0 } : Room).slots) := by
  refine MetFree.of_bodySF pf_4 hisR ?_
  intro p e s m args below meth c s₁ Bd hml0 hP hK
  obtain ⟨rfl, hZ, hh⟩ := hP
  have hx := Bd.exec
  have hby := Bd.bytes
  have hlk : meth.locks = false := BodyLoose.notSynchronized Bd
  have hml : c.maxLocals = 3 := hml0
  have hown : s.vm.findClass "com/example/meisai/meisai/Period" = some m.cls := findClass_of_methodNamed Bd.named
  have hnm := (name_of_methodNamed Bd.named Bd.method).1
  have X0 : Stand p l e ({ frames := 0, cells := 0, slots := 0, locals := 0 } : Room) s m #[(.ref a1), (.long q2)] below meth c s₁ [] 0 0 := Stand.of_body Bd
  have e0 : s₁.heap = h0 := by rw [← hh, Bd.state]; rfl
  have N0 := Fr.nil n0
  show Gl p e below s (Q6 Z a1 q2 w0 w1 h0 n0) ({ frames := 0, cells := 0, slots := 0, locals := 0 } : Room).cells ({ frames := 0, cells := 0, slots := 0, locals := 0 } : Room).slots (s₁.setTop (entryFrame m #[(.ref a1), (.long q2)] 3))
  rw [ef_6]
  show Gl _ _ _ _ _ _ _ (s₁.setTop (mkF m 0 #[.val (.ref a1), .val (.long q2), .second] []))
  refine Gl.st (fun t k => XS.lloadN X0.here hx rfl (hb hby d6_0) rfl  k) ?_
  show Gl _ _ _ _ _ _ _ (s₁.setTop (mkF m 1 #[.val (.ref a1), .val (.long q2), .second] [(.long q2)]))
  refine Gl.st (fun t k => XS.aloadN X0.here hx rfl (hb hby d6_1) rfl rfl k) ?_
  show Gl _ _ _ _ _ _ _ (s₁.setTop (mkF m 2 #[.val (.ref a1), .val (.long q2), .second] [(.ref a1), (.long q2)]))
  obtain ⟨T1, X1, e1, st1⟩ := getF X0 hx hZ hown (host := "") (Or.inl (hw _ (List.mem_of_getElem? (i := 21) rfl))) Via.refl e0 Fs (g := (mkF m 2 #[.val (.ref a1), .val (.long q2), .second] [(.ref a1), (.long q2)])) rfl rfl (hb hby d6_2)
  refine Gl.st st1 ?_
  show Gl _ _ _ _ _ _ _ (T1.setTop (mkF m 5 #[.val (.ref a1), .val (.long q2), .second] [(.long w0), (.long q2)]))
  refine Gl.st (fun t k => XS.lcmp X1.here hx rfl (hb hby d6_5) rfl k) ?_
  show Gl _ _ _ _ _ _ _ (T1.setTop (mkF m 6 #[.val (.ref a1), .val (.long q2), .second] [(.int (lcmpW q2 w0))]))
  by_cases hc6 : q2 < w0
  · refine Gl.st (fun t k => XS.ifYes X1.here hx rfl (pc0 := 6) (pc' := 22) rfl (hb hby d6_6) rfl (lc_t hc6).1 (by decide) (by decide) k) ?_
    show Gl _ _ _ _ _ _ _ (T1.setTop (mkF m 22 #[.val (.ref a1), .val (.long q2), .second] []))
    refine Gl.st (fun t k => XS.iconst X1.here hx rfl (hb hby d6_22) k) ?_
    show Gl _ _ _ _ _ _ _ (T1.setTop (mkF m 23 #[.val (.ref a1), .val (.long q2), .second] [(.int (0 : Int32))]))
    exact Gl.retN X1 hx hlk Bd.returns (by simp) (hb hby d6_23) (⟨congrArg (fun z => some (Value.int z)) (show (nar .boolean (0 : Int32)) = (own_holds q2 w0 w1) from by simp only [own_holds, if_pos hc6]), N0, e1⟩) (by decide) (by decide)
  · refine Gl.st (fun t k => XS.ifNo X1.here hx rfl (hb hby d6_6) rfl (lc_f hc6).1 k) ?_
    show Gl _ _ _ _ _ _ _ (T1.setTop (mkF m 9 #[.val (.ref a1), .val (.long q2), .second] []))
    refine Gl.st (fun t k => XS.lloadN X1.here hx rfl (hb hby d6_9) rfl  k) ?_
    show Gl _ _ _ _ _ _ _ (T1.setTop (mkF m 10 #[.val (.ref a1), .val (.long q2), .second] [(.long q2)]))
    refine Gl.st (fun t k => XS.aloadN X1.here hx rfl (hb hby d6_10) rfl rfl k) ?_
    show Gl _ _ _ _ _ _ _ (T1.setTop (mkF m 11 #[.val (.ref a1), .val (.long q2), .second] [(.ref a1), (.long q2)]))
    obtain ⟨T2, X2, e2, st2⟩ := getF X1 hx hZ hown (host := "") (Or.inl (hw _ (List.mem_of_getElem? (i := 23) rfl))) Via.refl e1 Fe (g := (mkF m 11 #[.val (.ref a1), .val (.long q2), .second] [(.ref a1), (.long q2)])) rfl rfl (hb hby d6_11)
    refine Gl.st st2 ?_
    show Gl _ _ _ _ _ _ _ (T2.setTop (mkF m 14 #[.val (.ref a1), .val (.long q2), .second] [(.long w1), (.long q2)]))
    refine Gl.st (fun t k => XS.lcmp X2.here hx rfl (hb hby d6_14) rfl k) ?_
    show Gl _ _ _ _ _ _ _ (T2.setTop (mkF m 15 #[.val (.ref a1), .val (.long q2), .second] [(.int (lcmpW q2 w1))]))
    by_cases hc15 : q2 < w1
    · refine Gl.st (fun t k => XS.ifNo X2.here hx rfl (hb hby d6_15) rfl (lc_t hc15).2.1 k) ?_
      show Gl _ _ _ _ _ _ _ (T2.setTop (mkF m 18 #[.val (.ref a1), .val (.long q2), .second] []))
      refine Gl.st (fun t k => XS.iconst X2.here hx rfl (hb hby d6_18) k) ?_
      show Gl _ _ _ _ _ _ _ (T2.setTop (mkF m 19 #[.val (.ref a1), .val (.long q2), .second] [(.int (1 : Int32))]))
      refine Gl.st (fun t k => XS.goto X2.here hx rfl (pc0 := 19) (pc' := 23) rfl (hb hby d6_19) (by decide) (by decide) k) ?_
      show Gl _ _ _ _ _ _ _ (T2.setTop (mkF m 23 #[.val (.ref a1), .val (.long q2), .second] [(.int (1 : Int32))]))
      exact Gl.retN X2 hx hlk Bd.returns (by simp) (hb hby d6_23) (⟨congrArg (fun z => some (Value.int z)) (show (nar .boolean (1 : Int32)) = (own_holds q2 w0 w1) from by simp only [own_holds, if_neg hc6, if_pos hc15]), N0, e2⟩) (by decide) (by decide)
    · refine Gl.st (fun t k => XS.ifYes X2.here hx rfl (pc0 := 15) (pc' := 22) rfl (hb hby d6_15) rfl (lc_f hc15).2.1 (by decide) (by decide) k) ?_
      show Gl _ _ _ _ _ _ _ (T2.setTop (mkF m 22 #[.val (.ref a1), .val (.long q2), .second] []))
      refine Gl.st (fun t k => XS.iconst X2.here hx rfl (hb hby d6_22) k) ?_
      show Gl _ _ _ _ _ _ _ (T2.setTop (mkF m 23 #[.val (.ref a1), .val (.long q2), .second] [(.int (0 : Int32))]))
      exact Gl.retN X2 hx hlk Bd.returns (by simp) (hb hby d6_23) (⟨congrArg (fun z => some (Value.int z)) (show (nar .boolean (0 : Int32)) = (own_holds q2 w0 w1) from by simp only [own_holds, if_neg hc6, if_neg hc15]), N0, e2⟩) (by decide) (by decide)
theorem own_min_i (a b : Int64) : (own_min a b).toInt = min a.toInt b.toInt := by
  unfold own_min
  split
  all_goals (rename_i h; rw [Int64.lt_iff_toInt_lt] at h; omega)
theorem own_max_i (a b : Int64) : (own_max a b).toInt = max a.toInt b.toInt := by
  unfold own_max
  split
  all_goals (rename_i h; rw [Int64.lt_iff_toInt_lt] at h; omega)
theorem own_ord (a b c : Int64) : ¬ (own_max (own_min a b) (own_min (own_max a b) c) < own_min a (own_min b c)) ∧ ¬ (own_max a (own_max b c) < own_max (own_min a b) (own_min (own_max a b) c)) := by
  simp only [Int64.lt_iff_toInt_lt, own_min_i, own_max_i]
  omega
theorem own_holds_i (t s e : Int64) : own_holds t s e = if s.toInt ≤ t.toInt ∧ t.toInt < e.toInt then 1 else 0 := by
  unfold own_holds
  by_cases h1 : t < s
  · rw [if_pos h1, if_neg (by rw [Int64.lt_iff_toInt_lt] at h1; omega)]; rfl
  · by_cases h2 : t < e
    · rw [if_neg h1, if_pos h2, if_pos (by rw [Int64.lt_iff_toInt_lt] at h1 h2; omega)]; rfl
    · rw [if_neg h1, if_neg h2, if_neg (by rw [Int64.lt_iff_toInt_lt] at h1 h2; omega)]; rfl
theorem own_yes {t s e : Int64} (h : s.toInt ≤ t.toInt ∧ t.toInt < e.toInt) : own_holds t s e = 1 := by rw [own_holds_i, if_pos h]
theorem own_no {t s e : Int64} (h : ¬ (s.toInt ≤ t.toInt ∧ t.toInt < e.toInt)) : own_holds t s e = 0 := by rw [own_holds_i, if_neg h]
theorem own_one : ¬ ((1 : Int32) = 0) := by decide
theorem own_l1 (t lo md hi : Int64) (h1 : ¬ (md < lo)) (h2 : ¬ (hi < md)) : own_holds t lo hi = (if own_holds t lo md = 0 then (if own_holds t md hi = 0 then 0 else 1) else 1) := by
  rw [Int64.lt_iff_toInt_lt] at h1 h2
  by_cases a : lo.toInt ≤ t.toInt ∧ t.toInt < md.toInt
  · rw [own_yes a, if_neg own_one, own_yes (by omega)]
  · rw [own_no a, if_pos rfl]
    by_cases b : md.toInt ≤ t.toInt ∧ t.toInt < hi.toInt
    · rw [own_yes b, if_neg own_one, own_yes (by omega)]
    · rw [own_no b, if_pos rfl, own_no (by omega)]
theorem own_l2 (t lo md hi : Int64) : ¬ ((if own_holds t lo md = 0 then 1 else (if own_holds t md hi = 0 then 1 else 0)) = (0 : Int32)) := by
  by_cases a : lo.toInt ≤ t.toInt ∧ t.toInt < md.toInt
  · rw [own_yes a, if_neg own_one, own_no (by omega), if_pos rfl]; exact own_one
  · rw [own_no a, if_pos rfl]; exact own_one
theorem own_l3 (lo md : Int64) : own_holds lo lo md = (if lo < md then 1 else 0) := by
  rw [own_holds_i]
  by_cases h : lo < md
  · rw [if_pos h, if_pos (by rw [Int64.lt_iff_toInt_lt] at h; omega)]
  · rw [if_neg h, if_neg (by rw [Int64.lt_iff_toInt_lt] at h; omega)]
theorem own_l4 (lo md : Int64) : own_holds md lo md = 0 := own_no (by omega)
theorem pf_5 : plainFor (⟨"com/example/meisai/meisai/PeriodHoldsPinLaw", "law", "(JJJJI)Z"⟩ : MethodName) = true := by decide +kernel
def Q0 (Z : State) (q1 : Int64) (q2 : Int64) (q3 : Int64) (q4 : Int64) (p5 : Int32) (h0 : Heap) (n0 : Nat) (v : Option Value) (h : Heap) (L : List Loc) : Prop := v = some (.int 1) ∧ Fr n0 L
theorem ef_0 (m : MethodId) (q1 : Int64) (q2 : Int64) (q3 : Int64) (q4 : Int64) (p5 : Int32) : entryFrame m #[(.long q1), (.long q2), (.long q3), (.long q4), (.int p5)] maxLocals = mkF m 0 #[.val (.long q1), .second, .val (.long q2), .second, .val (.long q3), .second, .val (.long q4), .second, .val (.int p5), .unset, .unset, .unset, .unset, .unset, .unset, .unset, .unset, .unset, .unset, .unset, .unset, .unset, .unset, .unset, .unset, .unset, .unset, .unset, .unset] [] := by first | (simp [entryFrame, mkF, argsToLocals, Value.category, maxLocals]; done) | rfl
theorem pd_1 : parseMethodDescriptor "(JJ)J" = some ⟨[.long, .long], some .long⟩ := by decide +kernel
theorem pd_2 : parseMethodDescriptor "(JJ)V" = some ⟨[.long, .long], none⟩ := by decide +kernel
theorem pd_3 : parseMethodDescriptor "(J)Z" = some ⟨[.long], some .boolean⟩ := by decide +kernel
set_option maxRecDepth 65536 in
set_option maxHeartbeats 40000000 in
theorem rm0 (l : Launch) (Z : State) (a0 : Array Value) (hw : ∀ d ∈ tables_1, d.before a0 Z = true) (ws : List Jvm.Cond) (q1 : Int64) (q2 : Int64) (q3 : Int64) (q4 : Int64) (p5 : Int32) (h0 : Heap) (n0 : Nat) (Z0 : n0 ≤ h0.size) :
    MetFree l x (head1 (Jvm.Cond.code x code maxLocals ret :: ws) room_1) (fun a U => a = #[(.long q1), (.long q2), (.long q3), (.long q4), (.int p5)] ∧ Z.Warmed39 U.vm ∧ U.heap = h0) (fun _ _ _ _ _ => True) (fun _ U o U' => ∃ v L, o = .returned v ∧ Q0 Z q1 q2 q3 q4 p5 h0 n0 v U'.heap L ∧ FrameEnd U o U' L room_1.cells room_1.slots) := by
  refine MetFree.of_bodySF pf_5 hisR ?_
  intro p e s m args below meth c s₁ Bd hml0 hP hK
  obtain ⟨rfl, hZ, hh⟩ := hP
  have hx := Bd.exec
  have hby := Bd.bytes
  have hlk : meth.locks = false := BodyLoose.notSynchronized Bd
  have hml : c.maxLocals = 29 := hml0
  have hown : s.vm.findClass "com/example/meisai/meisai/PeriodHoldsPinLaw" = some m.cls := findClass_of_methodNamed Bd.named
  have hnm := (name_of_methodNamed Bd.named Bd.method).1
  have X0 : Stand p l e room_1 s m #[(.long q1), (.long q2), (.long q3), (.long q4), (.int p5)] below meth c s₁ [] 0 0 := Stand.of_body Bd
  have e0 : s₁.heap = h0 := by rw [← hh, Bd.state]; rfl
  have N0 := Fr.nil n0
  show Gl p e below s (Q0 Z q1 q2 q3 q4 p5 h0 n0) room_1.cells room_1.slots (s₁.setTop (entryFrame m #[(.long q1), (.long q2), (.long q3), (.long q4), (.int p5)] maxLocals))
  rw [ef_0]
  show Gl _ _ _ _ _ _ _ (s₁.setTop (mkF m 0 #[.val (.long q1), .second, .val (.long q2), .second, .val (.long q3), .second, .val (.long q4), .second, .val (.int p5), .unset, .unset, .unset, .unset, .unset, .unset, .unset, .unset, .unset, .unset, .unset, .unset, .unset, .unset, .unset, .unset, .unset, .unset, .unset, .unset] []))
  refine Gl.st (fun t k => XS.lloadN X0.here hx rfl (hb hby at_0) rfl  k) ?_
  show Gl _ _ _ _ _ _ _ (s₁.setTop (mkF m 1 #[.val (.long q1), .second, .val (.long q2), .second, .val (.long q3), .second, .val (.long q4), .second, .val (.int p5), .unset, .unset, .unset, .unset, .unset, .unset, .unset, .unset, .unset, .unset, .unset, .unset, .unset, .unset, .unset, .unset, .unset, .unset, .unset, .unset] [(.long q1)]))
  refine Gl.st (fun t k => XS.lloadN X0.here hx rfl (hb hby at_1) rfl  k) ?_
  show Gl _ _ _ _ _ _ _ (s₁.setTop (mkF m 2 #[.val (.long q1), .second, .val (.long q2), .second, .val (.long q3), .second, .val (.long q4), .second, .val (.int p5), .unset, .unset, .unset, .unset, .unset, .unset, .unset, .unset, .unset, .unset, .unset, .unset, .unset, .unset, .unset, .unset, .unset, .unset, .unset, .unset] [(.long q2), (.long q1)]))
  refine Gl.st (fun t k => XS.lload X0.here hx rfl (hb hby at_2) rfl  k) ?_
  show Gl _ _ _ _ _ _ _ (s₁.setTop (mkF m 4 #[.val (.long q1), .second, .val (.long q2), .second, .val (.long q3), .second, .val (.long q4), .second, .val (.int p5), .unset, .unset, .unset, .unset, .unset, .unset, .unset, .unset, .unset, .unset, .unset, .unset, .unset, .unset, .unset, .unset, .unset, .unset, .unset, .unset] [(.long q3), (.long q2), (.long q1)]))
  obtain ⟨_, _, ⟨T1, L1, k1, n1⟩, -, X1, ⟨Lc1, hQ1, l1, y1, z1⟩, st1⟩ := Jvm.LawKit.callS X0 hx (y := (⟨"java/lang/Math", "min", "(JJ)J"⟩ : MethodName)) hown (mvT hZ (hw _ (List.mem_of_getElem? (i := 0) rfl))) (mvT hZ (hw _ (List.mem_of_getElem? (i := 1) rfl))) (mvT hZ (hw _ (List.mem_of_getElem? (i := 2) rfl))) (mvT hZ (hw _ (List.mem_of_getElem? (i := 3) rfl))) (by decide) (backOf (W := 2) (rm1 l Z a0 hw [] q2 q3 h0 n0) hZ (hw _ (List.mem_of_getElem? (i := 3) rfl)) (hw _ (List.mem_of_getElem? (i := 2) rfl)) (by decide) (by decide)) (g := (mkF m 4 #[.val (.long q1), .second, .val (.long q2), .second, .val (.long q3), .second, .val (.long q4), .second, .val (.int p5), .unset, .unset, .unset, .unset, .unset, .unset, .unset, .unset, .unset, .unset, .unset, .unset, .unset, .unset, .unset, .unset, .unset, .unset, .unset, .unset] [(.long q3), (.long q2), (.long q1)])) rfl (by rw [hml]; rfl) (argsL := [(.long q2), (.long q3)]) (rest := [(.long q1)]) (lenOf pd_1 rfl) rfl (by show 2 * 0 + _ ≤ _; exact Nat.le_of_eq rfl) (hb hby at_4) (fun _ _ => ⟨rfl, e0, (by decide : 0 + 0 ≤ _), (by decide : 0 + 0 ≤ _)⟩)
  dsimp only [Pt.U, Pt.locs, Pt.cells, Pt.slots] at X1 l1 y1 z1 st1 hQ1
  subst l1 y1 z1
  obtain ⟨rfl, N1q, e1⟩ := hQ1
  have N1 := Fr.app N0 N1q
  refine Gl.st st1 ?_
  show Gl _ _ _ _ _ _ _ (T1.setTop (mkF m 7 #[.val (.long q1), .second, .val (.long q2), .second, .val (.long q3), .second, .val (.long q4), .second, .val (.int p5), .unset, .unset, .unset, .unset, .unset, .unset, .unset, .unset, .unset, .unset, .unset, .unset, .unset, .unset, .unset, .unset, .unset, .unset, .unset, .unset] [(.long (own_min q2 q3)), (.long q1)]))
  obtain ⟨_, _, ⟨T2, L2, k2, n2⟩, -, X2, ⟨Lc2, hQ2, l2, y2, z2⟩, st2⟩ := Jvm.LawKit.callS X1 hx (y := (⟨"java/lang/Math", "min", "(JJ)J"⟩ : MethodName)) hown (mvT hZ (hw _ (List.mem_of_getElem? (i := 0) rfl))) (mvT hZ (hw _ (List.mem_of_getElem? (i := 1) rfl))) (mvT hZ (hw _ (List.mem_of_getElem? (i := 2) rfl))) (mvT hZ (hw _ (List.mem_of_getElem? (i := 3) rfl))) (by decide) (backOf (W := 0) (rm1 l Z a0 hw [] q1 (own_min q2 q3) h0 n0) hZ (hw _ (List.mem_of_getElem? (i := 3) rfl)) (hw _ (List.mem_of_getElem? (i := 2) rfl)) (by decide) (by decide)) (g := (mkF m 7 #[.val (.long q1), .second, .val (.long q2), .second, .val (.long q3), .second, .val (.long q4), .second, .val (.int p5), .unset, .unset, .unset, .unset, .unset, .unset, .unset, .unset, .unset, .unset, .unset, .unset, .unset, .unset, .unset, .unset, .unset, .unset, .unset, .unset] [(.long (own_min q2 q3)), (.long q1)])) rfl (by rw [hml]; rfl) (argsL := [(.long q1), (.long (own_min q2 q3))]) (rest := []) (lenOf pd_1 rfl) rfl (by show 2 * 0 + _ ≤ _; exact Nat.le_of_eq rfl) (hb hby at_7) (fun _ _ => ⟨rfl, e1, (by decide : 0 + 0 ≤ _), (by decide : 0 + 0 ≤ _)⟩)
  dsimp only [Pt.U, Pt.locs, Pt.cells, Pt.slots] at X2 l2 y2 z2 st2 hQ2
  subst l2 y2 z2
  obtain ⟨rfl, N2q, e2⟩ := hQ2
  have N2 := Fr.app N1 N2q
  refine Gl.st st2 ?_
  show Gl _ _ _ _ _ _ _ (T2.setTop (mkF m 10 #[.val (.long q1), .second, .val (.long q2), .second, .val (.long q3), .second, .val (.long q4), .second, .val (.int p5), .unset, .unset, .unset, .unset, .unset, .unset, .unset, .unset, .unset, .unset, .unset, .unset, .unset, .unset, .unset, .unset, .unset, .unset, .unset, .unset] [(.long (own_min q1 (own_min q2 q3)))]))
  refine Gl.st (fun t k => XS.lstore X2.here hx rfl (hb hby at_10) rfl (l' := #[.val (.long q1), .second, .val (.long q2), .second, .val (.long q3), .second, .val (.long q4), .second, .val (.int p5), .val (.long (own_min q1 (own_min q2 q3))), .second, .unset, .unset, .unset, .unset, .unset, .unset, .unset, .unset, .unset, .unset, .unset, .unset, .unset, .unset, .unset, .unset, .unset, .unset]) rfl k) ?_
  show Gl _ _ _ _ _ _ _ (T2.setTop (mkF m 12 #[.val (.long q1), .second, .val (.long q2), .second, .val (.long q3), .second, .val (.long q4), .second, .val (.int p5), .val (.long (own_min q1 (own_min q2 q3))), .second, .unset, .unset, .unset, .unset, .unset, .unset, .unset, .unset, .unset, .unset, .unset, .unset, .unset, .unset, .unset, .unset, .unset, .unset] []))
  obtain ⟨lo, hlo⟩ : ∃ z : Int64, z = (own_min q1 (own_min q2 q3)) := ⟨_, rfl⟩
  rw [← hlo]
  show Gl _ _ _ _ _ _ _ (T2.setTop (mkF m 12 #[.val (.long q1), .second, .val (.long q2), .second, .val (.long q3), .second, .val (.long q4), .second, .val (.int p5), .val (.long lo), .second, .unset, .unset, .unset, .unset, .unset, .unset, .unset, .unset, .unset, .unset, .unset, .unset, .unset, .unset, .unset, .unset, .unset, .unset] []))
  refine Gl.st (fun t k => XS.lloadN X2.here hx rfl (hb hby at_12) rfl  k) ?_
  show Gl _ _ _ _ _ _ _ (T2.setTop (mkF m 13 #[.val (.long q1), .second, .val (.long q2), .second, .val (.long q3), .second, .val (.long q4), .second, .val (.int p5), .val (.long lo), .second, .unset, .unset, .unset, .unset, .unset, .unset, .unset, .unset, .unset, .unset, .unset, .unset, .unset, .unset, .unset, .unset, .unset, .unset] [(.long q1)]))
  refine Gl.st (fun t k => XS.lloadN X2.here hx rfl (hb hby at_13) rfl  k) ?_
  show Gl _ _ _ _ _ _ _ (T2.setTop (mkF m 14 #[.val (.long q1), .second, .val (.long q2), .second, .val (.long q3), .second, .val (.long q4), .second, .val (.int p5), .val (.long lo), .second, .unset, .unset, .unset, .unset, .unset, .unset, .unset, .unset, .unset, .unset, .unset, .unset, .unset, .unset, .unset, .unset, .unset, .unset] [(.long q2), (.long q1)]))
  refine Gl.st (fun t k => XS.lload X2.here hx rfl (hb hby at_14) rfl  k) ?_
  show Gl _ _ _ _ _ _ _ (T2.setTop (mkF m 16 #[.val (.long q1), .second, .val (.long q2), .second, .val (.long q3), .second, .val (.long q4), .second, .val (.int p5), .val (.long lo), .second, .unset, .unset, .unset, .unset, .unset, .unset, .unset, .unset, .unset, .unset, .unset, .unset, .unset, .unset, .unset, .unset, .unset, .unset] [(.long q3), (.long q2), (.long q1)]))
  obtain ⟨_, _, ⟨T3, L3, k3, n3⟩, -, X3, ⟨Lc3, hQ3, l3, y3, z3⟩, st3⟩ := Jvm.LawKit.callS X2 hx (y := (⟨"java/lang/Math", "max", "(JJ)J"⟩ : MethodName)) hown (mvT hZ (hw _ (List.mem_of_getElem? (i := 4) rfl))) (mvT hZ (hw _ (List.mem_of_getElem? (i := 5) rfl))) (mvT hZ (hw _ (List.mem_of_getElem? (i := 2) rfl))) (mvT hZ (hw _ (List.mem_of_getElem? (i := 6) rfl))) (by decide) (backOf (W := 2) (rm2 l Z a0 hw [] q2 q3 h0 n0) hZ (hw _ (List.mem_of_getElem? (i := 6) rfl)) (hw _ (List.mem_of_getElem? (i := 2) rfl)) (by decide) (by decide)) (g := (mkF m 16 #[.val (.long q1), .second, .val (.long q2), .second, .val (.long q3), .second, .val (.long q4), .second, .val (.int p5), .val (.long lo), .second, .unset, .unset, .unset, .unset, .unset, .unset, .unset, .unset, .unset, .unset, .unset, .unset, .unset, .unset, .unset, .unset, .unset, .unset] [(.long q3), (.long q2), (.long q1)])) rfl (by rw [hml]; rfl) (argsL := [(.long q2), (.long q3)]) (rest := [(.long q1)]) (lenOf pd_1 rfl) rfl (by show 2 * 0 + _ ≤ _; exact Nat.le_of_eq rfl) (hb hby at_16) (fun _ _ => ⟨rfl, e2, (by decide : 0 + 0 ≤ _), (by decide : 0 + 0 ≤ _)⟩)
  dsimp only [Pt.U, Pt.locs, Pt.cells, Pt.slots] at X3 l3 y3 z3 st3 hQ3
  subst l3 y3 z3
  obtain ⟨rfl, N3q, e3⟩ := hQ3
  have N3 := Fr.app N2 N3q
  refine Gl.st st3 ?_
  show Gl _ _ _ _ _ _ _ (T3.setTop (mkF m 19 #[.val (.long q1), .second, .val (.long q2), .second, .val (.long q3), .second, .val (.long q4), .second, .val (.int p5), .val (.long lo), .second, .unset, .unset, .unset, .unset, .unset, .unset, .unset, .unset, .unset, .unset, .unset, .unset, .unset, .unset, .unset, .unset, .unset, .unset] [(.long (own_max q2 q3)), (.long q1)]))
  obtain ⟨_, _, ⟨T4, L4, k4, n4⟩, -, X4, ⟨Lc4, hQ4, l4, y4, z4⟩, st4⟩ := Jvm.LawKit.callS X3 hx (y := (⟨"java/lang/Math", "max", "(JJ)J"⟩ : MethodName)) hown (mvT hZ (hw _ (List.mem_of_getElem? (i := 4) rfl))) (mvT hZ (hw _ (List.mem_of_getElem? (i := 5) rfl))) (mvT hZ (hw _ (List.mem_of_getElem? (i := 2) rfl))) (mvT hZ (hw _ (List.mem_of_getElem? (i := 6) rfl))) (by decide) (backOf (W := 0) (rm2 l Z a0 hw [] q1 (own_max q2 q3) h0 n0) hZ (hw _ (List.mem_of_getElem? (i := 6) rfl)) (hw _ (List.mem_of_getElem? (i := 2) rfl)) (by decide) (by decide)) (g := (mkF m 19 #[.val (.long q1), .second, .val (.long q2), .second, .val (.long q3), .second, .val (.long q4), .second, .val (.int p5), .val (.long lo), .second, .unset, .unset, .unset, .unset, .unset, .unset, .unset, .unset, .unset, .unset, .unset, .unset, .unset, .unset, .unset, .unset, .unset, .unset] [(.long (own_max q2 q3)), (.long q1)])) rfl (by rw [hml]; rfl) (argsL := [(.long q1), (.long (own_max q2 q3))]) (rest := []) (lenOf pd_1 rfl) rfl (by show 2 * 0 + _ ≤ _; exact Nat.le_of_eq rfl) (hb hby at_19) (fun _ _ => ⟨rfl, e3, (by decide : 0 + 0 ≤ _), (by decide : 0 + 0 ≤ _)⟩)
  dsimp only [Pt.U, Pt.locs, Pt.cells, Pt.slots] at X4 l4 y4 z4 st4 hQ4
  subst l4 y4 z4
  obtain ⟨rfl, N4q, e4⟩ := hQ4
  have N4 := Fr.app N3 N4q
  refine Gl.st st4 ?_
  show Gl _ _ _ _ _ _ _ (T4.setTop (mkF m 22 #[.val (.long q1), .second, .val (.long q2), .second, .val (.long q3), .second, .val (.long q4), .second, .val (.int p5), .val (.long lo), .second, .unset, .unset, .unset, .unset, .unset, .unset, .unset, .unset, .unset, .unset, .unset, .unset, .unset, .unset, .unset, .unset, .unset, .unset] [(.long (own_max q1 (own_max q2 q3)))]))
  refine Gl.st (fun t k => XS.lstore X4.here hx rfl (hb hby at_22) rfl (l' := #[.val (.long q1), .second, .val (.long q2), .second, .val (.long q3), .second, .val (.long q4), .second, .val (.int p5), .val (.long lo), .second, .val (.long (own_max q1 (own_max q2 q3))), .second, .unset, .unset, .unset, .unset, .unset, .unset, .unset, .unset, .unset, .unset, .unset, .unset, .unset, .unset, .unset, .unset]) rfl k) ?_
  show Gl _ _ _ _ _ _ _ (T4.setTop (mkF m 24 #[.val (.long q1), .second, .val (.long q2), .second, .val (.long q3), .second, .val (.long q4), .second, .val (.int p5), .val (.long lo), .second, .val (.long (own_max q1 (own_max q2 q3))), .second, .unset, .unset, .unset, .unset, .unset, .unset, .unset, .unset, .unset, .unset, .unset, .unset, .unset, .unset, .unset, .unset] []))
  obtain ⟨hi, hhi⟩ : ∃ z : Int64, z = (own_max q1 (own_max q2 q3)) := ⟨_, rfl⟩
  rw [← hhi]
  show Gl _ _ _ _ _ _ _ (T4.setTop (mkF m 24 #[.val (.long q1), .second, .val (.long q2), .second, .val (.long q3), .second, .val (.long q4), .second, .val (.int p5), .val (.long lo), .second, .val (.long hi), .second, .unset, .unset, .unset, .unset, .unset, .unset, .unset, .unset, .unset, .unset, .unset, .unset, .unset, .unset, .unset, .unset] []))
  refine Gl.st (fun t k => XS.lloadN X4.here hx rfl (hb hby at_24) rfl  k) ?_
  show Gl _ _ _ _ _ _ _ (T4.setTop (mkF m 25 #[.val (.long q1), .second, .val (.long q2), .second, .val (.long q3), .second, .val (.long q4), .second, .val (.int p5), .val (.long lo), .second, .val (.long hi), .second, .unset, .unset, .unset, .unset, .unset, .unset, .unset, .unset, .unset, .unset, .unset, .unset, .unset, .unset, .unset, .unset] [(.long q1)]))
  refine Gl.st (fun t k => XS.lloadN X4.here hx rfl (hb hby at_25) rfl  k) ?_
  show Gl _ _ _ _ _ _ _ (T4.setTop (mkF m 26 #[.val (.long q1), .second, .val (.long q2), .second, .val (.long q3), .second, .val (.long q4), .second, .val (.int p5), .val (.long lo), .second, .val (.long hi), .second, .unset, .unset, .unset, .unset, .unset, .unset, .unset, .unset, .unset, .unset, .unset, .unset, .unset, .unset, .unset, .unset] [(.long q2), (.long q1)]))
  obtain ⟨_, _, ⟨T5, L5, k5, n5⟩, -, X5, ⟨Lc5, hQ5, l5, y5, z5⟩, st5⟩ := Jvm.LawKit.callS X4 hx (y := (⟨"java/lang/Math", "min", "(JJ)J"⟩ : MethodName)) hown (mvT hZ (hw _ (List.mem_of_getElem? (i := 0) rfl))) (mvT hZ (hw _ (List.mem_of_getElem? (i := 1) rfl))) (mvT hZ (hw _ (List.mem_of_getElem? (i := 2) rfl))) (mvT hZ (hw _ (List.mem_of_getElem? (i := 3) rfl))) (by decide) (backOf (W := 0) (rm1 l Z a0 hw [] q1 q2 h0 n0) hZ (hw _ (List.mem_of_getElem? (i := 3) rfl)) (hw _ (List.mem_of_getElem? (i := 2) rfl)) (by decide) (by decide)) (g := (mkF m 26 #[.val (.long q1), .second, .val (.long q2), .second, .val (.long q3), .second, .val (.long q4), .second, .val (.int p5), .val (.long lo), .second, .val (.long hi), .second, .unset, .unset, .unset, .unset, .unset, .unset, .unset, .unset, .unset, .unset, .unset, .unset, .unset, .unset, .unset, .unset] [(.long q2), (.long q1)])) rfl (by rw [hml]; rfl) (argsL := [(.long q1), (.long q2)]) (rest := []) (lenOf pd_1 rfl) rfl (by show 2 * 0 + _ ≤ _; exact Nat.le_of_eq rfl) (hb hby at_26) (fun _ _ => ⟨rfl, e4, (by decide : 0 + 0 ≤ _), (by decide : 0 + 0 ≤ _)⟩)
  dsimp only [Pt.U, Pt.locs, Pt.cells, Pt.slots] at X5 l5 y5 z5 st5 hQ5
  subst l5 y5 z5
  obtain ⟨rfl, N5q, e5⟩ := hQ5
  have N5 := Fr.app N4 N5q
  refine Gl.st st5 ?_
  show Gl _ _ _ _ _ _ _ (T5.setTop (mkF m 29 #[.val (.long q1), .second, .val (.long q2), .second, .val (.long q3), .second, .val (.long q4), .second, .val (.int p5), .val (.long lo), .second, .val (.long hi), .second, .unset, .unset, .unset, .unset, .unset, .unset, .unset, .unset, .unset, .unset, .unset, .unset, .unset, .unset, .unset, .unset] [(.long (own_min q1 q2))]))
  refine Gl.st (fun t k => XS.lloadN X5.here hx rfl (hb hby at_29) rfl  k) ?_
  show Gl _ _ _ _ _ _ _ (T5.setTop (mkF m 30 #[.val (.long q1), .second, .val (.long q2), .second, .val (.long q3), .second, .val (.long q4), .second, .val (.int p5), .val (.long lo), .second, .val (.long hi), .second, .unset, .unset, .unset, .unset, .unset, .unset, .unset, .unset, .unset, .unset, .unset, .unset, .unset, .unset, .unset, .unset] [(.long q1), (.long (own_min q1 q2))]))
  refine Gl.st (fun t k => XS.lloadN X5.here hx rfl (hb hby at_30) rfl  k) ?_
  show Gl _ _ _ _ _ _ _ (T5.setTop (mkF m 31 #[.val (.long q1), .second, .val (.long q2), .second, .val (.long q3), .second, .val (.long q4), .second, .val (.int p5), .val (.long lo), .second, .val (.long hi), .second, .unset, .unset, .unset, .unset, .unset, .unset, .unset, .unset, .unset, .unset, .unset, .unset, .unset, .unset, .unset, .unset] [(.long q2), (.long q1), (.long (own_min q1 q2))]))
  obtain ⟨_, _, ⟨T6, L6, k6, n6⟩, -, X6, ⟨Lc6, hQ6, l6, y6, z6⟩, st6⟩ := Jvm.LawKit.callS X5 hx (y := (⟨"java/lang/Math", "max", "(JJ)J"⟩ : MethodName)) hown (mvT hZ (hw _ (List.mem_of_getElem? (i := 4) rfl))) (mvT hZ (hw _ (List.mem_of_getElem? (i := 5) rfl))) (mvT hZ (hw _ (List.mem_of_getElem? (i := 2) rfl))) (mvT hZ (hw _ (List.mem_of_getElem? (i := 6) rfl))) (by decide) (backOf (W := 2) (rm2 l Z a0 hw [] q1 q2 h0 n0) hZ (hw _ (List.mem_of_getElem? (i := 6) rfl)) (hw _ (List.mem_of_getElem? (i := 2) rfl)) (by decide) (by decide)) (g := (mkF m 31 #[.val (.long q1), .second, .val (.long q2), .second, .val (.long q3), .second, .val (.long q4), .second, .val (.int p5), .val (.long lo), .second, .val (.long hi), .second, .unset, .unset, .unset, .unset, .unset, .unset, .unset, .unset, .unset, .unset, .unset, .unset, .unset, .unset, .unset, .unset] [(.long q2), (.long q1), (.long (own_min q1 q2))])) rfl (by rw [hml]; rfl) (argsL := [(.long q1), (.long q2)]) (rest := [(.long (own_min q1 q2))]) (lenOf pd_1 rfl) rfl (by show 2 * 0 + _ ≤ _; exact Nat.le_of_eq rfl) (hb hby at_31) (fun _ _ => ⟨rfl, e5, (by decide : 0 + 0 ≤ _), (by decide : 0 + 0 ≤ _)⟩)
  dsimp only [Pt.U, Pt.locs, Pt.cells, Pt.slots] at X6 l6 y6 z6 st6 hQ6
  subst l6 y6 z6
  obtain ⟨rfl, N6q, e6⟩ := hQ6
  have N6 := Fr.app N5 N6q
  refine Gl.st st6 ?_
  show Gl _ _ _ _ _ _ _ (T6.setTop (mkF m 34 #[.val (.long q1), .second, .val (.long q2), .second, .val (.long q3), .second, .val (.long q4), .second, .val (.int p5), .val (.long lo), .second, .val (.long hi), .second, .unset, .unset, .unset, .unset, .unset, .unset, .unset, .unset, .unset, .unset, .unset, .unset, .unset, .unset, .unset, .unset] [(.long (own_max q1 q2)), (.long (own_min q1 q2))]))
  refine Gl.st (fun t k => XS.lload X6.here hx rfl (hb hby at_34) rfl  k) ?_
  show Gl _ _ _ _ _ _ _ (T6.setTop (mkF m 36 #[.val (.long q1), .second, .val (.long q2), .second, .val (.long q3), .second, .val (.long q4), .second, .val (.int p5), .val (.long lo), .second, .val (.long hi), .second, .unset, .unset, .unset, .unset, .unset, .unset, .unset, .unset, .unset, .unset, .unset, .unset, .unset, .unset, .unset, .unset] [(.long q3), (.long (own_max q1 q2)), (.long (own_min q1 q2))]))
  obtain ⟨_, _, ⟨T7, L7, k7, n7⟩, -, X7, ⟨Lc7, hQ7, l7, y7, z7⟩, st7⟩ := Jvm.LawKit.callS X6 hx (y := (⟨"java/lang/Math", "min", "(JJ)J"⟩ : MethodName)) hown (mvT hZ (hw _ (List.mem_of_getElem? (i := 0) rfl))) (mvT hZ (hw _ (List.mem_of_getElem? (i := 1) rfl))) (mvT hZ (hw _ (List.mem_of_getElem? (i := 2) rfl))) (mvT hZ (hw _ (List.mem_of_getElem? (i := 3) rfl))) (by decide) (backOf (W := 2) (rm1 l Z a0 hw [] (own_max q1 q2) q3 h0 n0) hZ (hw _ (List.mem_of_getElem? (i := 3) rfl)) (hw _ (List.mem_of_getElem? (i := 2) rfl)) (by decide) (by decide)) (g := (mkF m 36 #[.val (.long q1), .second, .val (.long q2), .second, .val (.long q3), .second, .val (.long q4), .second, .val (.int p5), .val (.long lo), .second, .val (.long hi), .second, .unset, .unset, .unset, .unset, .unset, .unset, .unset, .unset, .unset, .unset, .unset, .unset, .unset, .unset, .unset, .unset] [(.long q3), (.long (own_max q1 q2)), (.long (own_min q1 q2))])) rfl (by rw [hml]; rfl) (argsL := [(.long (own_max q1 q2)), (.long q3)]) (rest := [(.long (own_min q1 q2))]) (lenOf pd_1 rfl) rfl (by show 2 * 0 + _ ≤ _; exact Nat.le_of_eq rfl) (hb hby at_36) (fun _ _ => ⟨rfl, e6, (by decide : 0 + 0 ≤ _), (by decide : 0 + 0 ≤ _)⟩)
  dsimp only [Pt.U, Pt.locs, Pt.cells, Pt.slots] at X7 l7 y7 z7 st7 hQ7
  subst l7 y7 z7
  obtain ⟨rfl, N7q, e7⟩ := hQ7
  have N7 := Fr.app N6 N7q
  refine Gl.st st7 ?_
  show Gl _ _ _ _ _ _ _ (T7.setTop (mkF m 39 #[.val (.long q1), .second, .val (.long q2), .second, .val (.long q3), .second, .val (.long q4), .second, .val (.int p5), .val (.long lo), .second, .val (.long hi), .second, .unset, .unset, .unset, .unset, .unset, .unset, .unset, .unset, .unset, .unset, .unset, .unset, .unset, .unset, .unset, .unset] [(.long (own_min (own_max q1 q2) q3)), (.long (own_min q1 q2))]))
  obtain ⟨_, _, ⟨T8, L8, k8, n8⟩, -, X8, ⟨Lc8, hQ8, l8, y8, z8⟩, st8⟩ := Jvm.LawKit.callS X7 hx (y := (⟨"java/lang/Math", "max", "(JJ)J"⟩ : MethodName)) hown (mvT hZ (hw _ (List.mem_of_getElem? (i := 4) rfl))) (mvT hZ (hw _ (List.mem_of_getElem? (i := 5) rfl))) (mvT hZ (hw _ (List.mem_of_getElem? (i := 2) rfl))) (mvT hZ (hw _ (List.mem_of_getElem? (i := 6) rfl))) (by decide) (backOf (W := 0) (rm2 l Z a0 hw [] (own_min q1 q2) (own_min (own_max q1 q2) q3) h0 n0) hZ (hw _ (List.mem_of_getElem? (i := 6) rfl)) (hw _ (List.mem_of_getElem? (i := 2) rfl)) (by decide) (by decide)) (g := (mkF m 39 #[.val (.long q1), .second, .val (.long q2), .second, .val (.long q3), .second, .val (.long q4), .second, .val (.int p5), .val (.long lo), .second, .val (.long hi), .second, .unset, .unset, .unset, .unset, .unset, .unset, .unset, .unset, .unset, .unset, .unset, .unset, .unset, .unset, .unset, .unset] [(.long (own_min (own_max q1 q2) q3)), (.long (own_min q1 q2))])) rfl (by rw [hml]; rfl) (argsL := [(.long (own_min q1 q2)), (.long (own_min (own_max q1 q2) q3))]) (rest := []) (lenOf pd_1 rfl) rfl (by show 2 * 0 + _ ≤ _; exact Nat.le_of_eq rfl) (hb hby at_39) (fun _ _ => ⟨rfl, e7, (by decide : 0 + 0 ≤ _), (by decide : 0 + 0 ≤ _)⟩)
  dsimp only [Pt.U, Pt.locs, Pt.cells, Pt.slots] at X8 l8 y8 z8 st8 hQ8
  subst l8 y8 z8
  obtain ⟨rfl, N8q, e8⟩ := hQ8
  have N8 := Fr.app N7 N8q
  refine Gl.st st8 ?_
  show Gl _ _ _ _ _ _ _ (T8.setTop (mkF m 42 #[.val (.long q1), .second, .val (.long q2), .second, .val (.long q3), .second, .val (.long q4), .second, .val (.int p5), .val (.long lo), .second, .val (.long hi), .second, .unset, .unset, .unset, .unset, .unset, .unset, .unset, .unset, .unset, .unset, .unset, .unset, .unset, .unset, .unset, .unset] [(.long (own_max (own_min q1 q2) (own_min (own_max q1 q2) q3)))]))
  refine Gl.st (fun t k => XS.lstore X8.here hx rfl (hb hby at_42) rfl (l' := #[.val (.long q1), .second, .val (.long q2), .second, .val (.long q3), .second, .val (.long q4), .second, .val (.int p5), .val (.long lo), .second, .val (.long hi), .second, .val (.long (own_max (own_min q1 q2) (own_min (own_max q1 q2) q3))), .second, .unset, .unset, .unset, .unset, .unset, .unset, .unset, .unset, .unset, .unset, .unset, .unset, .unset, .unset]) rfl k) ?_
  show Gl _ _ _ _ _ _ _ (T8.setTop (mkF m 44 #[.val (.long q1), .second, .val (.long q2), .second, .val (.long q3), .second, .val (.long q4), .second, .val (.int p5), .val (.long lo), .second, .val (.long hi), .second, .val (.long (own_max (own_min q1 q2) (own_min (own_max q1 q2) q3))), .second, .unset, .unset, .unset, .unset, .unset, .unset, .unset, .unset, .unset, .unset, .unset, .unset, .unset, .unset] []))
  obtain ⟨md, hmd⟩ : ∃ z : Int64, z = (own_max (own_min q1 q2) (own_min (own_max q1 q2) q3)) := ⟨_, rfl⟩
  rw [← hmd]
  have hord : ¬ (md < lo) ∧ ¬ (hi < md) := by rw [hlo, hhi, hmd]; exact own_ord _ _ _
  show Gl _ _ _ _ _ _ _ (T8.setTop (mkF m 44 #[.val (.long q1), .second, .val (.long q2), .second, .val (.long q3), .second, .val (.long q4), .second, .val (.int p5), .val (.long lo), .second, .val (.long hi), .second, .val (.long md), .second, .unset, .unset, .unset, .unset, .unset, .unset, .unset, .unset, .unset, .unset, .unset, .unset, .unset, .unset] []))
  refine Gl.st (fun t k => XS.iload X8.here hx rfl (hb hby at_44) rfl  k) ?_
  show Gl _ _ _ _ _ _ _ (T8.setTop (mkF m 46 #[.val (.long q1), .second, .val (.long q2), .second, .val (.long q3), .second, .val (.long q4), .second, .val (.int p5), .val (.long lo), .second, .val (.long hi), .second, .val (.long md), .second, .unset, .unset, .unset, .unset, .unset, .unset, .unset, .unset, .unset, .unset, .unset, .unset, .unset, .unset] [(.int p5)]))
  refine Gl.st (fun t k => XS.iconst X8.here hx rfl (hb hby at_46) k) ?_
  show Gl _ _ _ _ _ _ _ (T8.setTop (mkF m 47 #[.val (.long q1), .second, .val (.long q2), .second, .val (.long q3), .second, .val (.long q4), .second, .val (.int p5), .val (.long lo), .second, .val (.long hi), .second, .val (.long md), .second, .unset, .unset, .unset, .unset, .unset, .unset, .unset, .unset, .unset, .unset, .unset, .unset, .unset, .unset] [(.int (3 : Int32)), (.int p5)]))
  refine Gl.st (fun t k => XS.iand X8.here hx rfl (hb hby at_47) rfl k) ?_
  show Gl _ _ _ _ _ _ _ (T8.setTop (mkF m 48 #[.val (.long q1), .second, .val (.long q2), .second, .val (.long q3), .second, .val (.long q4), .second, .val (.int p5), .val (.long lo), .second, .val (.long hi), .second, .val (.long md), .second, .unset, .unset, .unset, .unset, .unset, .unset, .unset, .unset, .unset, .unset, .unset, .unset, .unset, .unset] [(.int (p5 &&& (3 : Int32)))]))
  refine Gl.st (fun t k => XS.istore X8.here hx rfl (hb hby at_48) rfl (l' := #[.val (.long q1), .second, .val (.long q2), .second, .val (.long q3), .second, .val (.long q4), .second, .val (.int p5), .val (.long lo), .second, .val (.long hi), .second, .val (.long md), .second, .val (.int (p5 &&& (3 : Int32))), .unset, .unset, .unset, .unset, .unset, .unset, .unset, .unset, .unset, .unset, .unset, .unset, .unset]) rfl k) ?_
  show Gl _ _ _ _ _ _ _ (T8.setTop (mkF m 50 #[.val (.long q1), .second, .val (.long q2), .second, .val (.long q3), .second, .val (.long q4), .second, .val (.int p5), .val (.long lo), .second, .val (.long hi), .second, .val (.long md), .second, .val (.int (p5 &&& (3 : Int32))), .unset, .unset, .unset, .unset, .unset, .unset, .unset, .unset, .unset, .unset, .unset, .unset, .unset] []))
  refine Gl.st (fun t k => XS.iload X8.here hx rfl (hb hby at_50) rfl  k) ?_
  show Gl _ _ _ _ _ _ _ (T8.setTop (mkF m 52 #[.val (.long q1), .second, .val (.long q2), .second, .val (.long q3), .second, .val (.long q4), .second, .val (.int p5), .val (.long lo), .second, .val (.long hi), .second, .val (.long md), .second, .val (.int (p5 &&& (3 : Int32))), .unset, .unset, .unset, .unset, .unset, .unset, .unset, .unset, .unset, .unset, .unset, .unset, .unset] [(.int (p5 &&& (3 : Int32)))]))
  have J9 : ∀ (Tj9 : State) (Lj9 : List Loc) (Xj9 : Stand p l e room_1 s m #[(.long q1), (.long q2), (.long q3), (.long q4), (.int p5)] below meth c Tj9 Lj9 0 0) (ej9 : Tj9.heap = h0) (Nj9 : Fr n0 Lj9) (z92l16 : Int64) (hz92l16 : z92l16 = (if (p5 &&& (3 : Int32)) = (0 : Int32) then lo else (if (p5 &&& (3 : Int32)) = (1 : Int32) then md else (if (p5 &&& (3 : Int32)) = (2 : Int32) then hi else q4)))), Gl p e below s (Q0 Z q1 q2 q3 q4 p5 h0 n0) room_1.cells room_1.slots (Tj9.setTop (mkF m 92 #[.val (.long q1), .second, .val (.long q2), .second, .val (.long q3), .second, .val (.long q4), .second, .val (.int p5), .val (.long lo), .second, .val (.long hi), .second, .val (.long md), .second, .val (.int (p5 &&& (3 : Int32))), .val (.long z92l16), .second, .unset, .unset, .unset, .unset, .unset, .unset, .unset, .unset, .unset, .unset, .unset] [])) := by
    intro Tj9 Lj9 Xj9 ej9 Nj9 z92l16 hz92l16
    show Gl _ _ _ _ _ _ _ (Tj9.setTop (mkF m 92 #[.val (.long q1), .second, .val (.long q2), .second, .val (.long q3), .second, .val (.long q4), .second, .val (.int p5), .val (.long lo), .second, .val (.long hi), .second, .val (.long md), .second, .val (.int (p5 &&& (3 : Int32))), .val (.long z92l16), .second, .unset, .unset, .unset, .unset, .unset, .unset, .unset, .unset, .unset, .unset, .unset] []))
    obtain ⟨T10, h10, X10, e10, E10, A10, D10, -, st10⟩ := newO Xj9 hx hZ hown (hw _ (List.mem_of_getElem? (i := 7) rfl)) (hw _ (List.mem_of_getElem? (i := 8) rfl)) (hw _ (List.mem_of_getElem? (i := 9) rfl)) ej9 (g := (mkF m 92 #[.val (.long q1), .second, .val (.long q2), .second, .val (.long q3), .second, .val (.long q4), .second, .val (.int p5), .val (.long lo), .second, .val (.long hi), .second, .val (.long md), .second, .val (.int (p5 &&& (3 : Int32))), .val (.long z92l16), .second, .unset, .unset, .unset, .unset, .unset, .unset, .unset, .unset, .unset, .unset, .unset] [])) rfl (hb hby at_92) (by decide) (by decide)
    obtain ⟨b10, g10⟩ : ∃ z, z = h0.size := ⟨_, rfl⟩
    rw [← g10] at A10 D10 st10
    refine Gl.st st10 ?_
    have gzb10 : n0 ≤ b10 := Nat.le_trans Z0 (Nat.le_of_eq g10.symm)
    have Z10 : n0 ≤ h10.size := Nat.le_trans Z0 E10.1
    have F10_start : Fld Z h10 b10 "com/example/meisai/meisai/Period" "start" "J" (.long (0 : Int64)) := D10 (Or.inr (hw _ (List.mem_of_getElem? (i := 22) rfl))) (ty := .long) (by decide)
    have F10_end : Fld Z h10 b10 "com/example/meisai/meisai/Period" "end" "J" (.long (0 : Int64)) := D10 (Or.inr (hw _ (List.mem_of_getElem? (i := 24) rfl))) (ty := .long) (by decide)
    show Gl _ _ _ _ _ _ _ (T10.setTop (mkF m 95 #[.val (.long q1), .second, .val (.long q2), .second, .val (.long q3), .second, .val (.long q4), .second, .val (.int p5), .val (.long lo), .second, .val (.long hi), .second, .val (.long md), .second, .val (.int (p5 &&& (3 : Int32))), .val (.long z92l16), .second, .unset, .unset, .unset, .unset, .unset, .unset, .unset, .unset, .unset, .unset, .unset] [(.ref b10)]))
    refine Gl.st (fun t k => XS.dup X10.here hx rfl (hb hby at_95) rfl rfl k) ?_
    show Gl _ _ _ _ _ _ _ (T10.setTop (mkF m 96 #[.val (.long q1), .second, .val (.long q2), .second, .val (.long q3), .second, .val (.long q4), .second, .val (.int p5), .val (.long lo), .second, .val (.long hi), .second, .val (.long md), .second, .val (.int (p5 &&& (3 : Int32))), .val (.long z92l16), .second, .unset, .unset, .unset, .unset, .unset, .unset, .unset, .unset, .unset, .unset, .unset] [(.ref b10), (.ref b10)]))
    refine Gl.st (fun t k => XS.lload X10.here hx rfl (hb hby at_96) rfl  k) ?_
    show Gl _ _ _ _ _ _ _ (T10.setTop (mkF m 98 #[.val (.long q1), .second, .val (.long q2), .second, .val (.long q3), .second, .val (.long q4), .second, .val (.int p5), .val (.long lo), .second, .val (.long hi), .second, .val (.long md), .second, .val (.int (p5 &&& (3 : Int32))), .val (.long z92l16), .second, .unset, .unset, .unset, .unset, .unset, .unset, .unset, .unset, .unset, .unset, .unset] [(.long lo), (.ref b10), (.ref b10)]))
    refine Gl.st (fun t k => XS.lload X10.here hx rfl (hb hby at_98) rfl  k) ?_
    show Gl _ _ _ _ _ _ _ (T10.setTop (mkF m 100 #[.val (.long q1), .second, .val (.long q2), .second, .val (.long q3), .second, .val (.long q4), .second, .val (.int p5), .val (.long lo), .second, .val (.long hi), .second, .val (.long md), .second, .val (.int (p5 &&& (3 : Int32))), .val (.long z92l16), .second, .unset, .unset, .unset, .unset, .unset, .unset, .unset, .unset, .unset, .unset, .unset] [(.long md), (.long lo), (.ref b10), (.ref b10)]))
    obtain ⟨_, _, ⟨T11, L11, k11, n11⟩, -, X11, ⟨Lc11, hQ11, l11, y11, z11⟩, st11⟩ := X10.specialBack hx (y := (⟨"com/example/meisai/meisai/Period", "<init>", "(JJ)V"⟩ : MethodName)) rfl hown (mvT hZ (hw _ (List.mem_of_getElem? (i := 10) rfl))) (mvT hZ (hw _ (List.mem_of_getElem? (i := 11) rfl))) (mvT hZ (hw _ (List.mem_of_getElem? (i := 12) rfl))) (by decide) (backOf (W := 1) (rm3 l Z a0 hw [] b10 lo md ((.long (0 : Int64))) ((.long (0 : Int64))) h10 n0 Z10 A10 F10_start F10_end gzb10) hZ (hw _ (List.mem_of_getElem? (i := 12) rfl)) (hw _ (List.mem_of_getElem? (i := 9) rfl)) (by decide) (by decide)) (g := (mkF m 100 #[.val (.long q1), .second, .val (.long q2), .second, .val (.long q3), .second, .val (.long q4), .second, .val (.int p5), .val (.long lo), .second, .val (.long hi), .second, .val (.long md), .second, .val (.int (p5 &&& (3 : Int32))), .val (.long z92l16), .second, .unset, .unset, .unset, .unset, .unset, .unset, .unset, .unset, .unset, .unset, .unset] [(.long md), (.long lo), (.ref b10), (.ref b10)])) rfl (by rw [hml]; rfl) (Steps.refl _) (a := b10) (argsL := [(.long lo), (.long md)]) (rest := [(.ref b10)]) (lenOf pd_2 rfl) rfl (by show 2 * 0 + _ ≤ _; exact Nat.le_of_eq rfl) (hb hby at_100) (fun _ _ => ⟨rfl, e10, (by decide : 1 + 0 ≤ _), (by decide : 2 + 0 ≤ _)⟩)
    dsimp only [Pt.U, Pt.locs, Pt.cells, Pt.slots] at X11 l11 y11 z11 st11 hQ11
    subst l11 y11 z11
    obtain ⟨rfl, N11q, Kq11, Fq11_0, Fq11_1, Fq11_2⟩ := hQ11
    have N11 := Fr.app Nj9 N11q
    have Z11 : n0 ≤ T11.heap.size := Nat.le_trans Z10 Kq11.1
    refine Gl.to st11 ?_
    show Gl _ _ _ _ _ _ _ (T11.setTop (mkF m 103 #[.val (.long q1), .second, .val (.long q2), .second, .val (.long q3), .second, .val (.long q4), .second, .val (.int p5), .val (.long lo), .second, .val (.long hi), .second, .val (.long md), .second, .val (.int (p5 &&& (3 : Int32))), .val (.long z92l16), .second, .unset, .unset, .unset, .unset, .unset, .unset, .unset, .unset, .unset, .unset, .unset] [(.ref b10)]))
    refine Gl.st (fun t k => XS.astore X11.here hx rfl (hb hby at_103) rfl rfl (l' := #[.val (.long q1), .second, .val (.long q2), .second, .val (.long q3), .second, .val (.long q4), .second, .val (.int p5), .val (.long lo), .second, .val (.long hi), .second, .val (.long md), .second, .val (.int (p5 &&& (3 : Int32))), .val (.long z92l16), .second, .val (.ref b10), .unset, .unset, .unset, .unset, .unset, .unset, .unset, .unset, .unset, .unset]) rfl k) ?_
    show Gl _ _ _ _ _ _ _ (T11.setTop (mkF m 105 #[.val (.long q1), .second, .val (.long q2), .second, .val (.long q3), .second, .val (.long q4), .second, .val (.int p5), .val (.long lo), .second, .val (.long hi), .second, .val (.long md), .second, .val (.int (p5 &&& (3 : Int32))), .val (.long z92l16), .second, .val (.ref b10), .unset, .unset, .unset, .unset, .unset, .unset, .unset, .unset, .unset, .unset] []))
    obtain ⟨T12, h12, X12, e12, E12, A12, D12, -, st12⟩ := newO X11 hx hZ hown (hw _ (List.mem_of_getElem? (i := 7) rfl)) (hw _ (List.mem_of_getElem? (i := 8) rfl)) (hw _ (List.mem_of_getElem? (i := 9) rfl)) rfl (g := (mkF m 105 #[.val (.long q1), .second, .val (.long q2), .second, .val (.long q3), .second, .val (.long q4), .second, .val (.int p5), .val (.long lo), .second, .val (.long hi), .second, .val (.long md), .second, .val (.int (p5 &&& (3 : Int32))), .val (.long z92l16), .second, .val (.ref b10), .unset, .unset, .unset, .unset, .unset, .unset, .unset, .unset, .unset, .unset] [])) rfl (hb hby at_105) (by decide) (by decide)
    obtain ⟨b12, g12⟩ : ∃ z, z = T11.heap.size := ⟨_, rfl⟩
    rw [← g12] at A12 D12 st12
    refine Gl.st st12 ?_
    have ne_b10_b12 : b10 ≠ b12 := Nat.ne_of_lt (Nat.lt_of_lt_of_le Fq11_0.lt (Nat.le_of_eq g12.symm))
    have gzb12 : n0 ≤ b12 := Nat.le_trans Z11 (Nat.le_of_eq g12.symm)
    have Z12 : n0 ≤ h12.size := Nat.le_trans Z11 E12.1
    have Fq11_0'13 : Exa Z h12 b10 "com/example/meisai/meisai/Period" := Fq11_0.ext E12
    have Fq11_1'14 : Fld Z h12 b10 "com/example/meisai/meisai/Period" "start" "J" (.long lo) := Fq11_1.ext E12
    have Fq11_2'15 : Fld Z h12 b10 "com/example/meisai/meisai/Period" "end" "J" (.long md) := Fq11_2.ext E12
    have F12_start : Fld Z h12 b12 "com/example/meisai/meisai/Period" "start" "J" (.long (0 : Int64)) := D12 (Or.inr (hw _ (List.mem_of_getElem? (i := 22) rfl))) (ty := .long) (by decide)
    have F12_end : Fld Z h12 b12 "com/example/meisai/meisai/Period" "end" "J" (.long (0 : Int64)) := D12 (Or.inr (hw _ (List.mem_of_getElem? (i := 24) rfl))) (ty := .long) (by decide)
    show Gl _ _ _ _ _ _ _ (T12.setTop (mkF m 108 #[.val (.long q1), .second, .val (.long q2), .second, .val (.long q3), .second, .val (.long q4), .second, .val (.int p5), .val (.long lo), .second, .val (.long hi), .second, .val (.long md), .second, .val (.int (p5 &&& (3 : Int32))), .val (.long z92l16), .second, .val (.ref b10), .unset, .unset, .unset, .unset, .unset, .unset, .unset, .unset, .unset, .unset] [(.ref b12)]))
    refine Gl.st (fun t k => XS.dup X12.here hx rfl (hb hby at_108) rfl rfl k) ?_
    show Gl _ _ _ _ _ _ _ (T12.setTop (mkF m 109 #[.val (.long q1), .second, .val (.long q2), .second, .val (.long q3), .second, .val (.long q4), .second, .val (.int p5), .val (.long lo), .second, .val (.long hi), .second, .val (.long md), .second, .val (.int (p5 &&& (3 : Int32))), .val (.long z92l16), .second, .val (.ref b10), .unset, .unset, .unset, .unset, .unset, .unset, .unset, .unset, .unset, .unset] [(.ref b12), (.ref b12)]))
    refine Gl.st (fun t k => XS.lload X12.here hx rfl (hb hby at_109) rfl  k) ?_
    show Gl _ _ _ _ _ _ _ (T12.setTop (mkF m 111 #[.val (.long q1), .second, .val (.long q2), .second, .val (.long q3), .second, .val (.long q4), .second, .val (.int p5), .val (.long lo), .second, .val (.long hi), .second, .val (.long md), .second, .val (.int (p5 &&& (3 : Int32))), .val (.long z92l16), .second, .val (.ref b10), .unset, .unset, .unset, .unset, .unset, .unset, .unset, .unset, .unset, .unset] [(.long md), (.ref b12), (.ref b12)]))
    refine Gl.st (fun t k => XS.lload X12.here hx rfl (hb hby at_111) rfl  k) ?_
    show Gl _ _ _ _ _ _ _ (T12.setTop (mkF m 113 #[.val (.long q1), .second, .val (.long q2), .second, .val (.long q3), .second, .val (.long q4), .second, .val (.int p5), .val (.long lo), .second, .val (.long hi), .second, .val (.long md), .second, .val (.int (p5 &&& (3 : Int32))), .val (.long z92l16), .second, .val (.ref b10), .unset, .unset, .unset, .unset, .unset, .unset, .unset, .unset, .unset, .unset] [(.long hi), (.long md), (.ref b12), (.ref b12)]))
    obtain ⟨_, _, ⟨T16, L16, k16, n16⟩, -, X16, ⟨Lc16, hQ16, l16, y16, z16⟩, st16⟩ := X12.specialBack hx (y := (⟨"com/example/meisai/meisai/Period", "<init>", "(JJ)V"⟩ : MethodName)) rfl hown (mvT hZ (hw _ (List.mem_of_getElem? (i := 10) rfl))) (mvT hZ (hw _ (List.mem_of_getElem? (i := 11) rfl))) (mvT hZ (hw _ (List.mem_of_getElem? (i := 12) rfl))) (by decide) (backOf (W := 1) (rm3 l Z a0 hw [] b12 md hi ((.long (0 : Int64))) ((.long (0 : Int64))) h12 n0 Z12 A12 F12_start F12_end gzb12) hZ (hw _ (List.mem_of_getElem? (i := 12) rfl)) (hw _ (List.mem_of_getElem? (i := 9) rfl)) (by decide) (by decide)) (g := (mkF m 113 #[.val (.long q1), .second, .val (.long q2), .second, .val (.long q3), .second, .val (.long q4), .second, .val (.int p5), .val (.long lo), .second, .val (.long hi), .second, .val (.long md), .second, .val (.int (p5 &&& (3 : Int32))), .val (.long z92l16), .second, .val (.ref b10), .unset, .unset, .unset, .unset, .unset, .unset, .unset, .unset, .unset, .unset] [(.long hi), (.long md), (.ref b12), (.ref b12)])) rfl (by rw [hml]; rfl) (Steps.refl _) (a := b12) (argsL := [(.long md), (.long hi)]) (rest := [(.ref b12)]) (lenOf pd_2 rfl) rfl (by show 2 * 0 + _ ≤ _; exact Nat.le_of_eq rfl) (hb hby at_113) (fun _ _ => ⟨rfl, e12, (by decide : 2 + 0 ≤ _), (by decide : 4 + 0 ≤ _)⟩)
    dsimp only [Pt.U, Pt.locs, Pt.cells, Pt.slots] at X16 l16 y16 z16 st16 hQ16
    subst l16 y16 z16
    obtain ⟨rfl, N16q, Kq16, Fq16_0, Fq16_1, Fq16_2⟩ := hQ16
    have N16 := Fr.app N11 N16q
    have Z16 : n0 ≤ T16.heap.size := Nat.le_trans Z12 Kq16.1
    have Fq11_0'17 : Exa Z T16.heap b10 "com/example/meisai/meisai/Period" := Fq11_0'13.keep Kq16
    have Fq11_1'18 : Fld Z T16.heap b10 "com/example/meisai/meisai/Period" "start" "J" (.long lo) := Fq11_1'14.keep Kq16 (ninS ne_b10_b12 nin0)
    have Fq11_2'19 : Fld Z T16.heap b10 "com/example/meisai/meisai/Period" "end" "J" (.long md) := Fq11_2'15.keep Kq16 (ninS ne_b10_b12 nin0)
    refine Gl.to st16 ?_
    show Gl _ _ _ _ _ _ _ (T16.setTop (mkF m 116 #[.val (.long q1), .second, .val (.long q2), .second, .val (.long q3), .second, .val (.long q4), .second, .val (.int p5), .val (.long lo), .second, .val (.long hi), .second, .val (.long md), .second, .val (.int (p5 &&& (3 : Int32))), .val (.long z92l16), .second, .val (.ref b10), .unset, .unset, .unset, .unset, .unset, .unset, .unset, .unset, .unset, .unset] [(.ref b12)]))
    refine Gl.st (fun t k => XS.astore X16.here hx rfl (hb hby at_116) rfl rfl (l' := #[.val (.long q1), .second, .val (.long q2), .second, .val (.long q3), .second, .val (.long q4), .second, .val (.int p5), .val (.long lo), .second, .val (.long hi), .second, .val (.long md), .second, .val (.int (p5 &&& (3 : Int32))), .val (.long z92l16), .second, .val (.ref b10), .val (.ref b12), .unset, .unset, .unset, .unset, .unset, .unset, .unset, .unset, .unset]) rfl k) ?_
    show Gl _ _ _ _ _ _ _ (T16.setTop (mkF m 118 #[.val (.long q1), .second, .val (.long q2), .second, .val (.long q3), .second, .val (.long q4), .second, .val (.int p5), .val (.long lo), .second, .val (.long hi), .second, .val (.long md), .second, .val (.int (p5 &&& (3 : Int32))), .val (.long z92l16), .second, .val (.ref b10), .val (.ref b12), .unset, .unset, .unset, .unset, .unset, .unset, .unset, .unset, .unset] []))
    obtain ⟨T20, h20, X20, e20, E20, A20, D20, -, st20⟩ := newO X16 hx hZ hown (hw _ (List.mem_of_getElem? (i := 7) rfl)) (hw _ (List.mem_of_getElem? (i := 8) rfl)) (hw _ (List.mem_of_getElem? (i := 9) rfl)) rfl (g := (mkF m 118 #[.val (.long q1), .second, .val (.long q2), .second, .val (.long q3), .second, .val (.long q4), .second, .val (.int p5), .val (.long lo), .second, .val (.long hi), .second, .val (.long md), .second, .val (.int (p5 &&& (3 : Int32))), .val (.long z92l16), .second, .val (.ref b10), .val (.ref b12), .unset, .unset, .unset, .unset, .unset, .unset, .unset, .unset, .unset] [])) rfl (hb hby at_118) (by decide) (by decide)
    obtain ⟨b20, g20⟩ : ∃ z, z = T16.heap.size := ⟨_, rfl⟩
    rw [← g20] at A20 D20 st20
    refine Gl.st st20 ?_
    have ne_b10_b20 : b10 ≠ b20 := Nat.ne_of_lt (Nat.lt_of_lt_of_le Fq11_0'17.lt (Nat.le_of_eq g20.symm))
    have ne_b12_b20 : b12 ≠ b20 := Nat.ne_of_lt (Nat.lt_of_lt_of_le Fq16_0.lt (Nat.le_of_eq g20.symm))
    have gzb20 : n0 ≤ b20 := Nat.le_trans Z16 (Nat.le_of_eq g20.symm)
    have Z20 : n0 ≤ h20.size := Nat.le_trans Z16 E20.1
    have Fq11_0'21 : Exa Z h20 b10 "com/example/meisai/meisai/Period" := Fq11_0'17.ext E20
    have Fq11_1'22 : Fld Z h20 b10 "com/example/meisai/meisai/Period" "start" "J" (.long lo) := Fq11_1'18.ext E20
    have Fq11_2'23 : Fld Z h20 b10 "com/example/meisai/meisai/Period" "end" "J" (.long md) := Fq11_2'19.ext E20
    have Fq16_0'24 : Exa Z h20 b12 "com/example/meisai/meisai/Period" := Fq16_0.ext E20
    have Fq16_1'25 : Fld Z h20 b12 "com/example/meisai/meisai/Period" "start" "J" (.long md) := Fq16_1.ext E20
    have Fq16_2'26 : Fld Z h20 b12 "com/example/meisai/meisai/Period" "end" "J" (.long hi) := Fq16_2.ext E20
    have F20_start : Fld Z h20 b20 "com/example/meisai/meisai/Period" "start" "J" (.long (0 : Int64)) := D20 (Or.inr (hw _ (List.mem_of_getElem? (i := 22) rfl))) (ty := .long) (by decide)
    have F20_end : Fld Z h20 b20 "com/example/meisai/meisai/Period" "end" "J" (.long (0 : Int64)) := D20 (Or.inr (hw _ (List.mem_of_getElem? (i := 24) rfl))) (ty := .long) (by decide)
    show Gl _ _ _ _ _ _ _ (T20.setTop (mkF m 121 #[.val (.long q1), .second, .val (.long q2), .second, .val (.long q3), .second, .val (.long q4), .second, .val (.int p5), .val (.long lo), .second, .val (.long hi), .second, .val (.long md), .second, .val (.int (p5 &&& (3 : Int32))), .val (.long z92l16), .second, .val (.ref b10), .val (.ref b12), .unset, .unset, .unset, .unset, .unset, .unset, .unset, .unset, .unset] [(.ref b20)]))
    refine Gl.st (fun t k => XS.dup X20.here hx rfl (hb hby at_121) rfl rfl k) ?_
    show Gl _ _ _ _ _ _ _ (T20.setTop (mkF m 122 #[.val (.long q1), .second, .val (.long q2), .second, .val (.long q3), .second, .val (.long q4), .second, .val (.int p5), .val (.long lo), .second, .val (.long hi), .second, .val (.long md), .second, .val (.int (p5 &&& (3 : Int32))), .val (.long z92l16), .second, .val (.ref b10), .val (.ref b12), .unset, .unset, .unset, .unset, .unset, .unset, .unset, .unset, .unset] [(.ref b20), (.ref b20)]))
    refine Gl.st (fun t k => XS.lload X20.here hx rfl (hb hby at_122) rfl  k) ?_
    show Gl _ _ _ _ _ _ _ (T20.setTop (mkF m 124 #[.val (.long q1), .second, .val (.long q2), .second, .val (.long q3), .second, .val (.long q4), .second, .val (.int p5), .val (.long lo), .second, .val (.long hi), .second, .val (.long md), .second, .val (.int (p5 &&& (3 : Int32))), .val (.long z92l16), .second, .val (.ref b10), .val (.ref b12), .unset, .unset, .unset, .unset, .unset, .unset, .unset, .unset, .unset] [(.long lo), (.ref b20), (.ref b20)]))
    refine Gl.st (fun t k => XS.lload X20.here hx rfl (hb hby at_124) rfl  k) ?_
    show Gl _ _ _ _ _ _ _ (T20.setTop (mkF m 126 #[.val (.long q1), .second, .val (.long q2), .second, .val (.long q3), .second, .val (.long q4), .second, .val (.int p5), .val (.long lo), .second, .val (.long hi), .second, .val (.long md), .second, .val (.int (p5 &&& (3 : Int32))), .val (.long z92l16), .second, .val (.ref b10), .val (.ref b12), .unset, .unset, .unset, .unset, .unset, .unset, .unset, .unset, .unset] [(.long hi), (.long lo), (.ref b20), (.ref b20)]))
    obtain ⟨_, _, ⟨T27, L27, k27, n27⟩, -, X27, ⟨Lc27, hQ27, l27, y27, z27⟩, st27⟩ := X20.specialBack hx (y := (⟨"com/example/meisai/meisai/Period", "<init>", "(JJ)V"⟩ : MethodName)) rfl hown (mvT hZ (hw _ (List.mem_of_getElem? (i := 10) rfl))) (mvT hZ (hw _ (List.mem_of_getElem? (i := 11) rfl))) (mvT hZ (hw _ (List.mem_of_getElem? (i := 12) rfl))) (by decide) (backOf (W := 1) (rm3 l Z a0 hw [] b20 lo hi ((.long (0 : Int64))) ((.long (0 : Int64))) h20 n0 Z20 A20 F20_start F20_end gzb20) hZ (hw _ (List.mem_of_getElem? (i := 12) rfl)) (hw _ (List.mem_of_getElem? (i := 9) rfl)) (by decide) (by decide)) (g := (mkF m 126 #[.val (.long q1), .second, .val (.long q2), .second, .val (.long q3), .second, .val (.long q4), .second, .val (.int p5), .val (.long lo), .second, .val (.long hi), .second, .val (.long md), .second, .val (.int (p5 &&& (3 : Int32))), .val (.long z92l16), .second, .val (.ref b10), .val (.ref b12), .unset, .unset, .unset, .unset, .unset, .unset, .unset, .unset, .unset] [(.long hi), (.long lo), (.ref b20), (.ref b20)])) rfl (by rw [hml]; rfl) (Steps.refl _) (a := b20) (argsL := [(.long lo), (.long hi)]) (rest := [(.ref b20)]) (lenOf pd_2 rfl) rfl (by show 2 * 0 + _ ≤ _; exact Nat.le_of_eq rfl) (hb hby at_126) (fun _ _ => ⟨rfl, e20, (by decide : 3 + 0 ≤ _), (by decide : 6 + 0 ≤ _)⟩)
    dsimp only [Pt.U, Pt.locs, Pt.cells, Pt.slots] at X27 l27 y27 z27 st27 hQ27
    subst l27 y27 z27
    obtain ⟨rfl, N27q, Kq27, Fq27_0, Fq27_1, Fq27_2⟩ := hQ27
    have N27 := Fr.app N16 N27q
    have Z27 : n0 ≤ T27.heap.size := Nat.le_trans Z20 Kq27.1
    have Fq11_0'28 : Exa Z T27.heap b10 "com/example/meisai/meisai/Period" := Fq11_0'21.keep Kq27
    have Fq11_1'29 : Fld Z T27.heap b10 "com/example/meisai/meisai/Period" "start" "J" (.long lo) := Fq11_1'22.keep Kq27 (ninS ne_b10_b20 nin0)
    have Fq11_2'30 : Fld Z T27.heap b10 "com/example/meisai/meisai/Period" "end" "J" (.long md) := Fq11_2'23.keep Kq27 (ninS ne_b10_b20 nin0)
    have Fq16_0'31 : Exa Z T27.heap b12 "com/example/meisai/meisai/Period" := Fq16_0'24.keep Kq27
    have Fq16_1'32 : Fld Z T27.heap b12 "com/example/meisai/meisai/Period" "start" "J" (.long md) := Fq16_1'25.keep Kq27 (ninS ne_b12_b20 nin0)
    have Fq16_2'33 : Fld Z T27.heap b12 "com/example/meisai/meisai/Period" "end" "J" (.long hi) := Fq16_2'26.keep Kq27 (ninS ne_b12_b20 nin0)
    refine Gl.to st27 ?_
    show Gl _ _ _ _ _ _ _ (T27.setTop (mkF m 129 #[.val (.long q1), .second, .val (.long q2), .second, .val (.long q3), .second, .val (.long q4), .second, .val (.int p5), .val (.long lo), .second, .val (.long hi), .second, .val (.long md), .second, .val (.int (p5 &&& (3 : Int32))), .val (.long z92l16), .second, .val (.ref b10), .val (.ref b12), .unset, .unset, .unset, .unset, .unset, .unset, .unset, .unset, .unset] [(.ref b20)]))
    refine Gl.st (fun t k => XS.astore X27.here hx rfl (hb hby at_129) rfl rfl (l' := #[.val (.long q1), .second, .val (.long q2), .second, .val (.long q3), .second, .val (.long q4), .second, .val (.int p5), .val (.long lo), .second, .val (.long hi), .second, .val (.long md), .second, .val (.int (p5 &&& (3 : Int32))), .val (.long z92l16), .second, .val (.ref b10), .val (.ref b12), .val (.ref b20), .unset, .unset, .unset, .unset, .unset, .unset, .unset, .unset]) rfl k) ?_
    show Gl _ _ _ _ _ _ _ (T27.setTop (mkF m 131 #[.val (.long q1), .second, .val (.long q2), .second, .val (.long q3), .second, .val (.long q4), .second, .val (.int p5), .val (.long lo), .second, .val (.long hi), .second, .val (.long md), .second, .val (.int (p5 &&& (3 : Int32))), .val (.long z92l16), .second, .val (.ref b10), .val (.ref b12), .val (.ref b20), .unset, .unset, .unset, .unset, .unset, .unset, .unset, .unset] []))
    refine Gl.st (fun t k => XS.aload X27.here hx rfl (hb hby at_131) rfl rfl k) ?_
    show Gl _ _ _ _ _ _ _ (T27.setTop (mkF m 133 #[.val (.long q1), .second, .val (.long q2), .second, .val (.long q3), .second, .val (.long q4), .second, .val (.int p5), .val (.long lo), .second, .val (.long hi), .second, .val (.long md), .second, .val (.int (p5 &&& (3 : Int32))), .val (.long z92l16), .second, .val (.ref b10), .val (.ref b12), .val (.ref b20), .unset, .unset, .unset, .unset, .unset, .unset, .unset, .unset] [(.ref b10)]))
    refine Gl.st (fun t k => XS.lload X27.here hx rfl (hb hby at_133) rfl  k) ?_
    show Gl _ _ _ _ _ _ _ (T27.setTop (mkF m 135 #[.val (.long q1), .second, .val (.long q2), .second, .val (.long q3), .second, .val (.long q4), .second, .val (.int p5), .val (.long lo), .second, .val (.long hi), .second, .val (.long md), .second, .val (.int (p5 &&& (3 : Int32))), .val (.long z92l16), .second, .val (.ref b10), .val (.ref b12), .val (.ref b20), .unset, .unset, .unset, .unset, .unset, .unset, .unset, .unset] [(.long z92l16), (.ref b10)]))
    obtain ⟨cq34, kq34, qa34, qb34, qc34⟩ := isOf hZ rfl Fq11_0'28
    obtain ⟨_, _, ⟨T34, L34, k34, n34⟩, -, X34, ⟨Lc34, hQ34, l34, y34, z34⟩, st34⟩ := X27.virtualBack hx (y := (⟨"com/example/meisai/meisai/Period", "holds", "(J)Z"⟩ : MethodName)) (z := (⟨"com/example/meisai/meisai/Period", "holds", "(J)Z"⟩ : MethodName)) hown (mvT hZ (hw _ (List.mem_of_getElem? (i := 25) rfl))) (mvT hZ (hw _ (List.mem_of_getElem? (i := 26) rfl))) (notFace_of_selects (args := #[]) (mvT hZ (hw _ (List.mem_of_getElem? (i := 28) rfl)))) (mvT hZ (hw _ (List.mem_of_getElem? (i := 28) rfl))) (mvT hZ (hw _ (List.mem_of_getElem? (i := 27) rfl))) (by decide) (backOf (W := 0) (rm6 l Z a0 hw [] b10 z92l16 (lo) (md) T27.heap n0  Fq11_1'29 Fq11_2'30) hZ (hw _ (List.mem_of_getElem? (i := 29) rfl)) (hw _ (List.mem_of_getElem? (i := 9) rfl)) (by decide) (by decide)) qa34 qc34 (g := (mkF m 135 #[.val (.long q1), .second, .val (.long q2), .second, .val (.long q3), .second, .val (.long q4), .second, .val (.int p5), .val (.long lo), .second, .val (.long hi), .second, .val (.long md), .second, .val (.int (p5 &&& (3 : Int32))), .val (.long z92l16), .second, .val (.ref b10), .val (.ref b12), .val (.ref b20), .unset, .unset, .unset, .unset, .unset, .unset, .unset, .unset] [(.long z92l16), (.ref b10)])) rfl (by rw [hml]; rfl) (Steps.refl _) (argsL := [(.long z92l16)]) (rest := []) (lenOf pd_3 rfl) rfl (by show 2 * 0 + _ ≤ _; exact Nat.le_of_eq rfl) (hb hby at_135) (fun _ _ => ⟨rfl, rfl, (by decide : 3 + 0 ≤ _), (by decide : 6 + 0 ≤ _)⟩)
    dsimp only [Pt.U, Pt.locs, Pt.cells, Pt.slots] at X34 l34 y34 z34 st34 hQ34
    subst l34 y34 z34
    obtain ⟨rfl, N34q, e34⟩ := hQ34
    have N34 := Fr.app N27 N34q
    refine Gl.to st34 ?_
    show Gl _ _ _ _ _ _ _ (T34.setTop (mkF m 138 #[.val (.long q1), .second, .val (.long q2), .second, .val (.long q3), .second, .val (.long q4), .second, .val (.int p5), .val (.long lo), .second, .val (.long hi), .second, .val (.long md), .second, .val (.int (p5 &&& (3 : Int32))), .val (.long z92l16), .second, .val (.ref b10), .val (.ref b12), .val (.ref b20), .unset, .unset, .unset, .unset, .unset, .unset, .unset, .unset] [(.int (own_holds z92l16 lo md))]))
    refine Gl.st (fun t k => XS.istore X34.here hx rfl (hb hby at_138) rfl (l' := #[.val (.long q1), .second, .val (.long q2), .second, .val (.long q3), .second, .val (.long q4), .second, .val (.int p5), .val (.long lo), .second, .val (.long hi), .second, .val (.long md), .second, .val (.int (p5 &&& (3 : Int32))), .val (.long z92l16), .second, .val (.ref b10), .val (.ref b12), .val (.ref b20), .val (.int (own_holds z92l16 lo md)), .unset, .unset, .unset, .unset, .unset, .unset, .unset]) rfl k) ?_
    show Gl _ _ _ _ _ _ _ (T34.setTop (mkF m 140 #[.val (.long q1), .second, .val (.long q2), .second, .val (.long q3), .second, .val (.long q4), .second, .val (.int p5), .val (.long lo), .second, .val (.long hi), .second, .val (.long md), .second, .val (.int (p5 &&& (3 : Int32))), .val (.long z92l16), .second, .val (.ref b10), .val (.ref b12), .val (.ref b20), .val (.int (own_holds z92l16 lo md)), .unset, .unset, .unset, .unset, .unset, .unset, .unset] []))
    refine Gl.st (fun t k => XS.aload X34.here hx rfl (hb hby at_140) rfl rfl k) ?_
    show Gl _ _ _ _ _ _ _ (T34.setTop (mkF m 142 #[.val (.long q1), .second, .val (.long q2), .second, .val (.long q3), .second, .val (.long q4), .second, .val (.int p5), .val (.long lo), .second, .val (.long hi), .second, .val (.long md), .second, .val (.int (p5 &&& (3 : Int32))), .val (.long z92l16), .second, .val (.ref b10), .val (.ref b12), .val (.ref b20), .val (.int (own_holds z92l16 lo md)), .unset, .unset, .unset, .unset, .unset, .unset, .unset] [(.ref b12)]))
    refine Gl.st (fun t k => XS.lload X34.here hx rfl (hb hby at_142) rfl  k) ?_
    show Gl _ _ _ _ _ _ _ (T34.setTop (mkF m 144 #[.val (.long q1), .second, .val (.long q2), .second, .val (.long q3), .second, .val (.long q4), .second, .val (.int p5), .val (.long lo), .second, .val (.long hi), .second, .val (.long md), .second, .val (.int (p5 &&& (3 : Int32))), .val (.long z92l16), .second, .val (.ref b10), .val (.ref b12), .val (.ref b20), .val (.int (own_holds z92l16 lo md)), .unset, .unset, .unset, .unset, .unset, .unset, .unset] [(.long z92l16), (.ref b12)]))
    obtain ⟨cq35, kq35, qa35, qb35, qc35⟩ := isOf hZ e34 Fq16_0'31
    obtain ⟨_, _, ⟨T35, L35, k35, n35⟩, -, X35, ⟨Lc35, hQ35, l35, y35, z35⟩, st35⟩ := X34.virtualBack hx (y := (⟨"com/example/meisai/meisai/Period", "holds", "(J)Z"⟩ : MethodName)) (z := (⟨"com/example/meisai/meisai/Period", "holds", "(J)Z"⟩ : MethodName)) hown (mvT hZ (hw _ (List.mem_of_getElem? (i := 25) rfl))) (mvT hZ (hw _ (List.mem_of_getElem? (i := 26) rfl))) (notFace_of_selects (args := #[]) (mvT hZ (hw _ (List.mem_of_getElem? (i := 28) rfl)))) (mvT hZ (hw _ (List.mem_of_getElem? (i := 28) rfl))) (mvT hZ (hw _ (List.mem_of_getElem? (i := 27) rfl))) (by decide) (backOf (W := 0) (rm6 l Z a0 hw [] b12 z92l16 (md) (hi) T27.heap n0  Fq16_1'32 Fq16_2'33) hZ (hw _ (List.mem_of_getElem? (i := 29) rfl)) (hw _ (List.mem_of_getElem? (i := 9) rfl)) (by decide) (by decide)) qa35 qc35 (g := (mkF m 144 #[.val (.long q1), .second, .val (.long q2), .second, .val (.long q3), .second, .val (.long q4), .second, .val (.int p5), .val (.long lo), .second, .val (.long hi), .second, .val (.long md), .second, .val (.int (p5 &&& (3 : Int32))), .val (.long z92l16), .second, .val (.ref b10), .val (.ref b12), .val (.ref b20), .val (.int (own_holds z92l16 lo md)), .unset, .unset, .unset, .unset, .unset, .unset, .unset] [(.long z92l16), (.ref b12)])) rfl (by rw [hml]; rfl) (Steps.refl _) (argsL := [(.long z92l16)]) (rest := []) (lenOf pd_3 rfl) rfl (by show 2 * 0 + _ ≤ _; exact Nat.le_of_eq rfl) (hb hby at_144) (fun _ _ => ⟨rfl, e34, (by decide : 3 + 0 ≤ _), (by decide : 6 + 0 ≤ _)⟩)
    dsimp only [Pt.U, Pt.locs, Pt.cells, Pt.slots] at X35 l35 y35 z35 st35 hQ35
    subst l35 y35 z35
    obtain ⟨rfl, N35q, e35⟩ := hQ35
    have N35 := Fr.app N34 N35q
    refine Gl.to st35 ?_
    show Gl _ _ _ _ _ _ _ (T35.setTop (mkF m 147 #[.val (.long q1), .second, .val (.long q2), .second, .val (.long q3), .second, .val (.long q4), .second, .val (.int p5), .val (.long lo), .second, .val (.long hi), .second, .val (.long md), .second, .val (.int (p5 &&& (3 : Int32))), .val (.long z92l16), .second, .val (.ref b10), .val (.ref b12), .val (.ref b20), .val (.int (own_holds z92l16 lo md)), .unset, .unset, .unset, .unset, .unset, .unset, .unset] [(.int (own_holds z92l16 md hi))]))
    refine Gl.st (fun t k => XS.istore X35.here hx rfl (hb hby at_147) rfl (l' := #[.val (.long q1), .second, .val (.long q2), .second, .val (.long q3), .second, .val (.long q4), .second, .val (.int p5), .val (.long lo), .second, .val (.long hi), .second, .val (.long md), .second, .val (.int (p5 &&& (3 : Int32))), .val (.long z92l16), .second, .val (.ref b10), .val (.ref b12), .val (.ref b20), .val (.int (own_holds z92l16 lo md)), .val (.int (own_holds z92l16 md hi)), .unset, .unset, .unset, .unset, .unset, .unset]) rfl k) ?_
    show Gl _ _ _ _ _ _ _ (T35.setTop (mkF m 149 #[.val (.long q1), .second, .val (.long q2), .second, .val (.long q3), .second, .val (.long q4), .second, .val (.int p5), .val (.long lo), .second, .val (.long hi), .second, .val (.long md), .second, .val (.int (p5 &&& (3 : Int32))), .val (.long z92l16), .second, .val (.ref b10), .val (.ref b12), .val (.ref b20), .val (.int (own_holds z92l16 lo md)), .val (.int (own_holds z92l16 md hi)), .unset, .unset, .unset, .unset, .unset, .unset] []))
    refine Gl.st (fun t k => XS.aload X35.here hx rfl (hb hby at_149) rfl rfl k) ?_
    show Gl _ _ _ _ _ _ _ (T35.setTop (mkF m 151 #[.val (.long q1), .second, .val (.long q2), .second, .val (.long q3), .second, .val (.long q4), .second, .val (.int p5), .val (.long lo), .second, .val (.long hi), .second, .val (.long md), .second, .val (.int (p5 &&& (3 : Int32))), .val (.long z92l16), .second, .val (.ref b10), .val (.ref b12), .val (.ref b20), .val (.int (own_holds z92l16 lo md)), .val (.int (own_holds z92l16 md hi)), .unset, .unset, .unset, .unset, .unset, .unset] [(.ref b20)]))
    refine Gl.st (fun t k => XS.lload X35.here hx rfl (hb hby at_151) rfl  k) ?_
    show Gl _ _ _ _ _ _ _ (T35.setTop (mkF m 153 #[.val (.long q1), .second, .val (.long q2), .second, .val (.long q3), .second, .val (.long q4), .second, .val (.int p5), .val (.long lo), .second, .val (.long hi), .second, .val (.long md), .second, .val (.int (p5 &&& (3 : Int32))), .val (.long z92l16), .second, .val (.ref b10), .val (.ref b12), .val (.ref b20), .val (.int (own_holds z92l16 lo md)), .val (.int (own_holds z92l16 md hi)), .unset, .unset, .unset, .unset, .unset, .unset] [(.long z92l16), (.ref b20)]))
    obtain ⟨cq36, kq36, qa36, qb36, qc36⟩ := isOf hZ e35 Fq27_0
    obtain ⟨_, _, ⟨T36, L36, k36, n36⟩, -, X36, ⟨Lc36, hQ36, l36, y36, z36⟩, st36⟩ := X35.virtualBack hx (y := (⟨"com/example/meisai/meisai/Period", "holds", "(J)Z"⟩ : MethodName)) (z := (⟨"com/example/meisai/meisai/Period", "holds", "(J)Z"⟩ : MethodName)) hown (mvT hZ (hw _ (List.mem_of_getElem? (i := 25) rfl))) (mvT hZ (hw _ (List.mem_of_getElem? (i := 26) rfl))) (notFace_of_selects (args := #[]) (mvT hZ (hw _ (List.mem_of_getElem? (i := 28) rfl)))) (mvT hZ (hw _ (List.mem_of_getElem? (i := 28) rfl))) (mvT hZ (hw _ (List.mem_of_getElem? (i := 27) rfl))) (by decide) (backOf (W := 0) (rm6 l Z a0 hw [] b20 z92l16 (lo) (hi) T27.heap n0  Fq27_1 Fq27_2) hZ (hw _ (List.mem_of_getElem? (i := 29) rfl)) (hw _ (List.mem_of_getElem? (i := 9) rfl)) (by decide) (by decide)) qa36 qc36 (g := (mkF m 153 #[.val (.long q1), .second, .val (.long q2), .second, .val (.long q3), .second, .val (.long q4), .second, .val (.int p5), .val (.long lo), .second, .val (.long hi), .second, .val (.long md), .second, .val (.int (p5 &&& (3 : Int32))), .val (.long z92l16), .second, .val (.ref b10), .val (.ref b12), .val (.ref b20), .val (.int (own_holds z92l16 lo md)), .val (.int (own_holds z92l16 md hi)), .unset, .unset, .unset, .unset, .unset, .unset] [(.long z92l16), (.ref b20)])) rfl (by rw [hml]; rfl) (Steps.refl _) (argsL := [(.long z92l16)]) (rest := []) (lenOf pd_3 rfl) rfl (by show 2 * 0 + _ ≤ _; exact Nat.le_of_eq rfl) (hb hby at_153) (fun _ _ => ⟨rfl, e35, (by decide : 3 + 0 ≤ _), (by decide : 6 + 0 ≤ _)⟩)
    dsimp only [Pt.U, Pt.locs, Pt.cells, Pt.slots] at X36 l36 y36 z36 st36 hQ36
    subst l36 y36 z36
    obtain ⟨rfl, N36q, e36⟩ := hQ36
    have N36 := Fr.app N35 N36q
    refine Gl.to st36 ?_
    show Gl _ _ _ _ _ _ _ (T36.setTop (mkF m 156 #[.val (.long q1), .second, .val (.long q2), .second, .val (.long q3), .second, .val (.long q4), .second, .val (.int p5), .val (.long lo), .second, .val (.long hi), .second, .val (.long md), .second, .val (.int (p5 &&& (3 : Int32))), .val (.long z92l16), .second, .val (.ref b10), .val (.ref b12), .val (.ref b20), .val (.int (own_holds z92l16 lo md)), .val (.int (own_holds z92l16 md hi)), .unset, .unset, .unset, .unset, .unset, .unset] [(.int (own_holds z92l16 lo hi))]))
    refine Gl.st (fun t k => XS.istore X36.here hx rfl (hb hby at_156) rfl (l' := #[.val (.long q1), .second, .val (.long q2), .second, .val (.long q3), .second, .val (.long q4), .second, .val (.int p5), .val (.long lo), .second, .val (.long hi), .second, .val (.long md), .second, .val (.int (p5 &&& (3 : Int32))), .val (.long z92l16), .second, .val (.ref b10), .val (.ref b12), .val (.ref b20), .val (.int (own_holds z92l16 lo md)), .val (.int (own_holds z92l16 md hi)), .val (.int (own_holds z92l16 lo hi)), .unset, .unset, .unset, .unset, .unset]) rfl k) ?_
    show Gl _ _ _ _ _ _ _ (T36.setTop (mkF m 158 #[.val (.long q1), .second, .val (.long q2), .second, .val (.long q3), .second, .val (.long q4), .second, .val (.int p5), .val (.long lo), .second, .val (.long hi), .second, .val (.long md), .second, .val (.int (p5 &&& (3 : Int32))), .val (.long z92l16), .second, .val (.ref b10), .val (.ref b12), .val (.ref b20), .val (.int (own_holds z92l16 lo md)), .val (.int (own_holds z92l16 md hi)), .val (.int (own_holds z92l16 lo hi)), .unset, .unset, .unset, .unset, .unset] []))
    refine Gl.st (fun t k => XS.iload X36.here hx rfl (hb hby at_158) rfl  k) ?_
    show Gl _ _ _ _ _ _ _ (T36.setTop (mkF m 160 #[.val (.long q1), .second, .val (.long q2), .second, .val (.long q3), .second, .val (.long q4), .second, .val (.int p5), .val (.long lo), .second, .val (.long hi), .second, .val (.long md), .second, .val (.int (p5 &&& (3 : Int32))), .val (.long z92l16), .second, .val (.ref b10), .val (.ref b12), .val (.ref b20), .val (.int (own_holds z92l16 lo md)), .val (.int (own_holds z92l16 md hi)), .val (.int (own_holds z92l16 lo hi)), .unset, .unset, .unset, .unset, .unset] [(.int (own_holds z92l16 lo hi))]))
    refine Gl.st (fun t k => XS.iload X36.here hx rfl (hb hby at_160) rfl  k) ?_
    show Gl _ _ _ _ _ _ _ (T36.setTop (mkF m 162 #[.val (.long q1), .second, .val (.long q2), .second, .val (.long q3), .second, .val (.long q4), .second, .val (.int p5), .val (.long lo), .second, .val (.long hi), .second, .val (.long md), .second, .val (.int (p5 &&& (3 : Int32))), .val (.long z92l16), .second, .val (.ref b10), .val (.ref b12), .val (.ref b20), .val (.int (own_holds z92l16 lo md)), .val (.int (own_holds z92l16 md hi)), .val (.int (own_holds z92l16 lo hi)), .unset, .unset, .unset, .unset, .unset] [(.int (own_holds z92l16 lo md)), (.int (own_holds z92l16 lo hi))]))
    have J37 : ∀ (Tj37 : State) (Lj37 : List Loc) (Xj37 : Stand p l e room_1 s m #[(.long q1), (.long q2), (.long q3), (.long q4), (.int p5)] below meth c Tj37 Lj37 3 6) (ej37 : Tj37.heap = T27.heap) (Nj37 : Fr n0 Lj37) (z175s1 : Int32) (hz175s1 : z175s1 = (if (own_holds z92l16 lo md) = (0 : Int32) then (if (own_holds z92l16 md hi) = (0 : Int32) then (0 : Int32) else (1 : Int32)) else (1 : Int32))), Gl p e below s (Q0 Z q1 q2 q3 q4 p5 h0 n0) room_1.cells room_1.slots (Tj37.setTop (mkF m 175 #[.val (.long q1), .second, .val (.long q2), .second, .val (.long q3), .second, .val (.long q4), .second, .val (.int p5), .val (.long lo), .second, .val (.long hi), .second, .val (.long md), .second, .val (.int (p5 &&& (3 : Int32))), .val (.long z92l16), .second, .val (.ref b10), .val (.ref b12), .val (.ref b20), .val (.int (own_holds z92l16 lo md)), .val (.int (own_holds z92l16 md hi)), .val (.int (own_holds z92l16 lo hi)), .unset, .unset, .unset, .unset, .unset] [(.int z175s1), (.int (own_holds z92l16 lo hi))])) := by
      intro Tj37 Lj37 Xj37 ej37 Nj37 z175s1 hz175s1
      show Gl _ _ _ _ _ _ _ (Tj37.setTop (mkF m 175 #[.val (.long q1), .second, .val (.long q2), .second, .val (.long q3), .second, .val (.long q4), .second, .val (.int p5), .val (.long lo), .second, .val (.long hi), .second, .val (.long md), .second, .val (.int (p5 &&& (3 : Int32))), .val (.long z92l16), .second, .val (.ref b10), .val (.ref b12), .val (.ref b20), .val (.int (own_holds z92l16 lo md)), .val (.int (own_holds z92l16 md hi)), .val (.int (own_holds z92l16 lo hi)), .unset, .unset, .unset, .unset, .unset] [(.int z175s1), (.int (own_holds z92l16 lo hi))]))
      have hc175_38 : (own_holds z92l16 lo hi) = z175s1 := by rw [hz175s1]; exact own_l1 _ _ _ _ hord.1 hord.2
      refine Gl.st (fun t k => XS.icmpNo Xj37.here hx rfl (hb hby at_175) rfl (teq hc175_38).2 k) ?_
      show Gl _ _ _ _ _ _ _ (Tj37.setTop (mkF m 178 #[.val (.long q1), .second, .val (.long q2), .second, .val (.long q3), .second, .val (.long q4), .second, .val (.int p5), .val (.long lo), .second, .val (.long hi), .second, .val (.long md), .second, .val (.int (p5 &&& (3 : Int32))), .val (.long z92l16), .second, .val (.ref b10), .val (.ref b12), .val (.ref b20), .val (.int (own_holds z92l16 lo md)), .val (.int (own_holds z92l16 md hi)), .val (.int (own_holds z92l16 lo hi)), .unset, .unset, .unset, .unset, .unset] []))
      refine Gl.st (fun t k => XS.iload Xj37.here hx rfl (hb hby at_178) rfl  k) ?_
      show Gl _ _ _ _ _ _ _ (Tj37.setTop (mkF m 180 #[.val (.long q1), .second, .val (.long q2), .second, .val (.long q3), .second, .val (.long q4), .second, .val (.int p5), .val (.long lo), .second, .val (.long hi), .second, .val (.long md), .second, .val (.int (p5 &&& (3 : Int32))), .val (.long z92l16), .second, .val (.ref b10), .val (.ref b12), .val (.ref b20), .val (.int (own_holds z92l16 lo md)), .val (.int (own_holds z92l16 md hi)), .val (.int (own_holds z92l16 lo hi)), .unset, .unset, .unset, .unset, .unset] [(.int (own_holds z92l16 lo md))]))
      have J39 : ∀ (Tj39 : State) (Lj39 : List Loc) (Xj39 : Stand p l e room_1 s m #[(.long q1), (.long q2), (.long q3), (.long q4), (.int p5)] below meth c Tj39 Lj39 3 6) (ej39 : Tj39.heap = T27.heap) (Nj39 : Fr n0 Lj39) (z193s0 : Int32) (hz193s0 : z193s0 = (if (own_holds z92l16 lo md) = (0 : Int32) then (1 : Int32) else (if (own_holds z92l16 md hi) = (0 : Int32) then (1 : Int32) else (0 : Int32)))), Gl p e below s (Q0 Z q1 q2 q3 q4 p5 h0 n0) room_1.cells room_1.slots (Tj39.setTop (mkF m 193 #[.val (.long q1), .second, .val (.long q2), .second, .val (.long q3), .second, .val (.long q4), .second, .val (.int p5), .val (.long lo), .second, .val (.long hi), .second, .val (.long md), .second, .val (.int (p5 &&& (3 : Int32))), .val (.long z92l16), .second, .val (.ref b10), .val (.ref b12), .val (.ref b20), .val (.int (own_holds z92l16 lo md)), .val (.int (own_holds z92l16 md hi)), .val (.int (own_holds z92l16 lo hi)), .unset, .unset, .unset, .unset, .unset] [(.int z193s0)])) := by
        intro Tj39 Lj39 Xj39 ej39 Nj39 z193s0 hz193s0
        show Gl _ _ _ _ _ _ _ (Tj39.setTop (mkF m 193 #[.val (.long q1), .second, .val (.long q2), .second, .val (.long q3), .second, .val (.long q4), .second, .val (.int p5), .val (.long lo), .second, .val (.long hi), .second, .val (.long md), .second, .val (.int (p5 &&& (3 : Int32))), .val (.long z92l16), .second, .val (.ref b10), .val (.ref b12), .val (.ref b20), .val (.int (own_holds z92l16 lo md)), .val (.int (own_holds z92l16 md hi)), .val (.int (own_holds z92l16 lo hi)), .unset, .unset, .unset, .unset, .unset] [(.int z193s0)]))
        refine Gl.st (fun t k => XS.istore Xj39.here hx rfl (hb hby at_193) rfl (l' := #[.val (.long q1), .second, .val (.long q2), .second, .val (.long q3), .second, .val (.long q4), .second, .val (.int p5), .val (.long lo), .second, .val (.long hi), .second, .val (.long md), .second, .val (.int (p5 &&& (3 : Int32))), .val (.long z92l16), .second, .val (.ref b10), .val (.ref b12), .val (.ref b20), .val (.int (own_holds z92l16 lo md)), .val (.int (own_holds z92l16 md hi)), .val (.int (own_holds z92l16 lo hi)), .val (.int z193s0), .unset, .unset, .unset, .unset]) rfl k) ?_
        show Gl _ _ _ _ _ _ _ (Tj39.setTop (mkF m 195 #[.val (.long q1), .second, .val (.long q2), .second, .val (.long q3), .second, .val (.long q4), .second, .val (.int p5), .val (.long lo), .second, .val (.long hi), .second, .val (.long md), .second, .val (.int (p5 &&& (3 : Int32))), .val (.long z92l16), .second, .val (.ref b10), .val (.ref b12), .val (.ref b20), .val (.int (own_holds z92l16 lo md)), .val (.int (own_holds z92l16 md hi)), .val (.int (own_holds z92l16 lo hi)), .val (.int z193s0), .unset, .unset, .unset, .unset] []))
        refine Gl.st (fun t k => XS.aload Xj39.here hx rfl (hb hby at_195) rfl rfl k) ?_
        show Gl _ _ _ _ _ _ _ (Tj39.setTop (mkF m 197 #[.val (.long q1), .second, .val (.long q2), .second, .val (.long q3), .second, .val (.long q4), .second, .val (.int p5), .val (.long lo), .second, .val (.long hi), .second, .val (.long md), .second, .val (.int (p5 &&& (3 : Int32))), .val (.long z92l16), .second, .val (.ref b10), .val (.ref b12), .val (.ref b20), .val (.int (own_holds z92l16 lo md)), .val (.int (own_holds z92l16 md hi)), .val (.int (own_holds z92l16 lo hi)), .val (.int z193s0), .unset, .unset, .unset, .unset] [(.ref b10)]))
        refine Gl.st (fun t k => XS.lload Xj39.here hx rfl (hb hby at_197) rfl  k) ?_
        show Gl _ _ _ _ _ _ _ (Tj39.setTop (mkF m 199 #[.val (.long q1), .second, .val (.long q2), .second, .val (.long q3), .second, .val (.long q4), .second, .val (.int p5), .val (.long lo), .second, .val (.long hi), .second, .val (.long md), .second, .val (.int (p5 &&& (3 : Int32))), .val (.long z92l16), .second, .val (.ref b10), .val (.ref b12), .val (.ref b20), .val (.int (own_holds z92l16 lo md)), .val (.int (own_holds z92l16 md hi)), .val (.int (own_holds z92l16 lo hi)), .val (.int z193s0), .unset, .unset, .unset, .unset] [(.long lo), (.ref b10)]))
        obtain ⟨cq40, kq40, qa40, qb40, qc40⟩ := isOf hZ ej39 Fq11_0'28
        obtain ⟨_, _, ⟨T40, L40, k40, n40⟩, -, X40, ⟨Lc40, hQ40, l40, y40, z40⟩, st40⟩ := Xj39.virtualBack hx (y := (⟨"com/example/meisai/meisai/Period", "holds", "(J)Z"⟩ : MethodName)) (z := (⟨"com/example/meisai/meisai/Period", "holds", "(J)Z"⟩ : MethodName)) hown (mvT hZ (hw _ (List.mem_of_getElem? (i := 25) rfl))) (mvT hZ (hw _ (List.mem_of_getElem? (i := 26) rfl))) (notFace_of_selects (args := #[]) (mvT hZ (hw _ (List.mem_of_getElem? (i := 28) rfl)))) (mvT hZ (hw _ (List.mem_of_getElem? (i := 28) rfl))) (mvT hZ (hw _ (List.mem_of_getElem? (i := 27) rfl))) (by decide) (backOf (W := 0) (rm6 l Z a0 hw [] b10 lo (lo) (md) T27.heap n0  Fq11_1'29 Fq11_2'30) hZ (hw _ (List.mem_of_getElem? (i := 29) rfl)) (hw _ (List.mem_of_getElem? (i := 9) rfl)) (by decide) (by decide)) qa40 qc40 (g := (mkF m 199 #[.val (.long q1), .second, .val (.long q2), .second, .val (.long q3), .second, .val (.long q4), .second, .val (.int p5), .val (.long lo), .second, .val (.long hi), .second, .val (.long md), .second, .val (.int (p5 &&& (3 : Int32))), .val (.long z92l16), .second, .val (.ref b10), .val (.ref b12), .val (.ref b20), .val (.int (own_holds z92l16 lo md)), .val (.int (own_holds z92l16 md hi)), .val (.int (own_holds z92l16 lo hi)), .val (.int z193s0), .unset, .unset, .unset, .unset] [(.long lo), (.ref b10)])) rfl (by rw [hml]; rfl) (Steps.refl _) (argsL := [(.long lo)]) (rest := []) (lenOf pd_3 rfl) rfl (by show 2 * 0 + _ ≤ _; exact Nat.le_of_eq rfl) (hb hby at_199) (fun _ _ => ⟨rfl, ej39, (by decide : 3 + 0 ≤ _), (by decide : 6 + 0 ≤ _)⟩)
        dsimp only [Pt.U, Pt.locs, Pt.cells, Pt.slots] at X40 l40 y40 z40 st40 hQ40
        subst l40 y40 z40
        obtain ⟨rfl, N40q, e40⟩ := hQ40
        have N40 := Fr.app Nj39 N40q
        refine Gl.to st40 ?_
        show Gl _ _ _ _ _ _ _ (T40.setTop (mkF m 202 #[.val (.long q1), .second, .val (.long q2), .second, .val (.long q3), .second, .val (.long q4), .second, .val (.int p5), .val (.long lo), .second, .val (.long hi), .second, .val (.long md), .second, .val (.int (p5 &&& (3 : Int32))), .val (.long z92l16), .second, .val (.ref b10), .val (.ref b12), .val (.ref b20), .val (.int (own_holds z92l16 lo md)), .val (.int (own_holds z92l16 md hi)), .val (.int (own_holds z92l16 lo hi)), .val (.int z193s0), .unset, .unset, .unset, .unset] [(.int (own_holds lo lo md))]))
        refine Gl.st (fun t k => XS.lload X40.here hx rfl (hb hby at_202) rfl  k) ?_
        show Gl _ _ _ _ _ _ _ (T40.setTop (mkF m 204 #[.val (.long q1), .second, .val (.long q2), .second, .val (.long q3), .second, .val (.long q4), .second, .val (.int p5), .val (.long lo), .second, .val (.long hi), .second, .val (.long md), .second, .val (.int (p5 &&& (3 : Int32))), .val (.long z92l16), .second, .val (.ref b10), .val (.ref b12), .val (.ref b20), .val (.int (own_holds z92l16 lo md)), .val (.int (own_holds z92l16 md hi)), .val (.int (own_holds z92l16 lo hi)), .val (.int z193s0), .unset, .unset, .unset, .unset] [(.long lo), (.int (own_holds lo lo md))]))
        refine Gl.st (fun t k => XS.lload X40.here hx rfl (hb hby at_204) rfl  k) ?_
        show Gl _ _ _ _ _ _ _ (T40.setTop (mkF m 206 #[.val (.long q1), .second, .val (.long q2), .second, .val (.long q3), .second, .val (.long q4), .second, .val (.int p5), .val (.long lo), .second, .val (.long hi), .second, .val (.long md), .second, .val (.int (p5 &&& (3 : Int32))), .val (.long z92l16), .second, .val (.ref b10), .val (.ref b12), .val (.ref b20), .val (.int (own_holds z92l16 lo md)), .val (.int (own_holds z92l16 md hi)), .val (.int (own_holds z92l16 lo hi)), .val (.int z193s0), .unset, .unset, .unset, .unset] [(.long md), (.long lo), (.int (own_holds lo lo md))]))
        refine Gl.st (fun t k => XS.lcmp X40.here hx rfl (hb hby at_206) rfl k) ?_
        show Gl _ _ _ _ _ _ _ (T40.setTop (mkF m 207 #[.val (.long q1), .second, .val (.long q2), .second, .val (.long q3), .second, .val (.long q4), .second, .val (.int p5), .val (.long lo), .second, .val (.long hi), .second, .val (.long md), .second, .val (.int (p5 &&& (3 : Int32))), .val (.long z92l16), .second, .val (.ref b10), .val (.ref b12), .val (.ref b20), .val (.int (own_holds z92l16 lo md)), .val (.int (own_holds z92l16 md hi)), .val (.int (own_holds z92l16 lo hi)), .val (.int z193s0), .unset, .unset, .unset, .unset] [(.int (lcmpW lo md)), (.int (own_holds lo lo md))]))
        have J41 : ∀ (Tj41 : State) (Lj41 : List Loc) (Xj41 : Stand p l e room_1 s m #[(.long q1), (.long q2), (.long q3), (.long q4), (.int p5)] below meth c Tj41 Lj41 3 6) (ej41 : Tj41.heap = T27.heap) (Nj41 : Fr n0 Lj41) (z215s1 : Int32) (hz215s1 : z215s1 = (if lo < md then (1 : Int32) else (0 : Int32))), Gl p e below s (Q0 Z q1 q2 q3 q4 p5 h0 n0) room_1.cells room_1.slots (Tj41.setTop (mkF m 215 #[.val (.long q1), .second, .val (.long q2), .second, .val (.long q3), .second, .val (.long q4), .second, .val (.int p5), .val (.long lo), .second, .val (.long hi), .second, .val (.long md), .second, .val (.int (p5 &&& (3 : Int32))), .val (.long z92l16), .second, .val (.ref b10), .val (.ref b12), .val (.ref b20), .val (.int (own_holds z92l16 lo md)), .val (.int (own_holds z92l16 md hi)), .val (.int (own_holds z92l16 lo hi)), .val (.int z193s0), .unset, .unset, .unset, .unset] [(.int z215s1), (.int (own_holds lo lo md))])) := by
          intro Tj41 Lj41 Xj41 ej41 Nj41 z215s1 hz215s1
          show Gl _ _ _ _ _ _ _ (Tj41.setTop (mkF m 215 #[.val (.long q1), .second, .val (.long q2), .second, .val (.long q3), .second, .val (.long q4), .second, .val (.int p5), .val (.long lo), .second, .val (.long hi), .second, .val (.long md), .second, .val (.int (p5 &&& (3 : Int32))), .val (.long z92l16), .second, .val (.ref b10), .val (.ref b12), .val (.ref b20), .val (.int (own_holds z92l16 lo md)), .val (.int (own_holds z92l16 md hi)), .val (.int (own_holds z92l16 lo hi)), .val (.int z193s0), .unset, .unset, .unset, .unset] [(.int z215s1), (.int (own_holds lo lo md))]))
          have hc215_42 : (own_holds lo lo md) = z215s1 := by rw [hz215s1]; exact own_l3 _ _
          refine Gl.st (fun t k => XS.icmpNo Xj41.here hx rfl (hb hby at_215) rfl (teq hc215_42).2 k) ?_
          show Gl _ _ _ _ _ _ _ (Tj41.setTop (mkF m 218 #[.val (.long q1), .second, .val (.long q2), .second, .val (.long q3), .second, .val (.long q4), .second, .val (.int p5), .val (.long lo), .second, .val (.long hi), .second, .val (.long md), .second, .val (.int (p5 &&& (3 : Int32))), .val (.long z92l16), .second, .val (.ref b10), .val (.ref b12), .val (.ref b20), .val (.int (own_holds z92l16 lo md)), .val (.int (own_holds z92l16 md hi)), .val (.int (own_holds z92l16 lo hi)), .val (.int z193s0), .unset, .unset, .unset, .unset] []))
          refine Gl.st (fun t k => XS.iconst Xj41.here hx rfl (hb hby at_218) k) ?_
          show Gl _ _ _ _ _ _ _ (Tj41.setTop (mkF m 219 #[.val (.long q1), .second, .val (.long q2), .second, .val (.long q3), .second, .val (.long q4), .second, .val (.int p5), .val (.long lo), .second, .val (.long hi), .second, .val (.long md), .second, .val (.int (p5 &&& (3 : Int32))), .val (.long z92l16), .second, .val (.ref b10), .val (.ref b12), .val (.ref b20), .val (.int (own_holds z92l16 lo md)), .val (.int (own_holds z92l16 md hi)), .val (.int (own_holds z92l16 lo hi)), .val (.int z193s0), .unset, .unset, .unset, .unset] [(.int (1 : Int32))]))
          refine Gl.st (fun t k => XS.goto Xj41.here hx rfl (pc0 := 219) (pc' := 223) rfl (hb hby at_219) (by decide) (by decide) k) ?_
          show Gl _ _ _ _ _ _ _ (Tj41.setTop (mkF m 223 #[.val (.long q1), .second, .val (.long q2), .second, .val (.long q3), .second, .val (.long q4), .second, .val (.int p5), .val (.long lo), .second, .val (.long hi), .second, .val (.long md), .second, .val (.int (p5 &&& (3 : Int32))), .val (.long z92l16), .second, .val (.ref b10), .val (.ref b12), .val (.ref b20), .val (.int (own_holds z92l16 lo md)), .val (.int (own_holds z92l16 md hi)), .val (.int (own_holds z92l16 lo hi)), .val (.int z193s0), .unset, .unset, .unset, .unset] [(.int (1 : Int32))]))
          refine Gl.st (fun t k => XS.istore Xj41.here hx rfl (hb hby at_223) rfl (l' := #[.val (.long q1), .second, .val (.long q2), .second, .val (.long q3), .second, .val (.long q4), .second, .val (.int p5), .val (.long lo), .second, .val (.long hi), .second, .val (.long md), .second, .val (.int (p5 &&& (3 : Int32))), .val (.long z92l16), .second, .val (.ref b10), .val (.ref b12), .val (.ref b20), .val (.int (own_holds z92l16 lo md)), .val (.int (own_holds z92l16 md hi)), .val (.int (own_holds z92l16 lo hi)), .val (.int z193s0), .val (.int (1 : Int32)), .unset, .unset, .unset]) rfl k) ?_
          show Gl _ _ _ _ _ _ _ (Tj41.setTop (mkF m 225 #[.val (.long q1), .second, .val (.long q2), .second, .val (.long q3), .second, .val (.long q4), .second, .val (.int p5), .val (.long lo), .second, .val (.long hi), .second, .val (.long md), .second, .val (.int (p5 &&& (3 : Int32))), .val (.long z92l16), .second, .val (.ref b10), .val (.ref b12), .val (.ref b20), .val (.int (own_holds z92l16 lo md)), .val (.int (own_holds z92l16 md hi)), .val (.int (own_holds z92l16 lo hi)), .val (.int z193s0), .val (.int (1 : Int32)), .unset, .unset, .unset] []))
          refine Gl.st (fun t k => XS.aload Xj41.here hx rfl (hb hby at_225) rfl rfl k) ?_
          show Gl _ _ _ _ _ _ _ (Tj41.setTop (mkF m 227 #[.val (.long q1), .second, .val (.long q2), .second, .val (.long q3), .second, .val (.long q4), .second, .val (.int p5), .val (.long lo), .second, .val (.long hi), .second, .val (.long md), .second, .val (.int (p5 &&& (3 : Int32))), .val (.long z92l16), .second, .val (.ref b10), .val (.ref b12), .val (.ref b20), .val (.int (own_holds z92l16 lo md)), .val (.int (own_holds z92l16 md hi)), .val (.int (own_holds z92l16 lo hi)), .val (.int z193s0), .val (.int (1 : Int32)), .unset, .unset, .unset] [(.ref b12)]))
          refine Gl.st (fun t k => XS.lload Xj41.here hx rfl (hb hby at_227) rfl  k) ?_
          show Gl _ _ _ _ _ _ _ (Tj41.setTop (mkF m 229 #[.val (.long q1), .second, .val (.long q2), .second, .val (.long q3), .second, .val (.long q4), .second, .val (.int p5), .val (.long lo), .second, .val (.long hi), .second, .val (.long md), .second, .val (.int (p5 &&& (3 : Int32))), .val (.long z92l16), .second, .val (.ref b10), .val (.ref b12), .val (.ref b20), .val (.int (own_holds z92l16 lo md)), .val (.int (own_holds z92l16 md hi)), .val (.int (own_holds z92l16 lo hi)), .val (.int z193s0), .val (.int (1 : Int32)), .unset, .unset, .unset] [(.long md), (.ref b12)]))
          obtain ⟨cq43, kq43, qa43, qb43, qc43⟩ := isOf hZ ej41 Fq16_0'31
          obtain ⟨_, _, ⟨T43, L43, k43, n43⟩, -, X43, ⟨Lc43, hQ43, l43, y43, z43⟩, st43⟩ := Xj41.virtualBack hx (y := (⟨"com/example/meisai/meisai/Period", "holds", "(J)Z"⟩ : MethodName)) (z := (⟨"com/example/meisai/meisai/Period", "holds", "(J)Z"⟩ : MethodName)) hown (mvT hZ (hw _ (List.mem_of_getElem? (i := 25) rfl))) (mvT hZ (hw _ (List.mem_of_getElem? (i := 26) rfl))) (notFace_of_selects (args := #[]) (mvT hZ (hw _ (List.mem_of_getElem? (i := 28) rfl)))) (mvT hZ (hw _ (List.mem_of_getElem? (i := 28) rfl))) (mvT hZ (hw _ (List.mem_of_getElem? (i := 27) rfl))) (by decide) (backOf (W := 0) (rm6 l Z a0 hw [] b12 md (md) (hi) T27.heap n0  Fq16_1'32 Fq16_2'33) hZ (hw _ (List.mem_of_getElem? (i := 29) rfl)) (hw _ (List.mem_of_getElem? (i := 9) rfl)) (by decide) (by decide)) qa43 qc43 (g := (mkF m 229 #[.val (.long q1), .second, .val (.long q2), .second, .val (.long q3), .second, .val (.long q4), .second, .val (.int p5), .val (.long lo), .second, .val (.long hi), .second, .val (.long md), .second, .val (.int (p5 &&& (3 : Int32))), .val (.long z92l16), .second, .val (.ref b10), .val (.ref b12), .val (.ref b20), .val (.int (own_holds z92l16 lo md)), .val (.int (own_holds z92l16 md hi)), .val (.int (own_holds z92l16 lo hi)), .val (.int z193s0), .val (.int (1 : Int32)), .unset, .unset, .unset] [(.long md), (.ref b12)])) rfl (by rw [hml]; rfl) (Steps.refl _) (argsL := [(.long md)]) (rest := []) (lenOf pd_3 rfl) rfl (by show 2 * 0 + _ ≤ _; exact Nat.le_of_eq rfl) (hb hby at_229) (fun _ _ => ⟨rfl, ej41, (by decide : 3 + 0 ≤ _), (by decide : 6 + 0 ≤ _)⟩)
          dsimp only [Pt.U, Pt.locs, Pt.cells, Pt.slots] at X43 l43 y43 z43 st43 hQ43
          subst l43 y43 z43
          obtain ⟨rfl, N43q, e43⟩ := hQ43
          have N43 := Fr.app Nj41 N43q
          refine Gl.to st43 ?_
          show Gl _ _ _ _ _ _ _ (T43.setTop (mkF m 232 #[.val (.long q1), .second, .val (.long q2), .second, .val (.long q3), .second, .val (.long q4), .second, .val (.int p5), .val (.long lo), .second, .val (.long hi), .second, .val (.long md), .second, .val (.int (p5 &&& (3 : Int32))), .val (.long z92l16), .second, .val (.ref b10), .val (.ref b12), .val (.ref b20), .val (.int (own_holds z92l16 lo md)), .val (.int (own_holds z92l16 md hi)), .val (.int (own_holds z92l16 lo hi)), .val (.int z193s0), .val (.int (1 : Int32)), .unset, .unset, .unset] [(.int (own_holds md md hi))]))
          refine Gl.st (fun t k => XS.lload X43.here hx rfl (hb hby at_232) rfl  k) ?_
          show Gl _ _ _ _ _ _ _ (T43.setTop (mkF m 234 #[.val (.long q1), .second, .val (.long q2), .second, .val (.long q3), .second, .val (.long q4), .second, .val (.int p5), .val (.long lo), .second, .val (.long hi), .second, .val (.long md), .second, .val (.int (p5 &&& (3 : Int32))), .val (.long z92l16), .second, .val (.ref b10), .val (.ref b12), .val (.ref b20), .val (.int (own_holds z92l16 lo md)), .val (.int (own_holds z92l16 md hi)), .val (.int (own_holds z92l16 lo hi)), .val (.int z193s0), .val (.int (1 : Int32)), .unset, .unset, .unset] [(.long md), (.int (own_holds md md hi))]))
          refine Gl.st (fun t k => XS.lload X43.here hx rfl (hb hby at_234) rfl  k) ?_
          show Gl _ _ _ _ _ _ _ (T43.setTop (mkF m 236 #[.val (.long q1), .second, .val (.long q2), .second, .val (.long q3), .second, .val (.long q4), .second, .val (.int p5), .val (.long lo), .second, .val (.long hi), .second, .val (.long md), .second, .val (.int (p5 &&& (3 : Int32))), .val (.long z92l16), .second, .val (.ref b10), .val (.ref b12), .val (.ref b20), .val (.int (own_holds z92l16 lo md)), .val (.int (own_holds z92l16 md hi)), .val (.int (own_holds z92l16 lo hi)), .val (.int z193s0), .val (.int (1 : Int32)), .unset, .unset, .unset] [(.long hi), (.long md), (.int (own_holds md md hi))]))
          refine Gl.st (fun t k => XS.lcmp X43.here hx rfl (hb hby at_236) rfl k) ?_
          show Gl _ _ _ _ _ _ _ (T43.setTop (mkF m 237 #[.val (.long q1), .second, .val (.long q2), .second, .val (.long q3), .second, .val (.long q4), .second, .val (.int p5), .val (.long lo), .second, .val (.long hi), .second, .val (.long md), .second, .val (.int (p5 &&& (3 : Int32))), .val (.long z92l16), .second, .val (.ref b10), .val (.ref b12), .val (.ref b20), .val (.int (own_holds z92l16 lo md)), .val (.int (own_holds z92l16 md hi)), .val (.int (own_holds z92l16 lo hi)), .val (.int z193s0), .val (.int (1 : Int32)), .unset, .unset, .unset] [(.int (lcmpW md hi)), (.int (own_holds md md hi))]))
          have J44 : ∀ (Tj44 : State) (Lj44 : List Loc) (Xj44 : Stand p l e room_1 s m #[(.long q1), (.long q2), (.long q3), (.long q4), (.int p5)] below meth c Tj44 Lj44 3 6) (ej44 : Tj44.heap = T27.heap) (Nj44 : Fr n0 Lj44) (z245s1 : Int32) (hz245s1 : z245s1 = (if md < hi then (1 : Int32) else (0 : Int32))), Gl p e below s (Q0 Z q1 q2 q3 q4 p5 h0 n0) room_1.cells room_1.slots (Tj44.setTop (mkF m 245 #[.val (.long q1), .second, .val (.long q2), .second, .val (.long q3), .second, .val (.long q4), .second, .val (.int p5), .val (.long lo), .second, .val (.long hi), .second, .val (.long md), .second, .val (.int (p5 &&& (3 : Int32))), .val (.long z92l16), .second, .val (.ref b10), .val (.ref b12), .val (.ref b20), .val (.int (own_holds z92l16 lo md)), .val (.int (own_holds z92l16 md hi)), .val (.int (own_holds z92l16 lo hi)), .val (.int z193s0), .val (.int (1 : Int32)), .unset, .unset, .unset] [(.int z245s1), (.int (own_holds md md hi))])) := by
            intro Tj44 Lj44 Xj44 ej44 Nj44 z245s1 hz245s1
            show Gl _ _ _ _ _ _ _ (Tj44.setTop (mkF m 245 #[.val (.long q1), .second, .val (.long q2), .second, .val (.long q3), .second, .val (.long q4), .second, .val (.int p5), .val (.long lo), .second, .val (.long hi), .second, .val (.long md), .second, .val (.int (p5 &&& (3 : Int32))), .val (.long z92l16), .second, .val (.ref b10), .val (.ref b12), .val (.ref b20), .val (.int (own_holds z92l16 lo md)), .val (.int (own_holds z92l16 md hi)), .val (.int (own_holds z92l16 lo hi)), .val (.int z193s0), .val (.int (1 : Int32)), .unset, .unset, .unset] [(.int z245s1), (.int (own_holds md md hi))]))
            have hc245_45 : (own_holds md md hi) = z245s1 := by rw [hz245s1]; exact own_l3 _ _
            refine Gl.st (fun t k => XS.icmpNo Xj44.here hx rfl (hb hby at_245) rfl (teq hc245_45).2 k) ?_
            show Gl _ _ _ _ _ _ _ (Tj44.setTop (mkF m 248 #[.val (.long q1), .second, .val (.long q2), .second, .val (.long q3), .second, .val (.long q4), .second, .val (.int p5), .val (.long lo), .second, .val (.long hi), .second, .val (.long md), .second, .val (.int (p5 &&& (3 : Int32))), .val (.long z92l16), .second, .val (.ref b10), .val (.ref b12), .val (.ref b20), .val (.int (own_holds z92l16 lo md)), .val (.int (own_holds z92l16 md hi)), .val (.int (own_holds z92l16 lo hi)), .val (.int z193s0), .val (.int (1 : Int32)), .unset, .unset, .unset] []))
            refine Gl.st (fun t k => XS.iconst Xj44.here hx rfl (hb hby at_248) k) ?_
            show Gl _ _ _ _ _ _ _ (Tj44.setTop (mkF m 249 #[.val (.long q1), .second, .val (.long q2), .second, .val (.long q3), .second, .val (.long q4), .second, .val (.int p5), .val (.long lo), .second, .val (.long hi), .second, .val (.long md), .second, .val (.int (p5 &&& (3 : Int32))), .val (.long z92l16), .second, .val (.ref b10), .val (.ref b12), .val (.ref b20), .val (.int (own_holds z92l16 lo md)), .val (.int (own_holds z92l16 md hi)), .val (.int (own_holds z92l16 lo hi)), .val (.int z193s0), .val (.int (1 : Int32)), .unset, .unset, .unset] [(.int (1 : Int32))]))
            refine Gl.st (fun t k => XS.goto Xj44.here hx rfl (pc0 := 249) (pc' := 253) rfl (hb hby at_249) (by decide) (by decide) k) ?_
            show Gl _ _ _ _ _ _ _ (Tj44.setTop (mkF m 253 #[.val (.long q1), .second, .val (.long q2), .second, .val (.long q3), .second, .val (.long q4), .second, .val (.int p5), .val (.long lo), .second, .val (.long hi), .second, .val (.long md), .second, .val (.int (p5 &&& (3 : Int32))), .val (.long z92l16), .second, .val (.ref b10), .val (.ref b12), .val (.ref b20), .val (.int (own_holds z92l16 lo md)), .val (.int (own_holds z92l16 md hi)), .val (.int (own_holds z92l16 lo hi)), .val (.int z193s0), .val (.int (1 : Int32)), .unset, .unset, .unset] [(.int (1 : Int32))]))
            refine Gl.st (fun t k => XS.istore Xj44.here hx rfl (hb hby at_253) rfl (l' := #[.val (.long q1), .second, .val (.long q2), .second, .val (.long q3), .second, .val (.long q4), .second, .val (.int p5), .val (.long lo), .second, .val (.long hi), .second, .val (.long md), .second, .val (.int (p5 &&& (3 : Int32))), .val (.long z92l16), .second, .val (.ref b10), .val (.ref b12), .val (.ref b20), .val (.int (own_holds z92l16 lo md)), .val (.int (own_holds z92l16 md hi)), .val (.int (own_holds z92l16 lo hi)), .val (.int z193s0), .val (.int (1 : Int32)), .val (.int (1 : Int32)), .unset, .unset]) rfl k) ?_
            show Gl _ _ _ _ _ _ _ (Tj44.setTop (mkF m 255 #[.val (.long q1), .second, .val (.long q2), .second, .val (.long q3), .second, .val (.long q4), .second, .val (.int p5), .val (.long lo), .second, .val (.long hi), .second, .val (.long md), .second, .val (.int (p5 &&& (3 : Int32))), .val (.long z92l16), .second, .val (.ref b10), .val (.ref b12), .val (.ref b20), .val (.int (own_holds z92l16 lo md)), .val (.int (own_holds z92l16 md hi)), .val (.int (own_holds z92l16 lo hi)), .val (.int z193s0), .val (.int (1 : Int32)), .val (.int (1 : Int32)), .unset, .unset] []))
            refine Gl.st (fun t k => XS.aload Xj44.here hx rfl (hb hby at_255) rfl rfl k) ?_
            show Gl _ _ _ _ _ _ _ (Tj44.setTop (mkF m 257 #[.val (.long q1), .second, .val (.long q2), .second, .val (.long q3), .second, .val (.long q4), .second, .val (.int p5), .val (.long lo), .second, .val (.long hi), .second, .val (.long md), .second, .val (.int (p5 &&& (3 : Int32))), .val (.long z92l16), .second, .val (.ref b10), .val (.ref b12), .val (.ref b20), .val (.int (own_holds z92l16 lo md)), .val (.int (own_holds z92l16 md hi)), .val (.int (own_holds z92l16 lo hi)), .val (.int z193s0), .val (.int (1 : Int32)), .val (.int (1 : Int32)), .unset, .unset] [(.ref b10)]))
            refine Gl.st (fun t k => XS.lload Xj44.here hx rfl (hb hby at_257) rfl  k) ?_
            show Gl _ _ _ _ _ _ _ (Tj44.setTop (mkF m 259 #[.val (.long q1), .second, .val (.long q2), .second, .val (.long q3), .second, .val (.long q4), .second, .val (.int p5), .val (.long lo), .second, .val (.long hi), .second, .val (.long md), .second, .val (.int (p5 &&& (3 : Int32))), .val (.long z92l16), .second, .val (.ref b10), .val (.ref b12), .val (.ref b20), .val (.int (own_holds z92l16 lo md)), .val (.int (own_holds z92l16 md hi)), .val (.int (own_holds z92l16 lo hi)), .val (.int z193s0), .val (.int (1 : Int32)), .val (.int (1 : Int32)), .unset, .unset] [(.long md), (.ref b10)]))
            obtain ⟨cq46, kq46, qa46, qb46, qc46⟩ := isOf hZ ej44 Fq11_0'28
            obtain ⟨_, _, ⟨T46, L46, k46, n46⟩, -, X46, ⟨Lc46, hQ46, l46, y46, z46⟩, st46⟩ := Xj44.virtualBack hx (y := (⟨"com/example/meisai/meisai/Period", "holds", "(J)Z"⟩ : MethodName)) (z := (⟨"com/example/meisai/meisai/Period", "holds", "(J)Z"⟩ : MethodName)) hown (mvT hZ (hw _ (List.mem_of_getElem? (i := 25) rfl))) (mvT hZ (hw _ (List.mem_of_getElem? (i := 26) rfl))) (notFace_of_selects (args := #[]) (mvT hZ (hw _ (List.mem_of_getElem? (i := 28) rfl)))) (mvT hZ (hw _ (List.mem_of_getElem? (i := 28) rfl))) (mvT hZ (hw _ (List.mem_of_getElem? (i := 27) rfl))) (by decide) (backOf (W := 0) (rm6 l Z a0 hw [] b10 md (lo) (md) T27.heap n0  Fq11_1'29 Fq11_2'30) hZ (hw _ (List.mem_of_getElem? (i := 29) rfl)) (hw _ (List.mem_of_getElem? (i := 9) rfl)) (by decide) (by decide)) qa46 qc46 (g := (mkF m 259 #[.val (.long q1), .second, .val (.long q2), .second, .val (.long q3), .second, .val (.long q4), .second, .val (.int p5), .val (.long lo), .second, .val (.long hi), .second, .val (.long md), .second, .val (.int (p5 &&& (3 : Int32))), .val (.long z92l16), .second, .val (.ref b10), .val (.ref b12), .val (.ref b20), .val (.int (own_holds z92l16 lo md)), .val (.int (own_holds z92l16 md hi)), .val (.int (own_holds z92l16 lo hi)), .val (.int z193s0), .val (.int (1 : Int32)), .val (.int (1 : Int32)), .unset, .unset] [(.long md), (.ref b10)])) rfl (by rw [hml]; rfl) (Steps.refl _) (argsL := [(.long md)]) (rest := []) (lenOf pd_3 rfl) rfl (by show 2 * 0 + _ ≤ _; exact Nat.le_of_eq rfl) (hb hby at_259) (fun _ _ => ⟨rfl, ej44, (by decide : 3 + 0 ≤ _), (by decide : 6 + 0 ≤ _)⟩)
            dsimp only [Pt.U, Pt.locs, Pt.cells, Pt.slots] at X46 l46 y46 z46 st46 hQ46
            subst l46 y46 z46
            obtain ⟨rfl, N46q, e46⟩ := hQ46
            have N46 := Fr.app Nj44 N46q
            refine Gl.to st46 ?_
            show Gl _ _ _ _ _ _ _ (T46.setTop (mkF m 262 #[.val (.long q1), .second, .val (.long q2), .second, .val (.long q3), .second, .val (.long q4), .second, .val (.int p5), .val (.long lo), .second, .val (.long hi), .second, .val (.long md), .second, .val (.int (p5 &&& (3 : Int32))), .val (.long z92l16), .second, .val (.ref b10), .val (.ref b12), .val (.ref b20), .val (.int (own_holds z92l16 lo md)), .val (.int (own_holds z92l16 md hi)), .val (.int (own_holds z92l16 lo hi)), .val (.int z193s0), .val (.int (1 : Int32)), .val (.int (1 : Int32)), .unset, .unset] [(.int (own_holds md lo md))]))
            have hc262_47 : (own_holds md lo md) = (0 : Int32) := by exact own_l4 _ _
            refine Gl.st (fun t k => XS.ifNo X46.here hx rfl (hb hby at_262) rfl ((if0 _ _).trans (teq hc262_47).2) k) ?_
            show Gl _ _ _ _ _ _ _ (T46.setTop (mkF m 265 #[.val (.long q1), .second, .val (.long q2), .second, .val (.long q3), .second, .val (.long q4), .second, .val (.int p5), .val (.long lo), .second, .val (.long hi), .second, .val (.long md), .second, .val (.int (p5 &&& (3 : Int32))), .val (.long z92l16), .second, .val (.ref b10), .val (.ref b12), .val (.ref b20), .val (.int (own_holds z92l16 lo md)), .val (.int (own_holds z92l16 md hi)), .val (.int (own_holds z92l16 lo hi)), .val (.int z193s0), .val (.int (1 : Int32)), .val (.int (1 : Int32)), .unset, .unset] []))
            refine Gl.st (fun t k => XS.iconst X46.here hx rfl (hb hby at_265) k) ?_
            show Gl _ _ _ _ _ _ _ (T46.setTop (mkF m 266 #[.val (.long q1), .second, .val (.long q2), .second, .val (.long q3), .second, .val (.long q4), .second, .val (.int p5), .val (.long lo), .second, .val (.long hi), .second, .val (.long md), .second, .val (.int (p5 &&& (3 : Int32))), .val (.long z92l16), .second, .val (.ref b10), .val (.ref b12), .val (.ref b20), .val (.int (own_holds z92l16 lo md)), .val (.int (own_holds z92l16 md hi)), .val (.int (own_holds z92l16 lo hi)), .val (.int z193s0), .val (.int (1 : Int32)), .val (.int (1 : Int32)), .unset, .unset] [(.int (1 : Int32))]))
            refine Gl.st (fun t k => XS.goto X46.here hx rfl (pc0 := 266) (pc' := 270) rfl (hb hby at_266) (by decide) (by decide) k) ?_
            show Gl _ _ _ _ _ _ _ (T46.setTop (mkF m 270 #[.val (.long q1), .second, .val (.long q2), .second, .val (.long q3), .second, .val (.long q4), .second, .val (.int p5), .val (.long lo), .second, .val (.long hi), .second, .val (.long md), .second, .val (.int (p5 &&& (3 : Int32))), .val (.long z92l16), .second, .val (.ref b10), .val (.ref b12), .val (.ref b20), .val (.int (own_holds z92l16 lo md)), .val (.int (own_holds z92l16 md hi)), .val (.int (own_holds z92l16 lo hi)), .val (.int z193s0), .val (.int (1 : Int32)), .val (.int (1 : Int32)), .unset, .unset] [(.int (1 : Int32))]))
            refine Gl.st (fun t k => XS.istore X46.here hx rfl (hb hby at_270) rfl (l' := #[.val (.long q1), .second, .val (.long q2), .second, .val (.long q3), .second, .val (.long q4), .second, .val (.int p5), .val (.long lo), .second, .val (.long hi), .second, .val (.long md), .second, .val (.int (p5 &&& (3 : Int32))), .val (.long z92l16), .second, .val (.ref b10), .val (.ref b12), .val (.ref b20), .val (.int (own_holds z92l16 lo md)), .val (.int (own_holds z92l16 md hi)), .val (.int (own_holds z92l16 lo hi)), .val (.int z193s0), .val (.int (1 : Int32)), .val (.int (1 : Int32)), .val (.int (1 : Int32)), .unset]) rfl k) ?_
            show Gl _ _ _ _ _ _ _ (T46.setTop (mkF m 272 #[.val (.long q1), .second, .val (.long q2), .second, .val (.long q3), .second, .val (.long q4), .second, .val (.int p5), .val (.long lo), .second, .val (.long hi), .second, .val (.long md), .second, .val (.int (p5 &&& (3 : Int32))), .val (.long z92l16), .second, .val (.ref b10), .val (.ref b12), .val (.ref b20), .val (.int (own_holds z92l16 lo md)), .val (.int (own_holds z92l16 md hi)), .val (.int (own_holds z92l16 lo hi)), .val (.int z193s0), .val (.int (1 : Int32)), .val (.int (1 : Int32)), .val (.int (1 : Int32)), .unset] []))
            refine Gl.st (fun t k => XS.aload X46.here hx rfl (hb hby at_272) rfl rfl k) ?_
            show Gl _ _ _ _ _ _ _ (T46.setTop (mkF m 274 #[.val (.long q1), .second, .val (.long q2), .second, .val (.long q3), .second, .val (.long q4), .second, .val (.int p5), .val (.long lo), .second, .val (.long hi), .second, .val (.long md), .second, .val (.int (p5 &&& (3 : Int32))), .val (.long z92l16), .second, .val (.ref b10), .val (.ref b12), .val (.ref b20), .val (.int (own_holds z92l16 lo md)), .val (.int (own_holds z92l16 md hi)), .val (.int (own_holds z92l16 lo hi)), .val (.int z193s0), .val (.int (1 : Int32)), .val (.int (1 : Int32)), .val (.int (1 : Int32)), .unset] [(.ref b20)]))
            refine Gl.st (fun t k => XS.lload X46.here hx rfl (hb hby at_274) rfl  k) ?_
            show Gl _ _ _ _ _ _ _ (T46.setTop (mkF m 276 #[.val (.long q1), .second, .val (.long q2), .second, .val (.long q3), .second, .val (.long q4), .second, .val (.int p5), .val (.long lo), .second, .val (.long hi), .second, .val (.long md), .second, .val (.int (p5 &&& (3 : Int32))), .val (.long z92l16), .second, .val (.ref b10), .val (.ref b12), .val (.ref b20), .val (.int (own_holds z92l16 lo md)), .val (.int (own_holds z92l16 md hi)), .val (.int (own_holds z92l16 lo hi)), .val (.int z193s0), .val (.int (1 : Int32)), .val (.int (1 : Int32)), .val (.int (1 : Int32)), .unset] [(.long hi), (.ref b20)]))
            obtain ⟨cq48, kq48, qa48, qb48, qc48⟩ := isOf hZ e46 Fq27_0
            obtain ⟨_, _, ⟨T48, L48, k48, n48⟩, -, X48, ⟨Lc48, hQ48, l48, y48, z48⟩, st48⟩ := X46.virtualBack hx (y := (⟨"com/example/meisai/meisai/Period", "holds", "(J)Z"⟩ : MethodName)) (z := (⟨"com/example/meisai/meisai/Period", "holds", "(J)Z"⟩ : MethodName)) hown (mvT hZ (hw _ (List.mem_of_getElem? (i := 25) rfl))) (mvT hZ (hw _ (List.mem_of_getElem? (i := 26) rfl))) (notFace_of_selects (args := #[]) (mvT hZ (hw _ (List.mem_of_getElem? (i := 28) rfl)))) (mvT hZ (hw _ (List.mem_of_getElem? (i := 28) rfl))) (mvT hZ (hw _ (List.mem_of_getElem? (i := 27) rfl))) (by decide) (backOf (W := 0) (rm6 l Z a0 hw [] b20 hi (lo) (hi) T27.heap n0  Fq27_1 Fq27_2) hZ (hw _ (List.mem_of_getElem? (i := 29) rfl)) (hw _ (List.mem_of_getElem? (i := 9) rfl)) (by decide) (by decide)) qa48 qc48 (g := (mkF m 276 #[.val (.long q1), .second, .val (.long q2), .second, .val (.long q3), .second, .val (.long q4), .second, .val (.int p5), .val (.long lo), .second, .val (.long hi), .second, .val (.long md), .second, .val (.int (p5 &&& (3 : Int32))), .val (.long z92l16), .second, .val (.ref b10), .val (.ref b12), .val (.ref b20), .val (.int (own_holds z92l16 lo md)), .val (.int (own_holds z92l16 md hi)), .val (.int (own_holds z92l16 lo hi)), .val (.int z193s0), .val (.int (1 : Int32)), .val (.int (1 : Int32)), .val (.int (1 : Int32)), .unset] [(.long hi), (.ref b20)])) rfl (by rw [hml]; rfl) (Steps.refl _) (argsL := [(.long hi)]) (rest := []) (lenOf pd_3 rfl) rfl (by show 2 * 0 + _ ≤ _; exact Nat.le_of_eq rfl) (hb hby at_276) (fun _ _ => ⟨rfl, e46, (by decide : 3 + 0 ≤ _), (by decide : 6 + 0 ≤ _)⟩)
            dsimp only [Pt.U, Pt.locs, Pt.cells, Pt.slots] at X48 l48 y48 z48 st48 hQ48
            subst l48 y48 z48
            obtain ⟨rfl, N48q, e48⟩ := hQ48
            have N48 := Fr.app N46 N48q
            refine Gl.to st48 ?_
            show Gl _ _ _ _ _ _ _ (T48.setTop (mkF m 279 #[.val (.long q1), .second, .val (.long q2), .second, .val (.long q3), .second, .val (.long q4), .second, .val (.int p5), .val (.long lo), .second, .val (.long hi), .second, .val (.long md), .second, .val (.int (p5 &&& (3 : Int32))), .val (.long z92l16), .second, .val (.ref b10), .val (.ref b12), .val (.ref b20), .val (.int (own_holds z92l16 lo md)), .val (.int (own_holds z92l16 md hi)), .val (.int (own_holds z92l16 lo hi)), .val (.int z193s0), .val (.int (1 : Int32)), .val (.int (1 : Int32)), .val (.int (1 : Int32)), .unset] [(.int (own_holds hi lo hi))]))
            have hc279_49 : (own_holds hi lo hi) = (0 : Int32) := by exact own_l4 _ _
            refine Gl.st (fun t k => XS.ifNo X48.here hx rfl (hb hby at_279) rfl ((if0 _ _).trans (teq hc279_49).2) k) ?_
            show Gl _ _ _ _ _ _ _ (T48.setTop (mkF m 282 #[.val (.long q1), .second, .val (.long q2), .second, .val (.long q3), .second, .val (.long q4), .second, .val (.int p5), .val (.long lo), .second, .val (.long hi), .second, .val (.long md), .second, .val (.int (p5 &&& (3 : Int32))), .val (.long z92l16), .second, .val (.ref b10), .val (.ref b12), .val (.ref b20), .val (.int (own_holds z92l16 lo md)), .val (.int (own_holds z92l16 md hi)), .val (.int (own_holds z92l16 lo hi)), .val (.int z193s0), .val (.int (1 : Int32)), .val (.int (1 : Int32)), .val (.int (1 : Int32)), .unset] []))
            refine Gl.st (fun t k => XS.iconst X48.here hx rfl (hb hby at_282) k) ?_
            show Gl _ _ _ _ _ _ _ (T48.setTop (mkF m 283 #[.val (.long q1), .second, .val (.long q2), .second, .val (.long q3), .second, .val (.long q4), .second, .val (.int p5), .val (.long lo), .second, .val (.long hi), .second, .val (.long md), .second, .val (.int (p5 &&& (3 : Int32))), .val (.long z92l16), .second, .val (.ref b10), .val (.ref b12), .val (.ref b20), .val (.int (own_holds z92l16 lo md)), .val (.int (own_holds z92l16 md hi)), .val (.int (own_holds z92l16 lo hi)), .val (.int z193s0), .val (.int (1 : Int32)), .val (.int (1 : Int32)), .val (.int (1 : Int32)), .unset] [(.int (1 : Int32))]))
            refine Gl.st (fun t k => XS.goto X48.here hx rfl (pc0 := 283) (pc' := 287) rfl (hb hby at_283) (by decide) (by decide) k) ?_
            show Gl _ _ _ _ _ _ _ (T48.setTop (mkF m 287 #[.val (.long q1), .second, .val (.long q2), .second, .val (.long q3), .second, .val (.long q4), .second, .val (.int p5), .val (.long lo), .second, .val (.long hi), .second, .val (.long md), .second, .val (.int (p5 &&& (3 : Int32))), .val (.long z92l16), .second, .val (.ref b10), .val (.ref b12), .val (.ref b20), .val (.int (own_holds z92l16 lo md)), .val (.int (own_holds z92l16 md hi)), .val (.int (own_holds z92l16 lo hi)), .val (.int z193s0), .val (.int (1 : Int32)), .val (.int (1 : Int32)), .val (.int (1 : Int32)), .unset] [(.int (1 : Int32))]))
            refine Gl.st (fun t k => XS.istore X48.here hx rfl (hb hby at_287) rfl (l' := #[.val (.long q1), .second, .val (.long q2), .second, .val (.long q3), .second, .val (.long q4), .second, .val (.int p5), .val (.long lo), .second, .val (.long hi), .second, .val (.long md), .second, .val (.int (p5 &&& (3 : Int32))), .val (.long z92l16), .second, .val (.ref b10), .val (.ref b12), .val (.ref b20), .val (.int (own_holds z92l16 lo md)), .val (.int (own_holds z92l16 md hi)), .val (.int (own_holds z92l16 lo hi)), .val (.int z193s0), .val (.int (1 : Int32)), .val (.int (1 : Int32)), .val (.int (1 : Int32)), .val (.int (1 : Int32))]) rfl k) ?_
            show Gl _ _ _ _ _ _ _ (T48.setTop (mkF m 289 #[.val (.long q1), .second, .val (.long q2), .second, .val (.long q3), .second, .val (.long q4), .second, .val (.int p5), .val (.long lo), .second, .val (.long hi), .second, .val (.long md), .second, .val (.int (p5 &&& (3 : Int32))), .val (.long z92l16), .second, .val (.ref b10), .val (.ref b12), .val (.ref b20), .val (.int (own_holds z92l16 lo md)), .val (.int (own_holds z92l16 md hi)), .val (.int (own_holds z92l16 lo hi)), .val (.int z193s0), .val (.int (1 : Int32)), .val (.int (1 : Int32)), .val (.int (1 : Int32)), .val (.int (1 : Int32))] []))
            refine Gl.st (fun t k => XS.iload X48.here hx rfl (hb hby at_289) rfl  k) ?_
            show Gl _ _ _ _ _ _ _ (T48.setTop (mkF m 291 #[.val (.long q1), .second, .val (.long q2), .second, .val (.long q3), .second, .val (.long q4), .second, .val (.int p5), .val (.long lo), .second, .val (.long hi), .second, .val (.long md), .second, .val (.int (p5 &&& (3 : Int32))), .val (.long z92l16), .second, .val (.ref b10), .val (.ref b12), .val (.ref b20), .val (.int (own_holds z92l16 lo md)), .val (.int (own_holds z92l16 md hi)), .val (.int (own_holds z92l16 lo hi)), .val (.int z193s0), .val (.int (1 : Int32)), .val (.int (1 : Int32)), .val (.int (1 : Int32)), .val (.int (1 : Int32))] [(.int z193s0)]))
            have hc291_50 : ¬ (z193s0 = (0 : Int32)) := by rw [hz193s0]; exact own_l2 _ _ _ _
            refine Gl.st (fun t k => XS.ifNo X48.here hx rfl (hb hby at_291) rfl ((if0 _ _).trans (feq hc291_50).1) k) ?_
            show Gl _ _ _ _ _ _ _ (T48.setTop (mkF m 294 #[.val (.long q1), .second, .val (.long q2), .second, .val (.long q3), .second, .val (.long q4), .second, .val (.int p5), .val (.long lo), .second, .val (.long hi), .second, .val (.long md), .second, .val (.int (p5 &&& (3 : Int32))), .val (.long z92l16), .second, .val (.ref b10), .val (.ref b12), .val (.ref b20), .val (.int (own_holds z92l16 lo md)), .val (.int (own_holds z92l16 md hi)), .val (.int (own_holds z92l16 lo hi)), .val (.int z193s0), .val (.int (1 : Int32)), .val (.int (1 : Int32)), .val (.int (1 : Int32)), .val (.int (1 : Int32))] []))
            refine Gl.st (fun t k => XS.iload X48.here hx rfl (hb hby at_294) rfl  k) ?_
            show Gl _ _ _ _ _ _ _ (T48.setTop (mkF m 296 #[.val (.long q1), .second, .val (.long q2), .second, .val (.long q3), .second, .val (.long q4), .second, .val (.int p5), .val (.long lo), .second, .val (.long hi), .second, .val (.long md), .second, .val (.int (p5 &&& (3 : Int32))), .val (.long z92l16), .second, .val (.ref b10), .val (.ref b12), .val (.ref b20), .val (.int (own_holds z92l16 lo md)), .val (.int (own_holds z92l16 md hi)), .val (.int (own_holds z92l16 lo hi)), .val (.int z193s0), .val (.int (1 : Int32)), .val (.int (1 : Int32)), .val (.int (1 : Int32)), .val (.int (1 : Int32))] [(.int (1 : Int32))]))
            refine Gl.st (fun t k => XS.ifNo X48.here hx rfl (hb hby at_296) rfl ((if0 _ _).trans (feq (by decide : ¬ ((1 : Int32) = (0 : Int32)))).1) k) ?_
            show Gl _ _ _ _ _ _ _ (T48.setTop (mkF m 299 #[.val (.long q1), .second, .val (.long q2), .second, .val (.long q3), .second, .val (.long q4), .second, .val (.int p5), .val (.long lo), .second, .val (.long hi), .second, .val (.long md), .second, .val (.int (p5 &&& (3 : Int32))), .val (.long z92l16), .second, .val (.ref b10), .val (.ref b12), .val (.ref b20), .val (.int (own_holds z92l16 lo md)), .val (.int (own_holds z92l16 md hi)), .val (.int (own_holds z92l16 lo hi)), .val (.int z193s0), .val (.int (1 : Int32)), .val (.int (1 : Int32)), .val (.int (1 : Int32)), .val (.int (1 : Int32))] []))
            refine Gl.st (fun t k => XS.iload X48.here hx rfl (hb hby at_299) rfl  k) ?_
            show Gl _ _ _ _ _ _ _ (T48.setTop (mkF m 301 #[.val (.long q1), .second, .val (.long q2), .second, .val (.long q3), .second, .val (.long q4), .second, .val (.int p5), .val (.long lo), .second, .val (.long hi), .second, .val (.long md), .second, .val (.int (p5 &&& (3 : Int32))), .val (.long z92l16), .second, .val (.ref b10), .val (.ref b12), .val (.ref b20), .val (.int (own_holds z92l16 lo md)), .val (.int (own_holds z92l16 md hi)), .val (.int (own_holds z92l16 lo hi)), .val (.int z193s0), .val (.int (1 : Int32)), .val (.int (1 : Int32)), .val (.int (1 : Int32)), .val (.int (1 : Int32))] [(.int (1 : Int32))]))
            refine Gl.st (fun t k => XS.ifNo X48.here hx rfl (hb hby at_301) rfl ((if0 _ _).trans (feq (by decide : ¬ ((1 : Int32) = (0 : Int32)))).1) k) ?_
            show Gl _ _ _ _ _ _ _ (T48.setTop (mkF m 304 #[.val (.long q1), .second, .val (.long q2), .second, .val (.long q3), .second, .val (.long q4), .second, .val (.int p5), .val (.long lo), .second, .val (.long hi), .second, .val (.long md), .second, .val (.int (p5 &&& (3 : Int32))), .val (.long z92l16), .second, .val (.ref b10), .val (.ref b12), .val (.ref b20), .val (.int (own_holds z92l16 lo md)), .val (.int (own_holds z92l16 md hi)), .val (.int (own_holds z92l16 lo hi)), .val (.int z193s0), .val (.int (1 : Int32)), .val (.int (1 : Int32)), .val (.int (1 : Int32)), .val (.int (1 : Int32))] []))
            refine Gl.st (fun t k => XS.iload X48.here hx rfl (hb hby at_304) rfl  k) ?_
            show Gl _ _ _ _ _ _ _ (T48.setTop (mkF m 306 #[.val (.long q1), .second, .val (.long q2), .second, .val (.long q3), .second, .val (.long q4), .second, .val (.int p5), .val (.long lo), .second, .val (.long hi), .second, .val (.long md), .second, .val (.int (p5 &&& (3 : Int32))), .val (.long z92l16), .second, .val (.ref b10), .val (.ref b12), .val (.ref b20), .val (.int (own_holds z92l16 lo md)), .val (.int (own_holds z92l16 md hi)), .val (.int (own_holds z92l16 lo hi)), .val (.int z193s0), .val (.int (1 : Int32)), .val (.int (1 : Int32)), .val (.int (1 : Int32)), .val (.int (1 : Int32))] [(.int (1 : Int32))]))
            refine Gl.st (fun t k => XS.ifNo X48.here hx rfl (hb hby at_306) rfl ((if0 _ _).trans (feq (by decide : ¬ ((1 : Int32) = (0 : Int32)))).1) k) ?_
            show Gl _ _ _ _ _ _ _ (T48.setTop (mkF m 309 #[.val (.long q1), .second, .val (.long q2), .second, .val (.long q3), .second, .val (.long q4), .second, .val (.int p5), .val (.long lo), .second, .val (.long hi), .second, .val (.long md), .second, .val (.int (p5 &&& (3 : Int32))), .val (.long z92l16), .second, .val (.ref b10), .val (.ref b12), .val (.ref b20), .val (.int (own_holds z92l16 lo md)), .val (.int (own_holds z92l16 md hi)), .val (.int (own_holds z92l16 lo hi)), .val (.int z193s0), .val (.int (1 : Int32)), .val (.int (1 : Int32)), .val (.int (1 : Int32)), .val (.int (1 : Int32))] []))
            refine Gl.st (fun t k => XS.iload X48.here hx rfl (hb hby at_309) rfl  k) ?_
            show Gl _ _ _ _ _ _ _ (T48.setTop (mkF m 311 #[.val (.long q1), .second, .val (.long q2), .second, .val (.long q3), .second, .val (.long q4), .second, .val (.int p5), .val (.long lo), .second, .val (.long hi), .second, .val (.long md), .second, .val (.int (p5 &&& (3 : Int32))), .val (.long z92l16), .second, .val (.ref b10), .val (.ref b12), .val (.ref b20), .val (.int (own_holds z92l16 lo md)), .val (.int (own_holds z92l16 md hi)), .val (.int (own_holds z92l16 lo hi)), .val (.int z193s0), .val (.int (1 : Int32)), .val (.int (1 : Int32)), .val (.int (1 : Int32)), .val (.int (1 : Int32))] [(.int (1 : Int32))]))
            refine Gl.st (fun t k => XS.ifNo X48.here hx rfl (hb hby at_311) rfl ((if0 _ _).trans (feq (by decide : ¬ ((1 : Int32) = (0 : Int32)))).1) k) ?_
            show Gl _ _ _ _ _ _ _ (T48.setTop (mkF m 314 #[.val (.long q1), .second, .val (.long q2), .second, .val (.long q3), .second, .val (.long q4), .second, .val (.int p5), .val (.long lo), .second, .val (.long hi), .second, .val (.long md), .second, .val (.int (p5 &&& (3 : Int32))), .val (.long z92l16), .second, .val (.ref b10), .val (.ref b12), .val (.ref b20), .val (.int (own_holds z92l16 lo md)), .val (.int (own_holds z92l16 md hi)), .val (.int (own_holds z92l16 lo hi)), .val (.int z193s0), .val (.int (1 : Int32)), .val (.int (1 : Int32)), .val (.int (1 : Int32)), .val (.int (1 : Int32))] []))
            refine Gl.st (fun t k => XS.iconst X48.here hx rfl (hb hby at_314) k) ?_
            show Gl _ _ _ _ _ _ _ (T48.setTop (mkF m 315 #[.val (.long q1), .second, .val (.long q2), .second, .val (.long q3), .second, .val (.long q4), .second, .val (.int p5), .val (.long lo), .second, .val (.long hi), .second, .val (.long md), .second, .val (.int (p5 &&& (3 : Int32))), .val (.long z92l16), .second, .val (.ref b10), .val (.ref b12), .val (.ref b20), .val (.int (own_holds z92l16 lo md)), .val (.int (own_holds z92l16 md hi)), .val (.int (own_holds z92l16 lo hi)), .val (.int z193s0), .val (.int (1 : Int32)), .val (.int (1 : Int32)), .val (.int (1 : Int32)), .val (.int (1 : Int32))] [(.int (1 : Int32))]))
            refine Gl.st (fun t k => XS.goto X48.here hx rfl (pc0 := 315) (pc' := 319) rfl (hb hby at_315) (by decide) (by decide) k) ?_
            show Gl _ _ _ _ _ _ _ (T48.setTop (mkF m 319 #[.val (.long q1), .second, .val (.long q2), .second, .val (.long q3), .second, .val (.long q4), .second, .val (.int p5), .val (.long lo), .second, .val (.long hi), .second, .val (.long md), .second, .val (.int (p5 &&& (3 : Int32))), .val (.long z92l16), .second, .val (.ref b10), .val (.ref b12), .val (.ref b20), .val (.int (own_holds z92l16 lo md)), .val (.int (own_holds z92l16 md hi)), .val (.int (own_holds z92l16 lo hi)), .val (.int z193s0), .val (.int (1 : Int32)), .val (.int (1 : Int32)), .val (.int (1 : Int32)), .val (.int (1 : Int32))] [(.int (1 : Int32))]))
            exact Gl.retN X48 hx hlk Bd.returns (by simp) (hb hby at_319) (⟨rfl, N48⟩) (by decide) (by decide)
          by_cases hc237 : md < hi
          · refine Gl.st (fun t k => XS.ifNo X43.here hx rfl (hb hby at_237) rfl (lc_t hc237).2.1 k) ?_
            show Gl _ _ _ _ _ _ _ (T43.setTop (mkF m 240 #[.val (.long q1), .second, .val (.long q2), .second, .val (.long q3), .second, .val (.long q4), .second, .val (.int p5), .val (.long lo), .second, .val (.long hi), .second, .val (.long md), .second, .val (.int (p5 &&& (3 : Int32))), .val (.long z92l16), .second, .val (.ref b10), .val (.ref b12), .val (.ref b20), .val (.int (own_holds z92l16 lo md)), .val (.int (own_holds z92l16 md hi)), .val (.int (own_holds z92l16 lo hi)), .val (.int z193s0), .val (.int (1 : Int32)), .unset, .unset, .unset] [(.int (own_holds md md hi))]))
            refine Gl.st (fun t k => XS.iconst X43.here hx rfl (hb hby at_240) k) ?_
            show Gl _ _ _ _ _ _ _ (T43.setTop (mkF m 241 #[.val (.long q1), .second, .val (.long q2), .second, .val (.long q3), .second, .val (.long q4), .second, .val (.int p5), .val (.long lo), .second, .val (.long hi), .second, .val (.long md), .second, .val (.int (p5 &&& (3 : Int32))), .val (.long z92l16), .second, .val (.ref b10), .val (.ref b12), .val (.ref b20), .val (.int (own_holds z92l16 lo md)), .val (.int (own_holds z92l16 md hi)), .val (.int (own_holds z92l16 lo hi)), .val (.int z193s0), .val (.int (1 : Int32)), .unset, .unset, .unset] [(.int (1 : Int32)), (.int (own_holds md md hi))]))
            refine Gl.st (fun t k => XS.goto X43.here hx rfl (pc0 := 241) (pc' := 245) rfl (hb hby at_241) (by decide) (by decide) k) ?_
            show Gl _ _ _ _ _ _ _ (T43.setTop (mkF m 245 #[.val (.long q1), .second, .val (.long q2), .second, .val (.long q3), .second, .val (.long q4), .second, .val (.int p5), .val (.long lo), .second, .val (.long hi), .second, .val (.long md), .second, .val (.int (p5 &&& (3 : Int32))), .val (.long z92l16), .second, .val (.ref b10), .val (.ref b12), .val (.ref b20), .val (.int (own_holds z92l16 lo md)), .val (.int (own_holds z92l16 md hi)), .val (.int (own_holds z92l16 lo hi)), .val (.int z193s0), .val (.int (1 : Int32)), .unset, .unset, .unset] [(.int (1 : Int32)), (.int (own_holds md md hi))]))
            exact J44 _ _ X43 e43 N43 _ (by simp only [if_pos hc237])
          · refine Gl.st (fun t k => XS.ifYes X43.here hx rfl (pc0 := 237) (pc' := 244) rfl (hb hby at_237) rfl (lc_f hc237).2.1 (by decide) (by decide) k) ?_
            show Gl _ _ _ _ _ _ _ (T43.setTop (mkF m 244 #[.val (.long q1), .second, .val (.long q2), .second, .val (.long q3), .second, .val (.long q4), .second, .val (.int p5), .val (.long lo), .second, .val (.long hi), .second, .val (.long md), .second, .val (.int (p5 &&& (3 : Int32))), .val (.long z92l16), .second, .val (.ref b10), .val (.ref b12), .val (.ref b20), .val (.int (own_holds z92l16 lo md)), .val (.int (own_holds z92l16 md hi)), .val (.int (own_holds z92l16 lo hi)), .val (.int z193s0), .val (.int (1 : Int32)), .unset, .unset, .unset] [(.int (own_holds md md hi))]))
            refine Gl.st (fun t k => XS.iconst X43.here hx rfl (hb hby at_244) k) ?_
            show Gl _ _ _ _ _ _ _ (T43.setTop (mkF m 245 #[.val (.long q1), .second, .val (.long q2), .second, .val (.long q3), .second, .val (.long q4), .second, .val (.int p5), .val (.long lo), .second, .val (.long hi), .second, .val (.long md), .second, .val (.int (p5 &&& (3 : Int32))), .val (.long z92l16), .second, .val (.ref b10), .val (.ref b12), .val (.ref b20), .val (.int (own_holds z92l16 lo md)), .val (.int (own_holds z92l16 md hi)), .val (.int (own_holds z92l16 lo hi)), .val (.int z193s0), .val (.int (1 : Int32)), .unset, .unset, .unset] [(.int (0 : Int32)), (.int (own_holds md md hi))]))
            exact J44 _ _ X43 e43 N43 _ (by simp only [if_neg hc237])
        by_cases hc207 : lo < md
        · refine Gl.st (fun t k => XS.ifNo X40.here hx rfl (hb hby at_207) rfl (lc_t hc207).2.1 k) ?_
          show Gl _ _ _ _ _ _ _ (T40.setTop (mkF m 210 #[.val (.long q1), .second, .val (.long q2), .second, .val (.long q3), .second, .val (.long q4), .second, .val (.int p5), .val (.long lo), .second, .val (.long hi), .second, .val (.long md), .second, .val (.int (p5 &&& (3 : Int32))), .val (.long z92l16), .second, .val (.ref b10), .val (.ref b12), .val (.ref b20), .val (.int (own_holds z92l16 lo md)), .val (.int (own_holds z92l16 md hi)), .val (.int (own_holds z92l16 lo hi)), .val (.int z193s0), .unset, .unset, .unset, .unset] [(.int (own_holds lo lo md))]))
          refine Gl.st (fun t k => XS.iconst X40.here hx rfl (hb hby at_210) k) ?_
          show Gl _ _ _ _ _ _ _ (T40.setTop (mkF m 211 #[.val (.long q1), .second, .val (.long q2), .second, .val (.long q3), .second, .val (.long q4), .second, .val (.int p5), .val (.long lo), .second, .val (.long hi), .second, .val (.long md), .second, .val (.int (p5 &&& (3 : Int32))), .val (.long z92l16), .second, .val (.ref b10), .val (.ref b12), .val (.ref b20), .val (.int (own_holds z92l16 lo md)), .val (.int (own_holds z92l16 md hi)), .val (.int (own_holds z92l16 lo hi)), .val (.int z193s0), .unset, .unset, .unset, .unset] [(.int (1 : Int32)), (.int (own_holds lo lo md))]))
          refine Gl.st (fun t k => XS.goto X40.here hx rfl (pc0 := 211) (pc' := 215) rfl (hb hby at_211) (by decide) (by decide) k) ?_
          show Gl _ _ _ _ _ _ _ (T40.setTop (mkF m 215 #[.val (.long q1), .second, .val (.long q2), .second, .val (.long q3), .second, .val (.long q4), .second, .val (.int p5), .val (.long lo), .second, .val (.long hi), .second, .val (.long md), .second, .val (.int (p5 &&& (3 : Int32))), .val (.long z92l16), .second, .val (.ref b10), .val (.ref b12), .val (.ref b20), .val (.int (own_holds z92l16 lo md)), .val (.int (own_holds z92l16 md hi)), .val (.int (own_holds z92l16 lo hi)), .val (.int z193s0), .unset, .unset, .unset, .unset] [(.int (1 : Int32)), (.int (own_holds lo lo md))]))
          exact J41 _ _ X40 e40 N40 _ (by simp only [if_pos hc207])
        · refine Gl.st (fun t k => XS.ifYes X40.here hx rfl (pc0 := 207) (pc' := 214) rfl (hb hby at_207) rfl (lc_f hc207).2.1 (by decide) (by decide) k) ?_
          show Gl _ _ _ _ _ _ _ (T40.setTop (mkF m 214 #[.val (.long q1), .second, .val (.long q2), .second, .val (.long q3), .second, .val (.long q4), .second, .val (.int p5), .val (.long lo), .second, .val (.long hi), .second, .val (.long md), .second, .val (.int (p5 &&& (3 : Int32))), .val (.long z92l16), .second, .val (.ref b10), .val (.ref b12), .val (.ref b20), .val (.int (own_holds z92l16 lo md)), .val (.int (own_holds z92l16 md hi)), .val (.int (own_holds z92l16 lo hi)), .val (.int z193s0), .unset, .unset, .unset, .unset] [(.int (own_holds lo lo md))]))
          refine Gl.st (fun t k => XS.iconst X40.here hx rfl (hb hby at_214) k) ?_
          show Gl _ _ _ _ _ _ _ (T40.setTop (mkF m 215 #[.val (.long q1), .second, .val (.long q2), .second, .val (.long q3), .second, .val (.long q4), .second, .val (.int p5), .val (.long lo), .second, .val (.long hi), .second, .val (.long md), .second, .val (.int (p5 &&& (3 : Int32))), .val (.long z92l16), .second, .val (.ref b10), .val (.ref b12), .val (.ref b20), .val (.int (own_holds z92l16 lo md)), .val (.int (own_holds z92l16 md hi)), .val (.int (own_holds z92l16 lo hi)), .val (.int z193s0), .unset, .unset, .unset, .unset] [(.int (0 : Int32)), (.int (own_holds lo lo md))]))
          exact J41 _ _ X40 e40 N40 _ (by simp only [if_neg hc207])
      by_cases hc180 : (own_holds z92l16 lo md) = (0 : Int32)
      · refine Gl.st (fun t k => XS.ifYes Xj37.here hx rfl (pc0 := 180) (pc' := 188) rfl (hb hby at_180) rfl ((if0 _ _).trans (teq hc180).1) (by decide) (by decide) k) ?_
        show Gl _ _ _ _ _ _ _ (Tj37.setTop (mkF m 188 #[.val (.long q1), .second, .val (.long q2), .second, .val (.long q3), .second, .val (.long q4), .second, .val (.int p5), .val (.long lo), .second, .val (.long hi), .second, .val (.long md), .second, .val (.int (p5 &&& (3 : Int32))), .val (.long z92l16), .second, .val (.ref b10), .val (.ref b12), .val (.ref b20), .val (.int (own_holds z92l16 lo md)), .val (.int (own_holds z92l16 md hi)), .val (.int (own_holds z92l16 lo hi)), .unset, .unset, .unset, .unset, .unset] []))
        refine Gl.st (fun t k => XS.iconst Xj37.here hx rfl (hb hby at_188) k) ?_
        show Gl _ _ _ _ _ _ _ (Tj37.setTop (mkF m 189 #[.val (.long q1), .second, .val (.long q2), .second, .val (.long q3), .second, .val (.long q4), .second, .val (.int p5), .val (.long lo), .second, .val (.long hi), .second, .val (.long md), .second, .val (.int (p5 &&& (3 : Int32))), .val (.long z92l16), .second, .val (.ref b10), .val (.ref b12), .val (.ref b20), .val (.int (own_holds z92l16 lo md)), .val (.int (own_holds z92l16 md hi)), .val (.int (own_holds z92l16 lo hi)), .unset, .unset, .unset, .unset, .unset] [(.int (1 : Int32))]))
        refine Gl.st (fun t k => XS.goto Xj37.here hx rfl (pc0 := 189) (pc' := 193) rfl (hb hby at_189) (by decide) (by decide) k) ?_
        show Gl _ _ _ _ _ _ _ (Tj37.setTop (mkF m 193 #[.val (.long q1), .second, .val (.long q2), .second, .val (.long q3), .second, .val (.long q4), .second, .val (.int p5), .val (.long lo), .second, .val (.long hi), .second, .val (.long md), .second, .val (.int (p5 &&& (3 : Int32))), .val (.long z92l16), .second, .val (.ref b10), .val (.ref b12), .val (.ref b20), .val (.int (own_holds z92l16 lo md)), .val (.int (own_holds z92l16 md hi)), .val (.int (own_holds z92l16 lo hi)), .unset, .unset, .unset, .unset, .unset] [(.int (1 : Int32))]))
        exact J39 _ _ Xj37 ej37 Nj37 _ (by simp only [if_pos hc180])
      · refine Gl.st (fun t k => XS.ifNo Xj37.here hx rfl (hb hby at_180) rfl ((if0 _ _).trans (feq hc180).1) k) ?_
        show Gl _ _ _ _ _ _ _ (Tj37.setTop (mkF m 183 #[.val (.long q1), .second, .val (.long q2), .second, .val (.long q3), .second, .val (.long q4), .second, .val (.int p5), .val (.long lo), .second, .val (.long hi), .second, .val (.long md), .second, .val (.int (p5 &&& (3 : Int32))), .val (.long z92l16), .second, .val (.ref b10), .val (.ref b12), .val (.ref b20), .val (.int (own_holds z92l16 lo md)), .val (.int (own_holds z92l16 md hi)), .val (.int (own_holds z92l16 lo hi)), .unset, .unset, .unset, .unset, .unset] []))
        refine Gl.st (fun t k => XS.iload Xj37.here hx rfl (hb hby at_183) rfl  k) ?_
        show Gl _ _ _ _ _ _ _ (Tj37.setTop (mkF m 185 #[.val (.long q1), .second, .val (.long q2), .second, .val (.long q3), .second, .val (.long q4), .second, .val (.int p5), .val (.long lo), .second, .val (.long hi), .second, .val (.long md), .second, .val (.int (p5 &&& (3 : Int32))), .val (.long z92l16), .second, .val (.ref b10), .val (.ref b12), .val (.ref b20), .val (.int (own_holds z92l16 lo md)), .val (.int (own_holds z92l16 md hi)), .val (.int (own_holds z92l16 lo hi)), .unset, .unset, .unset, .unset, .unset] [(.int (own_holds z92l16 md hi))]))
        by_cases hc185 : (own_holds z92l16 md hi) = (0 : Int32)
        · refine Gl.st (fun t k => XS.ifNo Xj37.here hx rfl (hb hby at_185) rfl ((if0 _ _).trans (teq hc185).2) k) ?_
          show Gl _ _ _ _ _ _ _ (Tj37.setTop (mkF m 188 #[.val (.long q1), .second, .val (.long q2), .second, .val (.long q3), .second, .val (.long q4), .second, .val (.int p5), .val (.long lo), .second, .val (.long hi), .second, .val (.long md), .second, .val (.int (p5 &&& (3 : Int32))), .val (.long z92l16), .second, .val (.ref b10), .val (.ref b12), .val (.ref b20), .val (.int (own_holds z92l16 lo md)), .val (.int (own_holds z92l16 md hi)), .val (.int (own_holds z92l16 lo hi)), .unset, .unset, .unset, .unset, .unset] []))
          refine Gl.st (fun t k => XS.iconst Xj37.here hx rfl (hb hby at_188) k) ?_
          show Gl _ _ _ _ _ _ _ (Tj37.setTop (mkF m 189 #[.val (.long q1), .second, .val (.long q2), .second, .val (.long q3), .second, .val (.long q4), .second, .val (.int p5), .val (.long lo), .second, .val (.long hi), .second, .val (.long md), .second, .val (.int (p5 &&& (3 : Int32))), .val (.long z92l16), .second, .val (.ref b10), .val (.ref b12), .val (.ref b20), .val (.int (own_holds z92l16 lo md)), .val (.int (own_holds z92l16 md hi)), .val (.int (own_holds z92l16 lo hi)), .unset, .unset, .unset, .unset, .unset] [(.int (1 : Int32))]))
          refine Gl.st (fun t k => XS.goto Xj37.here hx rfl (pc0 := 189) (pc' := 193) rfl (hb hby at_189) (by decide) (by decide) k) ?_
          show Gl _ _ _ _ _ _ _ (Tj37.setTop (mkF m 193 #[.val (.long q1), .second, .val (.long q2), .second, .val (.long q3), .second, .val (.long q4), .second, .val (.int p5), .val (.long lo), .second, .val (.long hi), .second, .val (.long md), .second, .val (.int (p5 &&& (3 : Int32))), .val (.long z92l16), .second, .val (.ref b10), .val (.ref b12), .val (.ref b20), .val (.int (own_holds z92l16 lo md)), .val (.int (own_holds z92l16 md hi)), .val (.int (own_holds z92l16 lo hi)), .unset, .unset, .unset, .unset, .unset] [(.int (1 : Int32))]))
          exact J39 _ _ Xj37 ej37 Nj37 _ (by simp only [if_neg hc180, if_pos hc185])
        · refine Gl.st (fun t k => XS.ifYes Xj37.here hx rfl (pc0 := 185) (pc' := 192) rfl (hb hby at_185) rfl ((if0 _ _).trans (feq hc185).2) (by decide) (by decide) k) ?_
          show Gl _ _ _ _ _ _ _ (Tj37.setTop (mkF m 192 #[.val (.long q1), .second, .val (.long q2), .second, .val (.long q3), .second, .val (.long q4), .second, .val (.int p5), .val (.long lo), .second, .val (.long hi), .second, .val (.long md), .second, .val (.int (p5 &&& (3 : Int32))), .val (.long z92l16), .second, .val (.ref b10), .val (.ref b12), .val (.ref b20), .val (.int (own_holds z92l16 lo md)), .val (.int (own_holds z92l16 md hi)), .val (.int (own_holds z92l16 lo hi)), .unset, .unset, .unset, .unset, .unset] []))
          refine Gl.st (fun t k => XS.iconst Xj37.here hx rfl (hb hby at_192) k) ?_
          show Gl _ _ _ _ _ _ _ (Tj37.setTop (mkF m 193 #[.val (.long q1), .second, .val (.long q2), .second, .val (.long q3), .second, .val (.long q4), .second, .val (.int p5), .val (.long lo), .second, .val (.long hi), .second, .val (.long md), .second, .val (.int (p5 &&& (3 : Int32))), .val (.long z92l16), .second, .val (.ref b10), .val (.ref b12), .val (.ref b20), .val (.int (own_holds z92l16 lo md)), .val (.int (own_holds z92l16 md hi)), .val (.int (own_holds z92l16 lo hi)), .unset, .unset, .unset, .unset, .unset] [(.int (0 : Int32))]))
          exact J39 _ _ Xj37 ej37 Nj37 _ (by simp only [if_neg hc180, if_neg hc185])
    by_cases hc162 : (own_holds z92l16 lo md) = (0 : Int32)
    · refine Gl.st (fun t k => XS.ifNo X36.here hx rfl (hb hby at_162) rfl ((if0 _ _).trans (teq hc162).2) k) ?_
      show Gl _ _ _ _ _ _ _ (T36.setTop (mkF m 165 #[.val (.long q1), .second, .val (.long q2), .second, .val (.long q3), .second, .val (.long q4), .second, .val (.int p5), .val (.long lo), .second, .val (.long hi), .second, .val (.long md), .second, .val (.int (p5 &&& (3 : Int32))), .val (.long z92l16), .second, .val (.ref b10), .val (.ref b12), .val (.ref b20), .val (.int (own_holds z92l16 lo md)), .val (.int (own_holds z92l16 md hi)), .val (.int (own_holds z92l16 lo hi)), .unset, .unset, .unset, .unset, .unset] [(.int (own_holds z92l16 lo hi))]))
      refine Gl.st (fun t k => XS.iload X36.here hx rfl (hb hby at_165) rfl  k) ?_
      show Gl _ _ _ _ _ _ _ (T36.setTop (mkF m 167 #[.val (.long q1), .second, .val (.long q2), .second, .val (.long q3), .second, .val (.long q4), .second, .val (.int p5), .val (.long lo), .second, .val (.long hi), .second, .val (.long md), .second, .val (.int (p5 &&& (3 : Int32))), .val (.long z92l16), .second, .val (.ref b10), .val (.ref b12), .val (.ref b20), .val (.int (own_holds z92l16 lo md)), .val (.int (own_holds z92l16 md hi)), .val (.int (own_holds z92l16 lo hi)), .unset, .unset, .unset, .unset, .unset] [(.int (own_holds z92l16 md hi)), (.int (own_holds z92l16 lo hi))]))
      by_cases hc167 : (own_holds z92l16 md hi) = (0 : Int32)
      · refine Gl.st (fun t k => XS.ifYes X36.here hx rfl (pc0 := 167) (pc' := 174) rfl (hb hby at_167) rfl ((if0 _ _).trans (teq hc167).1) (by decide) (by decide) k) ?_
        show Gl _ _ _ _ _ _ _ (T36.setTop (mkF m 174 #[.val (.long q1), .second, .val (.long q2), .second, .val (.long q3), .second, .val (.long q4), .second, .val (.int p5), .val (.long lo), .second, .val (.long hi), .second, .val (.long md), .second, .val (.int (p5 &&& (3 : Int32))), .val (.long z92l16), .second, .val (.ref b10), .val (.ref b12), .val (.ref b20), .val (.int (own_holds z92l16 lo md)), .val (.int (own_holds z92l16 md hi)), .val (.int (own_holds z92l16 lo hi)), .unset, .unset, .unset, .unset, .unset] [(.int (own_holds z92l16 lo hi))]))
        refine Gl.st (fun t k => XS.iconst X36.here hx rfl (hb hby at_174) k) ?_
        show Gl _ _ _ _ _ _ _ (T36.setTop (mkF m 175 #[.val (.long q1), .second, .val (.long q2), .second, .val (.long q3), .second, .val (.long q4), .second, .val (.int p5), .val (.long lo), .second, .val (.long hi), .second, .val (.long md), .second, .val (.int (p5 &&& (3 : Int32))), .val (.long z92l16), .second, .val (.ref b10), .val (.ref b12), .val (.ref b20), .val (.int (own_holds z92l16 lo md)), .val (.int (own_holds z92l16 md hi)), .val (.int (own_holds z92l16 lo hi)), .unset, .unset, .unset, .unset, .unset] [(.int (0 : Int32)), (.int (own_holds z92l16 lo hi))]))
        exact J37 _ _ X36 e36 N36 _ (by simp only [if_pos hc162, if_pos hc167])
      · refine Gl.st (fun t k => XS.ifNo X36.here hx rfl (hb hby at_167) rfl ((if0 _ _).trans (feq hc167).1) k) ?_
        show Gl _ _ _ _ _ _ _ (T36.setTop (mkF m 170 #[.val (.long q1), .second, .val (.long q2), .second, .val (.long q3), .second, .val (.long q4), .second, .val (.int p5), .val (.long lo), .second, .val (.long hi), .second, .val (.long md), .second, .val (.int (p5 &&& (3 : Int32))), .val (.long z92l16), .second, .val (.ref b10), .val (.ref b12), .val (.ref b20), .val (.int (own_holds z92l16 lo md)), .val (.int (own_holds z92l16 md hi)), .val (.int (own_holds z92l16 lo hi)), .unset, .unset, .unset, .unset, .unset] [(.int (own_holds z92l16 lo hi))]))
        refine Gl.st (fun t k => XS.iconst X36.here hx rfl (hb hby at_170) k) ?_
        show Gl _ _ _ _ _ _ _ (T36.setTop (mkF m 171 #[.val (.long q1), .second, .val (.long q2), .second, .val (.long q3), .second, .val (.long q4), .second, .val (.int p5), .val (.long lo), .second, .val (.long hi), .second, .val (.long md), .second, .val (.int (p5 &&& (3 : Int32))), .val (.long z92l16), .second, .val (.ref b10), .val (.ref b12), .val (.ref b20), .val (.int (own_holds z92l16 lo md)), .val (.int (own_holds z92l16 md hi)), .val (.int (own_holds z92l16 lo hi)), .unset, .unset, .unset, .unset, .unset] [(.int (1 : Int32)), (.int (own_holds z92l16 lo hi))]))
        refine Gl.st (fun t k => XS.goto X36.here hx rfl (pc0 := 171) (pc' := 175) rfl (hb hby at_171) (by decide) (by decide) k) ?_
        show Gl _ _ _ _ _ _ _ (T36.setTop (mkF m 175 #[.val (.long q1), .second, .val (.long q2), .second, .val (.long q3), .second, .val (.long q4), .second, .val (.int p5), .val (.long lo), .second, .val (.long hi), .second, .val (.long md), .second, .val (.int (p5 &&& (3 : Int32))), .val (.long z92l16), .second, .val (.ref b10), .val (.ref b12), .val (.ref b20), .val (.int (own_holds z92l16 lo md)), .val (.int (own_holds z92l16 md hi)), .val (.int (own_holds z92l16 lo hi)), .unset, .unset, .unset, .unset, .unset] [(.int (1 : Int32)), (.int (own_holds z92l16 lo hi))]))
        exact J37 _ _ X36 e36 N36 _ (by simp only [if_pos hc162, if_neg hc167])
    · refine Gl.st (fun t k => XS.ifYes X36.here hx rfl (pc0 := 162) (pc' := 170) rfl (hb hby at_162) rfl ((if0 _ _).trans (feq hc162).2) (by decide) (by decide) k) ?_
      show Gl _ _ _ _ _ _ _ (T36.setTop (mkF m 170 #[.val (.long q1), .second, .val (.long q2), .second, .val (.long q3), .second, .val (.long q4), .second, .val (.int p5), .val (.long lo), .second, .val (.long hi), .second, .val (.long md), .second, .val (.int (p5 &&& (3 : Int32))), .val (.long z92l16), .second, .val (.ref b10), .val (.ref b12), .val (.ref b20), .val (.int (own_holds z92l16 lo md)), .val (.int (own_holds z92l16 md hi)), .val (.int (own_holds z92l16 lo hi)), .unset, .unset, .unset, .unset, .unset] [(.int (own_holds z92l16 lo hi))]))
      refine Gl.st (fun t k => XS.iconst X36.here hx rfl (hb hby at_170) k) ?_
      show Gl _ _ _ _ _ _ _ (T36.setTop (mkF m 171 #[.val (.long q1), .second, .val (.long q2), .second, .val (.long q3), .second, .val (.long q4), .second, .val (.int p5), .val (.long lo), .second, .val (.long hi), .second, .val (.long md), .second, .val (.int (p5 &&& (3 : Int32))), .val (.long z92l16), .second, .val (.ref b10), .val (.ref b12), .val (.ref b20), .val (.int (own_holds z92l16 lo md)), .val (.int (own_holds z92l16 md hi)), .val (.int (own_holds z92l16 lo hi)), .unset, .unset, .unset, .unset, .unset] [(.int (1 : Int32)), (.int (own_holds z92l16 lo hi))]))
      refine Gl.st (fun t k => XS.goto X36.here hx rfl (pc0 := 171) (pc' := 175) rfl (hb hby at_171) (by decide) (by decide) k) ?_
      show Gl _ _ _ _ _ _ _ (T36.setTop (mkF m 175 #[.val (.long q1), .second, .val (.long q2), .second, .val (.long q3), .second, .val (.long q4), .second, .val (.int p5), .val (.long lo), .second, .val (.long hi), .second, .val (.long md), .second, .val (.int (p5 &&& (3 : Int32))), .val (.long z92l16), .second, .val (.ref b10), .val (.ref b12), .val (.ref b20), .val (.int (own_holds z92l16 lo md)), .val (.int (own_holds z92l16 md hi)), .val (.int (own_holds z92l16 lo hi)), .unset, .unset, .unset, .unset, .unset] [(.int (1 : Int32)), (.int (own_holds z92l16 lo hi))]))
      exact J37 _ _ X36 e36 N36 _ (by simp only [if_neg hc162])
  by_cases hc52 : (p5 &&& (3 : Int32)) = (0 : Int32)
  · refine Gl.st (fun t k => XS.ifNo X8.here hx rfl (hb hby at_52) rfl ((if0 _ _).trans (teq hc52).2) k) ?_
    show Gl _ _ _ _ _ _ _ (T8.setTop (mkF m 55 #[.val (.long q1), .second, .val (.long q2), .second, .val (.long q3), .second, .val (.long q4), .second, .val (.int p5), .val (.long lo), .second, .val (.long hi), .second, .val (.long md), .second, .val (.int (p5 &&& (3 : Int32))), .unset, .unset, .unset, .unset, .unset, .unset, .unset, .unset, .unset, .unset, .unset, .unset, .unset] []))
    refine Gl.st (fun t k => XS.lload X8.here hx rfl (hb hby at_55) rfl  k) ?_
    show Gl _ _ _ _ _ _ _ (T8.setTop (mkF m 57 #[.val (.long q1), .second, .val (.long q2), .second, .val (.long q3), .second, .val (.long q4), .second, .val (.int p5), .val (.long lo), .second, .val (.long hi), .second, .val (.long md), .second, .val (.int (p5 &&& (3 : Int32))), .unset, .unset, .unset, .unset, .unset, .unset, .unset, .unset, .unset, .unset, .unset, .unset, .unset] [(.long lo)]))
    refine Gl.st (fun t k => XS.lstore X8.here hx rfl (hb hby at_57) rfl (l' := #[.val (.long q1), .second, .val (.long q2), .second, .val (.long q3), .second, .val (.long q4), .second, .val (.int p5), .val (.long lo), .second, .val (.long hi), .second, .val (.long md), .second, .val (.int (p5 &&& (3 : Int32))), .val (.long lo), .second, .unset, .unset, .unset, .unset, .unset, .unset, .unset, .unset, .unset, .unset, .unset]) rfl k) ?_
    show Gl _ _ _ _ _ _ _ (T8.setTop (mkF m 59 #[.val (.long q1), .second, .val (.long q2), .second, .val (.long q3), .second, .val (.long q4), .second, .val (.int p5), .val (.long lo), .second, .val (.long hi), .second, .val (.long md), .second, .val (.int (p5 &&& (3 : Int32))), .val (.long lo), .second, .unset, .unset, .unset, .unset, .unset, .unset, .unset, .unset, .unset, .unset, .unset] []))
    refine Gl.st (fun t k => XS.goto X8.here hx rfl (pc0 := 59) (pc' := 92) rfl (hb hby at_59) (by decide) (by decide) k) ?_
    show Gl _ _ _ _ _ _ _ (T8.setTop (mkF m 92 #[.val (.long q1), .second, .val (.long q2), .second, .val (.long q3), .second, .val (.long q4), .second, .val (.int p5), .val (.long lo), .second, .val (.long hi), .second, .val (.long md), .second, .val (.int (p5 &&& (3 : Int32))), .val (.long lo), .second, .unset, .unset, .unset, .unset, .unset, .unset, .unset, .unset, .unset, .unset, .unset] []))
    exact J9 _ _ X8 e8 N8 _ (by simp only [if_pos hc52])
  · refine Gl.st (fun t k => XS.ifYes X8.here hx rfl (pc0 := 52) (pc' := 62) rfl (hb hby at_52) rfl ((if0 _ _).trans (feq hc52).2) (by decide) (by decide) k) ?_
    show Gl _ _ _ _ _ _ _ (T8.setTop (mkF m 62 #[.val (.long q1), .second, .val (.long q2), .second, .val (.long q3), .second, .val (.long q4), .second, .val (.int p5), .val (.long lo), .second, .val (.long hi), .second, .val (.long md), .second, .val (.int (p5 &&& (3 : Int32))), .unset, .unset, .unset, .unset, .unset, .unset, .unset, .unset, .unset, .unset, .unset, .unset, .unset] []))
    refine Gl.st (fun t k => XS.iload X8.here hx rfl (hb hby at_62) rfl  k) ?_
    show Gl _ _ _ _ _ _ _ (T8.setTop (mkF m 64 #[.val (.long q1), .second, .val (.long q2), .second, .val (.long q3), .second, .val (.long q4), .second, .val (.int p5), .val (.long lo), .second, .val (.long hi), .second, .val (.long md), .second, .val (.int (p5 &&& (3 : Int32))), .unset, .unset, .unset, .unset, .unset, .unset, .unset, .unset, .unset, .unset, .unset, .unset, .unset] [(.int (p5 &&& (3 : Int32)))]))
    refine Gl.st (fun t k => XS.iconst X8.here hx rfl (hb hby at_64) k) ?_
    show Gl _ _ _ _ _ _ _ (T8.setTop (mkF m 65 #[.val (.long q1), .second, .val (.long q2), .second, .val (.long q3), .second, .val (.long q4), .second, .val (.int p5), .val (.long lo), .second, .val (.long hi), .second, .val (.long md), .second, .val (.int (p5 &&& (3 : Int32))), .unset, .unset, .unset, .unset, .unset, .unset, .unset, .unset, .unset, .unset, .unset, .unset, .unset] [(.int (1 : Int32)), (.int (p5 &&& (3 : Int32)))]))
    by_cases hc65 : (p5 &&& (3 : Int32)) = (1 : Int32)
    · refine Gl.st (fun t k => XS.icmpNo X8.here hx rfl (hb hby at_65) rfl (teq hc65).2 k) ?_
      show Gl _ _ _ _ _ _ _ (T8.setTop (mkF m 68 #[.val (.long q1), .second, .val (.long q2), .second, .val (.long q3), .second, .val (.long q4), .second, .val (.int p5), .val (.long lo), .second, .val (.long hi), .second, .val (.long md), .second, .val (.int (p5 &&& (3 : Int32))), .unset, .unset, .unset, .unset, .unset, .unset, .unset, .unset, .unset, .unset, .unset, .unset, .unset] []))
      refine Gl.st (fun t k => XS.lload X8.here hx rfl (hb hby at_68) rfl  k) ?_
      show Gl _ _ _ _ _ _ _ (T8.setTop (mkF m 70 #[.val (.long q1), .second, .val (.long q2), .second, .val (.long q3), .second, .val (.long q4), .second, .val (.int p5), .val (.long lo), .second, .val (.long hi), .second, .val (.long md), .second, .val (.int (p5 &&& (3 : Int32))), .unset, .unset, .unset, .unset, .unset, .unset, .unset, .unset, .unset, .unset, .unset, .unset, .unset] [(.long md)]))
      refine Gl.st (fun t k => XS.lstore X8.here hx rfl (hb hby at_70) rfl (l' := #[.val (.long q1), .second, .val (.long q2), .second, .val (.long q3), .second, .val (.long q4), .second, .val (.int p5), .val (.long lo), .second, .val (.long hi), .second, .val (.long md), .second, .val (.int (p5 &&& (3 : Int32))), .val (.long md), .second, .unset, .unset, .unset, .unset, .unset, .unset, .unset, .unset, .unset, .unset, .unset]) rfl k) ?_
      show Gl _ _ _ _ _ _ _ (T8.setTop (mkF m 72 #[.val (.long q1), .second, .val (.long q2), .second, .val (.long q3), .second, .val (.long q4), .second, .val (.int p5), .val (.long lo), .second, .val (.long hi), .second, .val (.long md), .second, .val (.int (p5 &&& (3 : Int32))), .val (.long md), .second, .unset, .unset, .unset, .unset, .unset, .unset, .unset, .unset, .unset, .unset, .unset] []))
      refine Gl.st (fun t k => XS.goto X8.here hx rfl (pc0 := 72) (pc' := 92) rfl (hb hby at_72) (by decide) (by decide) k) ?_
      show Gl _ _ _ _ _ _ _ (T8.setTop (mkF m 92 #[.val (.long q1), .second, .val (.long q2), .second, .val (.long q3), .second, .val (.long q4), .second, .val (.int p5), .val (.long lo), .second, .val (.long hi), .second, .val (.long md), .second, .val (.int (p5 &&& (3 : Int32))), .val (.long md), .second, .unset, .unset, .unset, .unset, .unset, .unset, .unset, .unset, .unset, .unset, .unset] []))
      exact J9 _ _ X8 e8 N8 _ (by simp only [if_neg hc52, if_pos hc65])
    · refine Gl.st (fun t k => XS.icmpYes X8.here hx rfl (pc0 := 65) (pc' := 75) rfl (hb hby at_65) rfl (feq hc65).2 (by decide) (by decide) k) ?_
      show Gl _ _ _ _ _ _ _ (T8.setTop (mkF m 75 #[.val (.long q1), .second, .val (.long q2), .second, .val (.long q3), .second, .val (.long q4), .second, .val (.int p5), .val (.long lo), .second, .val (.long hi), .second, .val (.long md), .second, .val (.int (p5 &&& (3 : Int32))), .unset, .unset, .unset, .unset, .unset, .unset, .unset, .unset, .unset, .unset, .unset, .unset, .unset] []))
      refine Gl.st (fun t k => XS.iload X8.here hx rfl (hb hby at_75) rfl  k) ?_
      show Gl _ _ _ _ _ _ _ (T8.setTop (mkF m 77 #[.val (.long q1), .second, .val (.long q2), .second, .val (.long q3), .second, .val (.long q4), .second, .val (.int p5), .val (.long lo), .second, .val (.long hi), .second, .val (.long md), .second, .val (.int (p5 &&& (3 : Int32))), .unset, .unset, .unset, .unset, .unset, .unset, .unset, .unset, .unset, .unset, .unset, .unset, .unset] [(.int (p5 &&& (3 : Int32)))]))
      refine Gl.st (fun t k => XS.iconst X8.here hx rfl (hb hby at_77) k) ?_
      show Gl _ _ _ _ _ _ _ (T8.setTop (mkF m 78 #[.val (.long q1), .second, .val (.long q2), .second, .val (.long q3), .second, .val (.long q4), .second, .val (.int p5), .val (.long lo), .second, .val (.long hi), .second, .val (.long md), .second, .val (.int (p5 &&& (3 : Int32))), .unset, .unset, .unset, .unset, .unset, .unset, .unset, .unset, .unset, .unset, .unset, .unset, .unset] [(.int (2 : Int32)), (.int (p5 &&& (3 : Int32)))]))
      by_cases hc78 : (p5 &&& (3 : Int32)) = (2 : Int32)
      · refine Gl.st (fun t k => XS.icmpNo X8.here hx rfl (hb hby at_78) rfl (teq hc78).2 k) ?_
        show Gl _ _ _ _ _ _ _ (T8.setTop (mkF m 81 #[.val (.long q1), .second, .val (.long q2), .second, .val (.long q3), .second, .val (.long q4), .second, .val (.int p5), .val (.long lo), .second, .val (.long hi), .second, .val (.long md), .second, .val (.int (p5 &&& (3 : Int32))), .unset, .unset, .unset, .unset, .unset, .unset, .unset, .unset, .unset, .unset, .unset, .unset, .unset] []))
        refine Gl.st (fun t k => XS.lload X8.here hx rfl (hb hby at_81) rfl  k) ?_
        show Gl _ _ _ _ _ _ _ (T8.setTop (mkF m 83 #[.val (.long q1), .second, .val (.long q2), .second, .val (.long q3), .second, .val (.long q4), .second, .val (.int p5), .val (.long lo), .second, .val (.long hi), .second, .val (.long md), .second, .val (.int (p5 &&& (3 : Int32))), .unset, .unset, .unset, .unset, .unset, .unset, .unset, .unset, .unset, .unset, .unset, .unset, .unset] [(.long hi)]))
        refine Gl.st (fun t k => XS.lstore X8.here hx rfl (hb hby at_83) rfl (l' := #[.val (.long q1), .second, .val (.long q2), .second, .val (.long q3), .second, .val (.long q4), .second, .val (.int p5), .val (.long lo), .second, .val (.long hi), .second, .val (.long md), .second, .val (.int (p5 &&& (3 : Int32))), .val (.long hi), .second, .unset, .unset, .unset, .unset, .unset, .unset, .unset, .unset, .unset, .unset, .unset]) rfl k) ?_
        show Gl _ _ _ _ _ _ _ (T8.setTop (mkF m 85 #[.val (.long q1), .second, .val (.long q2), .second, .val (.long q3), .second, .val (.long q4), .second, .val (.int p5), .val (.long lo), .second, .val (.long hi), .second, .val (.long md), .second, .val (.int (p5 &&& (3 : Int32))), .val (.long hi), .second, .unset, .unset, .unset, .unset, .unset, .unset, .unset, .unset, .unset, .unset, .unset] []))
        refine Gl.st (fun t k => XS.goto X8.here hx rfl (pc0 := 85) (pc' := 92) rfl (hb hby at_85) (by decide) (by decide) k) ?_
        show Gl _ _ _ _ _ _ _ (T8.setTop (mkF m 92 #[.val (.long q1), .second, .val (.long q2), .second, .val (.long q3), .second, .val (.long q4), .second, .val (.int p5), .val (.long lo), .second, .val (.long hi), .second, .val (.long md), .second, .val (.int (p5 &&& (3 : Int32))), .val (.long hi), .second, .unset, .unset, .unset, .unset, .unset, .unset, .unset, .unset, .unset, .unset, .unset] []))
        exact J9 _ _ X8 e8 N8 _ (by simp only [if_neg hc52, if_neg hc65, if_pos hc78])
      · refine Gl.st (fun t k => XS.icmpYes X8.here hx rfl (pc0 := 78) (pc' := 88) rfl (hb hby at_78) rfl (feq hc78).2 (by decide) (by decide) k) ?_
        show Gl _ _ _ _ _ _ _ (T8.setTop (mkF m 88 #[.val (.long q1), .second, .val (.long q2), .second, .val (.long q3), .second, .val (.long q4), .second, .val (.int p5), .val (.long lo), .second, .val (.long hi), .second, .val (.long md), .second, .val (.int (p5 &&& (3 : Int32))), .unset, .unset, .unset, .unset, .unset, .unset, .unset, .unset, .unset, .unset, .unset, .unset, .unset] []))
        refine Gl.st (fun t k => XS.lload X8.here hx rfl (hb hby at_88) rfl  k) ?_
        show Gl _ _ _ _ _ _ _ (T8.setTop (mkF m 90 #[.val (.long q1), .second, .val (.long q2), .second, .val (.long q3), .second, .val (.long q4), .second, .val (.int p5), .val (.long lo), .second, .val (.long hi), .second, .val (.long md), .second, .val (.int (p5 &&& (3 : Int32))), .unset, .unset, .unset, .unset, .unset, .unset, .unset, .unset, .unset, .unset, .unset, .unset, .unset] [(.long q4)]))
        refine Gl.st (fun t k => XS.lstore X8.here hx rfl (hb hby at_90) rfl (l' := #[.val (.long q1), .second, .val (.long q2), .second, .val (.long q3), .second, .val (.long q4), .second, .val (.int p5), .val (.long lo), .second, .val (.long hi), .second, .val (.long md), .second, .val (.int (p5 &&& (3 : Int32))), .val (.long q4), .second, .unset, .unset, .unset, .unset, .unset, .unset, .unset, .unset, .unset, .unset, .unset]) rfl k) ?_
        show Gl _ _ _ _ _ _ _ (T8.setTop (mkF m 92 #[.val (.long q1), .second, .val (.long q2), .second, .val (.long q3), .second, .val (.long q4), .second, .val (.int p5), .val (.long lo), .second, .val (.long hi), .second, .val (.long md), .second, .val (.int (p5 &&& (3 : Int32))), .val (.long q4), .second, .unset, .unset, .unset, .unset, .unset, .unset, .unset, .unset, .unset, .unset, .unset] []))
        exact J9 _ _ X8 e8 N8 _ (by simp only [if_neg hc52, if_neg hc65, if_neg hc78])
set_option maxRecDepth 65536 in
set_option maxHeartbeats 40000000 in
theorem comes_1 {Post : Tables → Env → Array Value → State → Outcome → State → Prop} (hpost : ∀ tb e args s v u, (limb_1_1.after args s (.returned v) u = true ∧ limb_1_2.after args s (.returned v) u = true ∧ True) → FrameEnd s (.returned v) u (Jvm.fieldLocs frame_1_writes args s ++ Jvm.arrayLocs frame_1_arrays args s ++ Jvm.staticLocs frame_1_statics s) 16 128 → Post tb e args s (.returned v) u) :
    ArmFor flags0 classFile x code maxLocals ret World_1 tables_1 room_1 Calls_1 rest_1 Pre_1 Post := by
  intro l hfl _ _ p e ha hc hk s m args below hf hA hF happ hP
  obtain ⟨hcalls, hrest, hpre⟩ := hP
  obtain ⟨-, -, -, hnamed, -, -, -, hat⟩ := (Spec.applies_iff hf).mp happ
  obtain ⟨hg, hn⟩ := and_e (Cond.before_iff.mp (show (Jvm.Cond.and given_1 narrow_1).before args s = true from hpre))
  obtain ⟨hcnt, hr0⟩ := and_e hg
  obtain ⟨ha0, hr1⟩ := and_e hr0
  obtain ⟨ha1, hr2⟩ := and_e hr1
  obtain ⟨ha2, hr3⟩ := and_e hr2
  obtain ⟨ha3, hr4⟩ := and_e hr3
  have ha4 := hr4
  obtain ⟨w0, w1, w2, w3, w4, rfl⟩ : ∃ w0 w1 w2 w3 w4 : Value, args = #[w0, w1, w2, w3, w4] := by
    have hs : args.size = 5 := by simpa [Cond.value, given_1] using hcnt
    obtain ⟨L⟩ := args
    match L, hs with
    | [w0, w1, w2, w3, w4], _ => exact ⟨w0, w1, w2, w3, w4, rfl⟩
  have hw := fun d (hd : d ∈ tables_1) => atoms_spec (ws := Jvm.Cond.code x code maxLocals ret :: tables_1) hat d (List.mem_cons_of_mem _ hd)
  obtain ⟨i0, ei0⟩ := isL_v ha0
  obtain rfl : w0 = (.long i0) := Option.some.inj ei0
  obtain ⟨i1, ei1⟩ := isL_v ha1
  obtain rfl : w1 = (.long i1) := Option.some.inj ei1
  obtain ⟨i2, ei2⟩ := isL_v ha2
  obtain rfl : w2 = (.long i2) := Option.some.inj ei2
  obtain ⟨i3, ei3⟩ := isL_v ha3
  obtain rfl : w3 = (.long i3) := Option.some.inj ei3
  obtain ⟨i4, ei4⟩ := is_v ha4
  obtain rfl : w4 = (.int i4) := Option.some.inj ei4
  obtain ⟨n, o, h1, h2, h3, _, L, rfl, ⟨rfl, N⟩, hq⟩ := rm0 l s _ hw tables_1 i0 i1 i2 i3 i4 s.heap s.heap.size (Nat.le_refl _) p e ha hc hk s m _ below hf ((Spec.applies_iff_loose hf).mp happ).1 ⟨rfl, State.Warmed39.refl s, rfl⟩ trivial
  refine ⟨n, _, h1, h2, h3, hpost _ _ _ _ _ _ ⟨Cond.after_iff.mpr rfl, Cond.after_iff.mpr (eq_i res_at (Term.int_eval (1)) rfl), trivial⟩ ⟨hq.1, hq.2.1, (hq.2.2.sift fun y hy => Or.inr (N y hy)).mono (by decide) (by decide)⟩⟩
theorem main_1_1 : Claimed_1_1 := comes_1 fun _ _ _ _ _ _ h hF => ⟨h.1, hF⟩
theorem main_1_2 : Claimed_1_2 := comes_1 fun _ _ _ _ _ _ h hF => ⟨h.2.1, hF⟩
end Jvm.Pilot.@@N@@
namespace Jvm.Pilot.@@N@@
open Jvm Jvm.ClassFile Sem Op Lib Jvm.Free Jvm.Stand Jvm.Pilot.@@N@@.Jvm.D
/-! MADE BY PROGRAM (witnessworld.py) out of the Statement's table words and the real class files: 12 classes; the members and pool entries that the words name. The judged class is class 1, her method 1. -/
namespace start1
open Jvm.ClassFile
def u (s : String) : CpInfo := .utf8 (stringToUtf16 s)
/-- a pool by its gaps: so many unusable entries, then the entry; so many at the end -/
def gap : Nat → List CpInfo → List CpInfo
  | 0, r => r
  | n + 1, r => .unusable :: gap n r
def poolList (es : List (Nat × CpInfo)) (last : Nat) : List CpInfo := es.foldr (fun e r => gap e.1 (e.2 :: r)) (gap last [])
def pool (es : List (Nat × CpInfo)) (last : Nat) : Array CpInfo := ⟨poolList es last⟩
def fileOf (pool : Array CpInfo) (this : Nat) (attrs : Array Attribute := #[]) (ms : Array MethodInfo := #[]) (fl : Nat := 33) (sup : Nat := 0) (ifs : Array Nat := #[]) (fds : Array FieldInfo := #[]) : ClassFile where
  minorVersion := 0
  majorVersion := 65
  constantPool := pool
  accessFlags := fl
  thisClass := this
  superClass := sup
  interfaces := ifs
  fields := fds
  methods := ms
  attributes := attrs
def plain (name : String) (sup : Option ClassId) : Class where
  name := name
  kind := .ordinary
  loader := none
  accessFlags := 33
  super := sup
  interfaces := #[]
  cf := none
  fields := #[]
  methods := #[]
  instanceTypes := #[]
  staticTypes := #[]
  resolved := #[]
  callSites := []
  init := .initialized
  statics := none
  mirror := none

def pool0 : Array CpInfo := pool [(5, u "<init>"), (0, u "()V"), (1, .class_ 10), (1, u "java/lang/Object")] 113

def k0c0 : Code := { maxStack := 0, maxLocals := 1, code := object_method_1_code, exceptionTable := #[], attributes := #[] }
def k0m0 : Method := { name := "<init>", desc := "()V", sig := { parameters := [], returnType := none }, accessFlags := 1, code := some k0c0 }
/-- java/lang/Object -/
def k0 : Class := { plain "java/lang/Object" none with
  accessFlags := 33
  interfaces := #[]
  cf := some (fileOf pool0 8 #[] #[{ accessFlags := 1, nameIndex := 5, descriptorIndex := 6, attributes := #[] }] 33 0 #[] #[])
  fields := #[]
  methods := #[k0m0]
  instanceTypes := #[]
  staticTypes := #[]
  resolved := Array.replicate 124 none
  statics := none }

def pool1 : Array CpInfo := pool [(2, .class_ 4), (1, u "java/lang/Object"), (0, u "<init>"), (0, u "()V"), (0, .methodref 8 9), (0, .class_ 10), (0, .nameAndType 11 12), (0, u "java/lang/Math"), (0, u "min"), (0, u "(JJ)J"), (0, .methodref 8 14), (0, .nameAndType 15 12), (0, u "max"), (0, .class_ 17), (0, u "com/example/meisai/meisai/Period"), (0, .methodref 16 19), (0, .nameAndType 5 20), (0, u "(JJ)V"), (0, .methodref 16 22), (0, .nameAndType 23 24), (0, u "holds"), (0, u "(J)Z"), (0, .class_ 26), (0, u "com/example/meisai/meisai/PeriodHoldsPinLaw"), (2, u "law"), (0, u "(JJJJI)Z")] 3

def k1m0 : Method := { name := "<init>", desc := "()V", sig := { parameters := [], returnType := none }, accessFlags := 2, code := none }
def k1c1 : Code := { maxStack := 6, maxLocals := 29, code := code, exceptionTable := #[], attributes := #[] }
def k1m1 : Method := { name := "law", desc := "(JJJJI)Z", sig := { parameters := [.long, .long, .long, .long, .int], returnType := some .boolean }, accessFlags := 9, code := some k1c1 }
/-- com/example/meisai/meisai/PeriodHoldsPinLaw -/
def k1 : Class := { plain "com/example/meisai/meisai/PeriodHoldsPinLaw" (some 0) with
  accessFlags := 49
  interfaces := #[]
  cf := some (fileOf pool1 25 #[] #[{ accessFlags := 2, nameIndex := 5, descriptorIndex := 6, attributes := #[] }, { accessFlags := 9, nameIndex := 29, descriptorIndex := 30, attributes := #[] }] 49 2 #[] #[])
  fields := #[]
  methods := #[k1m0, k1m1]
  instanceTypes := #[]
  staticTypes := #[]
  resolved := Array.replicate 34 none
  statics := none }

def pool2 : Array CpInfo := pool [(1, .class_ 2), (0, u "java/lang/Math"), (1, .class_ 6), (1, u "java/lang/Object"), (0, u "<init>"), (0, u "()V"), (89, .class_ 100), (1, u "java/lang/Math$RandomNumberGeneratorHolder"), (20, u "(JJ)J"), (50, u "negativeZeroFloatBits"), (0, u "J"), (2, u "negativeZeroDoubleBits"), (21, u "max"), (2, u "min"), (43, u "$assertionsDisabled"), (0, u "Z"), (91, u "twoToTheDoubleScaleDown"), (0, u "D"), (4, u "twoToTheDoubleScaleUp"), (9, u "E"), (3, u "PI"), (2, u "TAU"), (2, u "DEGREES_TO_RADIANS"), (0, u "RADIANS_TO_DEGREES")] 94

def k2m0 : Method := { name := "<init>", desc := "()V", sig := { parameters := [], returnType := none }, accessFlags := 2, code := none }
def k2c1 : Code := { maxStack := 4, maxLocals := 4, code := jdk_29_method_66_code, exceptionTable := #[], attributes := #[] }
def k2m1 : Method := { name := "max", desc := "(JJ)J", sig := { parameters := [.long, .long], returnType := some .long }, accessFlags := 9, code := some k2c1 }
def k2c2 : Code := { maxStack := 4, maxLocals := 4, code := jdk_29_method_70_code, exceptionTable := #[], attributes := #[] }
def k2m2 : Method := { name := "min", desc := "(JJ)J", sig := { parameters := [.long, .long], returnType := some .long }, accessFlags := 9, code := some k2c2 }
/-- java/lang/Math -/
def k2 : Class := { plain "java/lang/Math" (some 0) with
  accessFlags := 49
  interfaces := #[]
  cf := some (fileOf pool2 1 #[.nestMembers #[98]] #[{ accessFlags := 2, nameIndex := 7, descriptorIndex := 8, attributes := #[] }, { accessFlags := 9, nameIndex := 198, descriptorIndex := 121, attributes := #[] }, { accessFlags := 9, nameIndex := 201, descriptorIndex := 121, attributes := #[] }] 49 4 #[] #[{ accessFlags := 25, nameIndex := 354, descriptorIndex := 339, attributes := #[] }, { accessFlags := 25, nameIndex := 358, descriptorIndex := 339, attributes := #[] }, { accessFlags := 25, nameIndex := 361, descriptorIndex := 339, attributes := #[] }, { accessFlags := 26, nameIndex := 364, descriptorIndex := 339, attributes := #[] }, { accessFlags := 26, nameIndex := 365, descriptorIndex := 339, attributes := #[] }, { accessFlags := 26, nameIndex := 172, descriptorIndex := 173, attributes := #[] }, { accessFlags := 26, nameIndex := 176, descriptorIndex := 173, attributes := #[] }, { accessFlags := 8, nameIndex := 344, descriptorIndex := 339, attributes := #[] }, { accessFlags := 8, nameIndex := 338, descriptorIndex := 339, attributes := #[] }, { accessFlags := 4120, nameIndex := 245, descriptorIndex := 246, attributes := #[] }])
  fields := #[{ name := "E", type := .double, accessFlags := 25, slot := 0, constantValue := 0 }, { name := "PI", type := .double, accessFlags := 25, slot := 1, constantValue := 0 }, { name := "TAU", type := .double, accessFlags := 25, slot := 2, constantValue := 0 }, { name := "DEGREES_TO_RADIANS", type := .double, accessFlags := 26, slot := 3, constantValue := 0 }, { name := "RADIANS_TO_DEGREES", type := .double, accessFlags := 26, slot := 4, constantValue := 0 }, { name := "negativeZeroFloatBits", type := .long, accessFlags := 26, slot := 5, constantValue := 0 }, { name := "negativeZeroDoubleBits", type := .long, accessFlags := 26, slot := 6, constantValue := 0 }, { name := "twoToTheDoubleScaleUp", type := .double, accessFlags := 8, slot := 7, constantValue := 0 }, { name := "twoToTheDoubleScaleDown", type := .double, accessFlags := 8, slot := 8, constantValue := 0 }, { name := "$assertionsDisabled", type := .boolean, accessFlags := 4120, slot := 9, constantValue := 0 }]
  methods := #[k2m0, k2m1, k2m2]
  instanceTypes := #[]
  staticTypes := #[.double, .double, .double, .double, .double, .long, .long, .double, .double, .boolean]
  resolved := Array.replicate 460 none
  statics := none }

def pool3 : Array CpInfo := pool [(1, .methodref 2 3), (0, .class_ 4), (0, .nameAndType 5 6), (0, u "java/lang/Object"), (0, u "<init>"), (0, u "()V"), (0, .class_ 8), (0, u "java/lang/Record")] 13

def k3c0 : Code := { maxStack := 1, maxLocals := 1, code := jdk_30_method_1_code, exceptionTable := #[], attributes := #[] }
def k3m0 : Method := { name := "<init>", desc := "()V", sig := { parameters := [], returnType := none }, accessFlags := 4, code := some k3c0 }
/-- java/lang/Record -/
def k3 : Class := { plain "java/lang/Record" (some 0) with
  accessFlags := 1057
  interfaces := #[]
  cf := some (fileOf pool3 7 #[] #[{ accessFlags := 4, nameIndex := 5, descriptorIndex := 6, attributes := #[] }] 1057 2 #[] #[])
  fields := #[]
  methods := #[k3m0]
  instanceTypes := #[]
  staticTypes := #[]
  resolved := Array.replicate 22 none
  statics := none }

def pool4 : Array CpInfo := pool [(1, .class_ 2), (0, u "java/lang/Comparable"), (0, .class_ 4), (0, u "java/lang/Object")] 7

/-- java/lang/Comparable -/
def k4 : Class := { plain "java/lang/Comparable" (some 0) with
  accessFlags := 1537
  interfaces := #[]
  cf := some (fileOf pool4 1 #[] #[] 1537 3 #[] #[])
  fields := #[]
  methods := #[]
  instanceTypes := #[]
  staticTypes := #[]
  resolved := Array.replicate 12 none
  statics := none }

def pool5 : Array CpInfo := pool [(3, .methodref 4 5), (0, .class_ 6), (0, .nameAndType 7 8), (0, u "java/lang/Record"), (0, u "<init>"), (0, u "()V"), (0, .fieldref 10 11), (0, .class_ 12), (0, .nameAndType 13 14), (0, u "com/example/meisai/meisai/Period"), (0, u "start"), (0, u "J"), (0, .fieldref 10 16), (0, .nameAndType 17 14), (0, u "end"), (18, .class_ 37), (0, u "com/example/meisai/meisai/Period$Range"), (2, u "(JJ)V"), (47, u "holds"), (0, u "(J)Z"), (48, .class_ 139), (0, u "java/lang/Comparable"), (0, u "HOURS_PER_DAY"), (0, u "I"), (2, u "MICROS_PER_HOUR"), (21, .class_ 167), (0, u "com/example/meisai/meisai/Period$Calendar")] 21

def k5c0 : Code := { maxStack := 3, maxLocals := 5, code := prog_16_method_1_code, exceptionTable := #[], attributes := #[] }
def k5m0 : Method := { name := "<init>", desc := "(JJ)V", sig := { parameters := [.long, .long], returnType := none }, accessFlags := 0, code := some k5c0 }
def k5c1 : Code := { maxStack := 4, maxLocals := 3, code := prog_16_method_3_code, exceptionTable := #[], attributes := #[] }
def k5m1 : Method := { name := "holds", desc := "(J)Z", sig := { parameters := [.long], returnType := some .boolean }, accessFlags := 0, code := some k5c1 }
/-- com/example/meisai/meisai/Period -/
def k5 : Class := { plain "com/example/meisai/meisai/Period" (some 3) with
  accessFlags := 48
  interfaces := #[4]
  cf := some (fileOf pool5 10 #[.nestMembers #[36, 166]] #[{ accessFlags := 0, nameIndex := 7, descriptorIndex := 40, attributes := #[] }, { accessFlags := 0, nameIndex := 88, descriptorIndex := 89, attributes := #[] }] 48 4 #[138] #[{ accessFlags := 18, nameIndex := 13, descriptorIndex := 14, attributes := #[] }, { accessFlags := 18, nameIndex := 17, descriptorIndex := 14, attributes := #[] }, { accessFlags := 24, nameIndex := 140, descriptorIndex := 141, attributes := #[] }, { accessFlags := 26, nameIndex := 144, descriptorIndex := 14, attributes := #[] }])
  fields := #[{ name := "start", type := .long, accessFlags := 18, slot := 0, constantValue := 0 }, { name := "end", type := .long, accessFlags := 18, slot := 1, constantValue := 0 }, { name := "HOURS_PER_DAY", type := .int, accessFlags := 24, slot := 0, constantValue := 0 }, { name := "MICROS_PER_HOUR", type := .long, accessFlags := 26, slot := 1, constantValue := 0 }]
  methods := #[k5m0, k5m1]
  instanceTypes := #[.long, .long]
  staticTypes := #[.int, .long]
  resolved := Array.replicate 189 none
  statics := none }

def pool6 : Array CpInfo := pool [(1, u "java/lang/Cloneable"), (0, .class_ 1), (0, u "java/lang/Object"), (0, .class_ 3)] 3

/-- java/lang/Cloneable -/
def k6 : Class := { plain "java/lang/Cloneable" (some 0) with
  accessFlags := 1537
  interfaces := #[]
  cf := some (fileOf pool6 2 #[] #[] 1537 4 #[] #[])
  fields := #[]
  methods := #[]
  instanceTypes := #[]
  staticTypes := #[]
  resolved := Array.replicate 8 none
  statics := none }

def pool7 : Array CpInfo := pool [(1, u "java/io/Serializable"), (0, .class_ 1), (0, u "java/lang/Object"), (0, .class_ 3)] 3

/-- java/io/Serializable -/
def k7 : Class := { plain "java/io/Serializable" (some 0) with
  accessFlags := 1537
  interfaces := #[]
  cf := some (fileOf pool7 2 #[] #[] 1537 4 #[] #[])
  fields := #[]
  methods := #[]
  instanceTypes := #[]
  staticTypes := #[]
  resolved := Array.replicate 8 none
  statics := none }

/-- the primitive byte -/
def k8 : Class := { plain "byte" none with kind := .primitive 'B', accessFlags := 0x411 }
/-- [B -/
def k9 : Class := { plain "[B" (some 0) with kind := .array 8 .byte, interfaces := #[6, 7], accessFlags := 1041 }

/-- the primitive int -/
def k10 : Class := { plain "int" none with kind := .primitive 'I', accessFlags := 0x411 }
/-- [I -/
def k11 : Class := { plain "[I" (some 0) with kind := .array 10 .int, interfaces := #[6, 7], accessFlags := 1041 }

def heap : Heap := #[]
def classes : Array Class := #[k0, k1, k2, k3, k4, k5, k6, k7, k8, k9, k10, k11]
def interned : List (Array UInt16 × Addr) := []
def slotsUsed : Nat := 0
def theMethod : MethodId := ⟨1, 1⟩
def args0 : Array Value := #[.long 5, .long 3, .long 0, .long (-7), .int 2]
def aboutOver (below : List Frame) : State where
  vm := { classes := classes, interned := interned.toArray }
  heap := heap
  slotsUsed := slotsUsed
  threads := #[{ frames := .invoking theMethod args0 :: below }]
def below0 : List Frame := [.native { method := ⟨0, 0⟩, args := #[] }]
def about1 : State := aboutOver below0
def p0 : Program := .bare "" "" ""
def e0 : Env := launch0.env 0 0 0
theorem w_frames : about1.frames = Frame.invoking theMethod args0 :: below0 := rfl
set_option maxRecDepth 65536 in
theorem w_args : argsFit about1.vm theMethod args0 = true := by decide +kernel
set_option maxRecDepth 65536 in
theorem w_heap : heapFits about1 = true := by decide +kernel
set_option maxRecDepth 65536 in
theorem w_runnable : about1.curStatus? = some .runnable := by decide +kernel
set_option maxRecDepth 65536 in
theorem w_alone : about1.alone = true := by decide +kernel
set_option maxRecDepth 65536 in
theorem w_named : about1.methodNamed? x = some theMethod := by decide +kernel
set_option maxRecDepth 65536 in
theorem w_hears : about1.hears theMethod below0 = true := by decide +kernel
set_option maxRecDepth 65536 in
theorem w_ripe : about1.ripe theMethod args0 below0 = true := by decide +kernel
theorem w_running : about1.status = .running := rfl
set_option maxRecDepth 65536 in
theorem w_room : about1.hasRoom e0.platform room_1 = true :=
  launch0.hasRoom_least _ room_1 (by decide +kernel) (by decide +kernel) (by decide +kernel) (by decide +kernel) (by decide +kernel) (by decide +kernel)
theorem allAtoms_all (ts : List Jvm.Cond) (a : Array Jvm.Value) (st : Jvm.State) : (allAtoms ts).before a st = ts.all (fun c => c.before a st) := by
  induction ts with
  | nil => rfl
  | cons c t ih =>
    show (Jvm.Cond.and c (allAtoms t)).before a st = _
    rw [Jvm.Cond.before_and, ih, List.all_cons]
def words1 : List Jvm.Cond := Jvm.Cond.code x code maxLocals ret :: tables_1
/-- a 'code' word, met by the world's own term for the bytes: nothing is compared byte by byte -/
theorem code_word {y : MethodName} {bytes : ByteArray} {mx : Nat} {rt : Option FieldType} {a : Array Value} {s : State} {m : MethodId} {meth : Method} {c : Code} (h1 : s.methodNamed? y = some m) (h2 : s.vm.method? m = some meth) (h3 : meth.code = some c) (h4 : c.code = bytes)
    (h5 : (c.maxLocals == mx && c.exceptionTable.isEmpty && decide (c.maxStack ≤ mostOperands) && decide (meth.sig.returnType = rt) && !meth.locks && decide (parseMethodDescriptor y.desc = some meth.sig)) = true) : (Jvm.Cond.code y bytes mx rt).before a s = true := by
  simp only [Bool.and_eq_true, beq_iff_eq, Bool.not_eq_true', decide_eq_true_eq] at h5
  obtain ⟨⟨⟨⟨⟨g1, g2⟩, g3⟩, g4⟩, g5⟩, g6⟩ := h5
  simp [Cond.before, Cond.holds, Cond.value, h1, h2, h3, h4, g1, g2, g3, g4, g5, g6]
def isCode : Jvm.Cond → Bool
  | .code _ _ _ _ => true
  | _ => false
theorem all_split {L : List Jvm.Cond} {P : Jvm.Cond → Bool} (h1 : L.all (fun c => isCode c || P c) = true) (h2 : ∀ c ∈ L.filter isCode, P c = true) : L.all P = true := by
  refine List.all_eq_true.mpr fun c hc => ?_
  have h := List.all_eq_true.mp h1 c hc
  rcases Bool.eq_false_or_eq_true (isCode c) with hi | hi
  · exact h2 c (List.mem_filter.mpr ⟨hc, hi⟩)
  · simpa [hi] using h
set_option maxRecDepth 65536 in
theorem w_c0 : (Jvm.Cond.code x code maxLocals ret).before args0 about1 = true := code_word (m := ⟨1, 1⟩) (meth := k1m1) (c := k1c1) (by decide +kernel) rfl rfl rfl (by decide +kernel)
set_option maxRecDepth 65536 in
theorem w_c1 : (Jvm.Cond.code ({ cls := "java/lang/Math", name := "min", desc := "(JJ)J" } : Jvm.MethodName) jdk_29_method_70_code (4 : Nat) (Option.some Jvm.ClassFile.FieldType.long)).before args0 about1 = true := code_word (m := ⟨2, 2⟩) (meth := k2m2) (c := k2c2) (by decide +kernel) rfl rfl rfl (by decide +kernel)
set_option maxRecDepth 65536 in
theorem w_c2 : (Jvm.Cond.code ({ cls := "java/lang/Math", name := "max", desc := "(JJ)J" } : Jvm.MethodName) jdk_29_method_66_code (4 : Nat) (Option.some Jvm.ClassFile.FieldType.long)).before args0 about1 = true := code_word (m := ⟨2, 1⟩) (meth := k2m1) (c := k2c1) (by decide +kernel) rfl rfl rfl (by decide +kernel)
set_option maxRecDepth 65536 in
theorem w_c3 : (Jvm.Cond.code ({ cls := "com/example/meisai/meisai/Period", name := "<init>", desc := "(JJ)V" } : Jvm.MethodName) prog_16_method_1_code (5 : Nat) (Option.none : Option Jvm.ClassFile.FieldType)).before args0 about1 = true := code_word (m := ⟨5, 0⟩) (meth := k5m0) (c := k5c0) (by decide +kernel) rfl rfl rfl (by decide +kernel)
set_option maxRecDepth 65536 in
theorem w_c4 : (Jvm.Cond.code ({ cls := "java/lang/Record", name := "<init>", desc := "()V" } : Jvm.MethodName) jdk_30_method_1_code (1 : Nat) (Option.none : Option Jvm.ClassFile.FieldType)).before args0 about1 = true := code_word (m := ⟨3, 0⟩) (meth := k3m0) (c := k3c0) (by decide +kernel) rfl rfl rfl (by decide +kernel)
set_option maxRecDepth 65536 in
theorem w_c5 : (Jvm.Cond.code ({ cls := "java/lang/Object", name := "<init>", desc := "()V" } : Jvm.MethodName) object_method_1_code (1 : Nat) (Option.none : Option Jvm.ClassFile.FieldType)).before args0 about1 = true := code_word (m := ⟨0, 0⟩) (meth := k0m0) (c := k0c0) (by decide +kernel) rfl rfl rfl (by decide +kernel)
set_option maxRecDepth 65536 in
theorem w_c6 : (Jvm.Cond.code ({ cls := "com/example/meisai/meisai/Period", name := "holds", desc := "(J)Z" } : Jvm.MethodName) prog_16_method_3_code (3 : Nat) (Option.some Jvm.ClassFile.FieldType.boolean)).before args0 about1 = true := code_word (m := ⟨5, 1⟩) (meth := k5m1) (c := k5c1) (by decide +kernel) rfl rfl rfl (by decide +kernel)
def codes1 : List Jvm.Cond := [Jvm.Cond.code x code maxLocals ret, Jvm.Cond.code ({ cls := "java/lang/Math", name := "min", desc := "(JJ)J" } : Jvm.MethodName) jdk_29_method_70_code (4 : Nat) (Option.some Jvm.ClassFile.FieldType.long), Jvm.Cond.code ({ cls := "java/lang/Math", name := "max", desc := "(JJ)J" } : Jvm.MethodName) jdk_29_method_66_code (4 : Nat) (Option.some Jvm.ClassFile.FieldType.long), Jvm.Cond.code ({ cls := "com/example/meisai/meisai/Period", name := "<init>", desc := "(JJ)V" } : Jvm.MethodName) prog_16_method_1_code (5 : Nat) (Option.none : Option Jvm.ClassFile.FieldType), Jvm.Cond.code ({ cls := "java/lang/Record", name := "<init>", desc := "()V" } : Jvm.MethodName) jdk_30_method_1_code (1 : Nat) (Option.none : Option Jvm.ClassFile.FieldType), Jvm.Cond.code ({ cls := "java/lang/Object", name := "<init>", desc := "()V" } : Jvm.MethodName) object_method_1_code (1 : Nat) (Option.none : Option Jvm.ClassFile.FieldType), Jvm.Cond.code ({ cls := "com/example/meisai/meisai/Period", name := "holds", desc := "(J)Z" } : Jvm.MethodName) prog_16_method_3_code (3 : Nat) (Option.some Jvm.ClassFile.FieldType.boolean)]
set_option maxRecDepth 65536 in
theorem codes_eq : words1.filter isCode = codes1 := rfl
theorem w_codes : ∀ c ∈ words1.filter isCode, c.before args0 about1 = true := by
  rw [codes_eq]
  intro c hc
  simp only [codes1, List.mem_cons, List.not_mem_nil, or_false] at hc
  rcases hc with rfl | rfl | rfl | rfl | rfl | rfl | rfl
  · exact w_c0
  · exact w_c1
  · exact w_c2
  · exact w_c3
  · exact w_c4
  · exact w_c5
  · exact w_c6
set_option maxRecDepth 65536 in
theorem w_t1 : (words1.take 24).all (fun c => isCode c || c.before args0 about1) = true := by decide +kernel
set_option maxRecDepth 65536 in
theorem w_t2 : (words1.drop 24).all (fun c => isCode c || c.before args0 about1) = true := by decide +kernel
theorem w_tables : (allAtoms (Jvm.Cond.code x code maxLocals ret :: tables_1)).before args0 about1 = true := by
  rw [allAtoms_all]
  show words1.all (fun c => c.before args0 about1) = true
  refine all_split ?_ w_codes
  rw [← List.take_append_drop 24 words1, List.all_append, w_t1, w_t2]
  rfl
set_option maxRecDepth 65536 in
theorem w_case : (Jvm.Cond.and given_1 narrow_1).before args0 about1 = true := by decide +kernel
theorem w_applies : (headSpec (Jvm.Cond.code x code maxLocals ret :: tables_1) room_1).applies x e0.platform about1 = true :=
  (Spec.applies_iff w_frames).mpr ⟨w_running, w_runnable, w_alone, w_named, w_hears, w_ripe, w_room, w_tables⟩
theorem atStart : AtStart classFile x code maxLocals ret World_1 tables_1 room_1 Calls_1 rest_1 Pre_1 launch0 p0 e0 about1 theMethod args0 below0 :=
  ⟨lists_1, trivial, launch0.admits_env _ _ _, launch0.least_env, fairChoices_fair.cas, fairChoices_fair.clock, w_frames, w_args, w_heap, w_applies, trivial, trivial, w_case⟩
end start1
theorem witness_1 : WitnessClaimed_1 := ⟨start1.p0, start1.e0, start1.about1, start1.theMethod, start1.args0, start1.below0, start1.atStart⟩
end Jvm.Pilot.@@N@@
