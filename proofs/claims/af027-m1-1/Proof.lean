import JvmDerived
import JvmDerived.Pilot.@@N@@Statement
import JvmDerived.Pilot.@@N@@Code
set_option linter.unusedVariables false
set_option linter.unusedSimpArgs false
namespace Jvm.RoadKit
open Sem ClassFile Op Lib Jvm.Stand Jvm.Free Jvm.LawKit
section New
variable {p : Program} {l : Launch} {e : Env} {R : Room} {s : State} {m : MethodId} {args : Array Value} {below : List Frame} {meth : Method} {c : Code} {T T' : State} {locs : List Loc} {cells slots cs sl : Nat} {Q : Option Value → Heap → List Loc → Prop}
/-- from T the run ends, and Q holds at the end -/
def Gl (p : Program) (e : Env) (below : List Frame) (s : State) (Q : Option Value → Heap → List Loc → Prop) (cs sl : Nat) (T : State) : Prop :=
  ∃ s₂ o, Steps p.tables e below T s₂ ∧ s₂.status = .running ∧ Ended s₂ below o ∧ ∃ v L, o = .returned v ∧ Q v s₂.heap L ∧ FrameEnd s o s₂ L cs sl
theorem Gl.st (k : ∀ t, Steps p.tables e below T' t → Steps p.tables e below T t) (h : Gl p e below s Q cs sl T') : Gl p e below s Q cs sl T := by
  obtain ⟨a, o, h1, r⟩ := h
  exact ⟨a, o, k _ h1, r⟩
theorem Gl.to (k : Steps p.tables e below T T') (h : Gl p e below s Q cs sl T') : Gl p e below s Q cs sl T := Gl.st (fun _ q => k.trans q) h
theorem Gl.fin (X : Stand p l e R s m args below meth c T locs cells slots) {v : Option Value} (hv : meth.sig.returnType = none → v = none) (hlk : meth.locks = false) (hQ : Q v T.heap locs) (hc : cells ≤ cs) (hs : slots ≤ sl) {S0 : State}
    (k : ∀ fs, (∀ (f : JFrame) (acts : List Action), f.method = m → f.locked = none → f.entered = [] → (doReturn e (T.setTop f) acts v).1 = T.setFrames fs) → Steps p.tables e below S0 (T.setFrames fs)) : Gl p e below s Q cs sl S0 := by
  obtain ⟨fs, hr, hrun, hended, hW, hsame⟩ := X.leave hv hlk
  exact ⟨_, _, k fs hr, hrun, hended, v, locs, rfl, hQ, ⟨_, rfl⟩, hW, hsame.mono hc hs⟩
theorem Gl.retN (X : Stand p l e R s m args below meth c T locs cells slots) (hx : p.tables.exec = Jvm.exec) (hlk : meth.locks = false) {pc : Nat} {Ls : Array Slot} {z : Int32} {t : FieldType} {rest : List Value} (hret : meth.sig.returnType = some t) (ht : t = .boolean ∨ t = .byte ∨ t = .char ∨ t = .short)
    (hd : decode c.code pc = .ok (.ireturn, 1)) (hQ : Q (some (.int (nar t z))) T.heap locs) (hc : cells ≤ cs) (hs : slots ≤ sl) : Gl p e below s Q cs sl (T.setTop (mkF m pc Ls (.int z :: rest))) :=
  Gl.fin X (fun h => by rw [hret] at h; cases h) hlk hQ hc hs fun _ hr => Jvm.RoadKit.retN X hx hret ht hd hr
theorem Gl.retI (X : Stand p l e R s m args below meth c T locs cells slots) (hx : p.tables.exec = Jvm.exec) (hlk : meth.locks = false) {pc : Nat} {Ls : Array Slot} {z : Int32} {rest : List Value} (hret : meth.sig.returnType = some .int)
    (hd : decode c.code pc = .ok (.ireturn, 1)) (hQ : Q (some (.int z)) T.heap locs) (hc : cells ≤ cs) (hs : slots ≤ sl) : Gl p e below s Q cs sl (T.setTop (mkF m pc Ls (.int z :: rest))) :=
  Gl.fin X (fun h => by rw [hret] at h; cases h) hlk hQ hc hs fun _ hr => retOut X hx hret rfl (Or.inl ⟨rfl, Or.inl rfl, z, rfl⟩) hd hr
theorem Gl.retJ (X : Stand p l e R s m args below meth c T locs cells slots) (hx : p.tables.exec = Jvm.exec) (hlk : meth.locks = false) {pc : Nat} {Ls : Array Slot} {z : Int64} {rest : List Value} (hret : meth.sig.returnType = some .long)
    (hd : decode c.code pc = .ok (.lreturn, 1)) (hQ : Q (some (.long z)) T.heap locs) (hc : cells ≤ cs) (hs : slots ≤ sl) : Gl p e below s Q cs sl (T.setTop (mkF m pc Ls (.long z :: rest))) :=
  Gl.fin X (fun h => by rw [hret] at h; cases h) hlk hQ hc hs fun _ hr => retOut X hx hret rfl (Or.inr (Or.inl ⟨rfl, rfl, z, rfl⟩)) hd hr
theorem Gl.retV (X : Stand p l e R s m args below meth c T locs cells slots) (hx : p.tables.exec = Jvm.exec) (hlk : meth.locks = false) {pc : Nat} {Ls : Array Slot} (hret : meth.sig.returnType = none)
    (hd : decode c.code pc = .ok (.return_, 1)) (hQ : Q none T.heap locs) (hc : cells ≤ cs) (hs : slots ≤ sl) : Gl p e below s Q cs sl (T.setTop (mkF m pc Ls [])) :=
  Gl.fin X (fun _ => rfl) hlk hQ hc hs fun _ hr => X.returnOut hx hret hd hr
/-- .. where String constants may have been interned -/
def GlW (p : Program) (e : Env) (below : List Frame) (s : State) (Q : Option Value → Heap → List Loc → Prop) (cs sl : Nat) (T : State) : Prop :=
  ∃ s₂ o, Steps p.tables e below T s₂ ∧ s₂.status = .running ∧ Ended s₂ below o ∧ ∃ v L, o = .returned v ∧ Q v s₂.heap L ∧ ReturnedEndW s o s₂ L cs sl
theorem GlW.st (k : ∀ t, Steps p.tables e below T' t → Steps p.tables e below T t) (h : GlW p e below s Q cs sl T') : GlW p e below s Q cs sl T := by
  obtain ⟨a, o, h1, r⟩ := h
  exact ⟨a, o, k _ h1, r⟩
theorem GlW.to (k : Steps p.tables e below T T') (h : GlW p e below s Q cs sl T') : GlW p e below s Q cs sl T := GlW.st (fun _ q => k.trans q) h
theorem GlW.retN {vm₁ : Vm} (X : Stand p l e R (s.setVm vm₁) m args below meth c T locs cells slots) (hx : p.tables.exec = Jvm.exec) {n : Nat} (hS : s.Since vm₁ n) (hn : n ≤ T.heap.size) (hlk : meth.locks = false) {pc : Nat} {Ls : Array Slot} {z : Int32} {t : FieldType} {rest : List Value} (hret : meth.sig.returnType = some t) (ht : t = .boolean ∨ t = .byte ∨ t = .char ∨ t = .short)
    (hd : decode c.code pc = .ok (.ireturn, 1)) (hQ : Q (some (.int (nar t z))) T.heap locs) (hc : cells ≤ cs) (hs : slots ≤ sl) : GlW p e below s Q cs sl (T.setTop (mkF m pc Ls (.int z :: rest))) := by
  obtain ⟨fs, hr, hrun, hended, h1, h2, h3, h4⟩ := X.leaveW hS hn (v := some (.int (nar t z))) (fun h => by rw [hret] at h; cases h) hlk
  exact ⟨_, _, Jvm.RoadKit.retN X hx hret ht hd hr, hrun, hended, _, locs, rfl, hQ, h1, h2, h3, h4.mono hc hs⟩
theorem lc_t {x y : Int64} (h : x < y) : ifCond.holds .lt (lcmpW x y) = true ∧ ifCond.holds .ge (lcmpW x y) = false ∧ ifCond.holds .gt (lcmpW y x) = true ∧ ifCond.holds .le (lcmpW y x) = false :=
  have a := tlt ((lw_lt x y).mpr h)
  have b := tlt ((lw_gt y x).mpr h)
  ⟨(if0 _ _).trans a.1, (if0 _ _).trans a.2.1, (if0 _ _).trans b.2.2.1, (if0 _ _).trans b.2.2.2⟩
theorem lc_f {x y : Int64} (h : ¬ x < y) : ifCond.holds .lt (lcmpW x y) = false ∧ ifCond.holds .ge (lcmpW x y) = true ∧ ifCond.holds .gt (lcmpW y x) = false ∧ ifCond.holds .le (lcmpW y x) = true :=
  have a := flt (fun q => h ((lw_lt x y).mp q))
  have b := flt (fun q => h ((lw_gt y x).mp q))
  ⟨(if0 _ _).trans a.1, (if0 _ _).trans a.2.1, (if0 _ _).trans b.2.2.1, (if0 _ _).trans b.2.2.2⟩
theorem le_t {x y : Int64} (h : x = y) : ifCond.holds .eq (lcmpW x y) = true ∧ ifCond.holds .ne (lcmpW x y) = false :=
  have a := teq ((lw_eq x y).mpr h)
  ⟨(if0 _ _).trans a.1, (if0 _ _).trans a.2⟩
theorem le_f {x y : Int64} (h : ¬ x = y) : ifCond.holds .eq (lcmpW x y) = false ∧ ifCond.holds .ne (lcmpW x y) = true :=
  have a := feq (fun q => h ((lw_eq x y).mp q))
  ⟨(if0 _ _).trans a.1, (if0 _ _).trans a.2⟩
end New
end Jvm.RoadKit
namespace Jvm.Pilot.@@N@@
open Jvm Jvm.ClassFile Sem Op Lib Jvm.Free Jvm.Stand Jvm.LawKit Jvm.RoadKit Bundle Jvm.Pilot.@@N@@.Jvm.D
def own_part (p1 : Int32) : Int64 := (if p1 = (2147483647 : Int32) then (0 : Int64) else (p1.toInt64))
theorem d1_0 : decode method_3_code 0 = .ok (.iload_n 0, 1) := by decide +kernel
theorem d1_1 : decode method_3_code 1 = .ok (.ldc 9, 2) := by decide +kernel
theorem d1_3 : decode method_3_code 3 = .ok (.if_icmp .ne 5, 3) := by decide +kernel
theorem d1_6 : decode method_3_code 6 = .ok (.lconst 0, 1) := by decide +kernel
theorem d1_7 : decode method_3_code 7 = .ok (.lreturn, 1) := by decide +kernel
theorem d1_8 : decode method_3_code 8 = .ok (.iload_n 0, 1) := by decide +kernel
theorem d1_9 : decode method_3_code 9 = .ok (.i2l, 1) := by decide +kernel
theorem d1_10 : decode method_3_code 10 = .ok (.lreturn, 1) := by decide +kernel
theorem pf_0 : plainFor (⟨"com/example/enact/enact/engine/MarkingCountedPinLaw", "part", "(I)J"⟩ : MethodName) = true := by decide +kernel
def Q1 (Z : State) (p1 : Int32) (h0 : Heap) (n0 : Nat) (v : Option Value) (h : Heap) (L : List Loc) : Prop := v = some (.long (own_part p1)) ∧ Fr n0 L ∧ h = h0
theorem ef_1 (m : MethodId) (p1 : Int32) : entryFrame m #[(.int p1)] 1 = mkF m 0 #[.val (.int p1)] [] := by first | (simp [entryFrame, mkF, argsToLocals, Value.category]; done) | rfl
set_option maxRecDepth 65536 in
set_option maxHeartbeats 40000000 in
theorem rm1 (l : Launch) (Z : State) (a0 : Array Value) (hw : ∀ d ∈ tables_1, d.before a0 Z = true) (ws : List Jvm.Cond) (p1 : Int32) (h0 : Heap) (n0 : Nat) :
    MetFree l (⟨"com/example/enact/enact/engine/MarkingCountedPinLaw", "part", "(I)J"⟩ : MethodName) (head1 (Jvm.Cond.code (⟨"com/example/enact/enact/engine/MarkingCountedPinLaw", "part", "(I)J"⟩ : MethodName) method_3_code 1 (some .long) :: ws) ({ frames := 0, cells := 0, slots := 0, locals := 0 } : Room)) (fun a U => a = #[(.int p1)] ∧ Z.Warmed39 U.vm ∧ U.heap = h0) (fun _ _ _ _ _ => True) (fun _ U o U' => ∃ v L, o = .returned v ∧ Q1 Z p1 h0 n0 v U'.heap L ∧ FrameEnd U o U' L ({ frames := 0, cells := 0, slots := 0, locals := 0 } : Room).cells ({ frames := 0, cells := 0, slots := 0, locals := 0 } : Room).slots) := by
  refine MetFree.of_bodySF pf_0 hisR ?_
  intro p e s m args below meth c s₁ Bd hml0 hP hK
  obtain ⟨rfl, hZ, hh⟩ := hP
  have hx := Bd.exec
  have hby := Bd.bytes
  have hlk : meth.locks = false := BodyLoose.notSynchronized Bd
  have hml : c.maxLocals = 1 := hml0
  have hown : s.vm.findClass "com/example/enact/enact/engine/MarkingCountedPinLaw" = some m.cls := findClass_of_methodNamed Bd.named
  have hnm := (name_of_methodNamed Bd.named Bd.method).1
  have X0 : Stand p l e ({ frames := 0, cells := 0, slots := 0, locals := 0 } : Room) s m #[(.int p1)] below meth c s₁ [] 0 0 := Stand.of_body Bd
  have e0 : s₁.heap = h0 := by rw [← hh, Bd.state]; rfl
  have N0 := Fr.nil n0
  show Gl p e below s (Q1 Z p1 h0 n0) ({ frames := 0, cells := 0, slots := 0, locals := 0 } : Room).cells ({ frames := 0, cells := 0, slots := 0, locals := 0 } : Room).slots (s₁.setTop (entryFrame m #[(.int p1)] 1))
  rw [ef_1]
  show Gl _ _ _ _ _ _ _ (s₁.setTop (mkF m 0 #[.val (.int p1)] []))
  refine Gl.st (fun t k => XS.iloadN X0.here hx rfl (hb hby d1_0) rfl  k) ?_
  show Gl _ _ _ _ _ _ _ (s₁.setTop (mkF m 1 #[.val (.int p1)] [(.int p1)]))
  refine Gl.st (X0.ldcInt hx hown (mvT hZ (hw _ (List.mem_of_getElem? (i := 5) rfl))) (g := (mkF m 1 #[.val (.int p1)] [(.int p1)])) rfl (hb hby d1_1)) ?_
  show Gl _ _ _ _ _ _ _ (s₁.setTop (mkF m 3 #[.val (.int p1)] [(.int (2147483647 : Int32)), (.int p1)]))
  by_cases hc3 : p1 = (2147483647 : Int32)
  · refine Gl.st (fun t k => XS.icmpNo X0.here hx rfl (hb hby d1_3) rfl (teq hc3).2 k) ?_
    show Gl _ _ _ _ _ _ _ (s₁.setTop (mkF m 6 #[.val (.int p1)] []))
    refine Gl.st (fun t k => XS.lconst X0.here hx rfl (hb hby d1_6) k) ?_
    show Gl _ _ _ _ _ _ _ (s₁.setTop (mkF m 7 #[.val (.int p1)] [(.long (0 : Int64))]))
    exact Gl.retJ X0 hx hlk Bd.returns (hb hby d1_7) (⟨congrArg (fun z => some (Value.long z)) (show (0 : Int64) = own_part p1 from by simp only [own_part, if_pos hc3]), N0, e0⟩) (by decide) (by decide)
  · refine Gl.st (fun t k => XS.icmpYes X0.here hx rfl (pc0 := 3) (pc' := 8) rfl (hb hby d1_3) rfl (feq hc3).2 (by decide) (by decide) k) ?_
    show Gl _ _ _ _ _ _ _ (s₁.setTop (mkF m 8 #[.val (.int p1)] []))
    refine Gl.st (fun t k => XS.iloadN X0.here hx rfl (hb hby d1_8) rfl  k) ?_
    show Gl _ _ _ _ _ _ _ (s₁.setTop (mkF m 9 #[.val (.int p1)] [(.int p1)]))
    refine Gl.st (fun t k => XS.i2l X0.here hx rfl (hb hby d1_9) rfl k) ?_
    show Gl _ _ _ _ _ _ _ (s₁.setTop (mkF m 10 #[.val (.int p1)] [(.long (p1.toInt64))]))
    exact Gl.retJ X0 hx hlk Bd.returns (hb hby d1_10) (⟨congrArg (fun z => some (Value.long z)) (show (p1.toInt64) = own_part p1 from by simp only [own_part, if_neg hc3]), N0, e0⟩) (by decide) (by decide)
theorem d2_0 : decode prog_27_method_1_code 0 = .ok (.aload_n 0, 1) := by decide +kernel
theorem d2_1 : decode prog_27_method_1_code 1 = .ok (.invokespecial 3, 3) := by decide +kernel
theorem d2_4 : decode prog_27_method_1_code 4 = .ok (.aload_n 0, 1) := by decide +kernel
theorem d2_5 : decode prog_27_method_1_code 5 = .ok (.aload_n 1, 1) := by decide +kernel
theorem d2_6 : decode prog_27_method_1_code 6 = .ok (.putfield 9, 3) := by decide +kernel
theorem d2_9 : decode prog_27_method_1_code 9 = .ok (.return_, 1) := by decide +kernel
theorem pf_1 : plainFor (⟨"com/example/enact/enact/engine/Marking", "<init>", "([I)V"⟩ : MethodName) = true := by decide +kernel
def Q2 (Z : State) (a1 : Addr) (a2 : Addr) (u_tokens : Value) (h0 : Heap) (n0 : Nat) (v : Option Value) (h : Heap) (L : List Loc) : Prop := v = none ∧ Fr n0 L ∧ Keep h0 h [a1] ∧ Exa Z h a1 "com/example/enact/enact/engine/Marking" ∧ Fld Z h a1 "com/example/enact/enact/engine/Marking" "tokens" "[I" (.ref a2)
theorem ef_2 (m : MethodId) (a1 : Addr) (a2 : Addr) : entryFrame m #[(.ref a1), (.ref a2)] 2 = mkF m 0 #[.val (.ref a1), .val (.ref a2)] [] := by first | (simp [entryFrame, mkF, argsToLocals, Value.category]; done) | rfl
set_option maxRecDepth 65536 in
set_option maxHeartbeats 40000000 in
theorem rm2 (l : Launch) (Z : State) (a0 : Array Value) (hw : ∀ d ∈ tables_1, d.before a0 Z = true) (ws : List Jvm.Cond) (a1 : Addr) (a2 : Addr) (u_tokens : Value) (h0 : Heap) (n0 : Nat) (Z0 : n0 ≤ h0.size) (E_a1 : Exa Z h0 a1 "com/example/enact/enact/engine/Marking") (F_tokens : Fld Z h0 a1 "com/example/enact/enact/engine/Marking" "tokens" "[I" u_tokens) (g_a1 : n0 ≤ a1) :
    MetFree l (⟨"com/example/enact/enact/engine/Marking", "<init>", "([I)V"⟩ : MethodName) (head1 (Jvm.Cond.code (⟨"com/example/enact/enact/engine/Marking", "<init>", "([I)V"⟩ : MethodName) prog_27_method_1_code 2 none :: ws) ({ frames := 1, cells := 0, slots := 0, locals := 12 } : Room)) (fun a U => a = #[(.ref a1), (.ref a2)] ∧ Z.Warmed39 U.vm ∧ U.heap = h0) (fun _ _ _ _ _ => True) (fun _ U o U' => ∃ v L, o = .returned v ∧ Q2 Z a1 a2 u_tokens h0 n0 v U'.heap L ∧ FrameEnd U o U' L ({ frames := 1, cells := 0, slots := 0, locals := 12 } : Room).cells ({ frames := 1, cells := 0, slots := 0, locals := 12 } : Room).slots) := by
  refine MetFree.of_bodySF pf_1 hisR ?_
  intro p e s m args below meth c s₁ Bd hml0 hP hK
  obtain ⟨rfl, hZ, hh⟩ := hP
  have hx := Bd.exec
  have hby := Bd.bytes
  have hlk : meth.locks = false := BodyLoose.notSynchronized Bd
  have hml : c.maxLocals = 2 := hml0
  have hown : s.vm.findClass "com/example/enact/enact/engine/Marking" = some m.cls := findClass_of_methodNamed Bd.named
  have hnm := (name_of_methodNamed Bd.named Bd.method).1
  have X0 : Stand p l e ({ frames := 1, cells := 0, slots := 0, locals := 12 } : Room) s m #[(.ref a1), (.ref a2)] below meth c s₁ [] 0 0 := Stand.of_body Bd
  have e0 : s₁.heap = h0 := by rw [← hh, Bd.state]; rfl
  have N0 := Fr.nil n0
  have K0 : Keep h0 h0 [a1] := Keep.refl h0 _
  show Gl p e below s (Q2 Z a1 a2 u_tokens h0 n0) ({ frames := 1, cells := 0, slots := 0, locals := 12 } : Room).cells ({ frames := 1, cells := 0, slots := 0, locals := 12 } : Room).slots (s₁.setTop (entryFrame m #[(.ref a1), (.ref a2)] 2))
  rw [ef_2]
  show Gl _ _ _ _ _ _ _ (s₁.setTop (mkF m 0 #[.val (.ref a1), .val (.ref a2)] []))
  refine Gl.st (fun t k => XS.aloadN X0.here hx rfl (hb hby d2_0) rfl rfl k) ?_
  show Gl _ _ _ _ _ _ _ (s₁.setTop (mkF m 1 #[.val (.ref a1), .val (.ref a2)] [(.ref a1)]))
  obtain ⟨T1, X1, e1, st1⟩ := initO X0 hx hZ hown (hw _ (List.mem_of_getElem? (i := 12) rfl)) (hw _ (List.mem_of_getElem? (i := 13) rfl)) (hw _ (List.mem_of_getElem? (i := 14) rfl)) e0 (g := (mkF m 1 #[.val (.ref a1), .val (.ref a2)] [(.ref a1)])) rfl (by rw [hml]; rfl) rfl (hb hby d2_1) (by decide) (W := 0) (by show 2 * 0 + _ ≤ _; exact Nat.le_of_eq rfl) (by decide)
  refine Gl.st st1 ?_
  show Gl _ _ _ _ _ _ _ (T1.setTop (mkF m 4 #[.val (.ref a1), .val (.ref a2)] []))
  refine Gl.st (fun t k => XS.aloadN X1.here hx rfl (hb hby d2_4) rfl rfl k) ?_
  show Gl _ _ _ _ _ _ _ (T1.setTop (mkF m 5 #[.val (.ref a1), .val (.ref a2)] [(.ref a1)]))
  refine Gl.st (fun t k => XS.aloadN X1.here hx rfl (hb hby d2_5) rfl rfl k) ?_
  show Gl _ _ _ _ _ _ _ (T1.setTop (mkF m 6 #[.val (.ref a1), .val (.ref a2)] [(.ref a2), (.ref a1)]))
  obtain ⟨T2, h2, X2, e2, W2, st2⟩ := putF X1 hx hZ hown (host := "") (Or.inl (hw _ (List.mem_of_getElem? (i := 15) rfl))) Via.refl e1 F_tokens E_a1 (Or.inr ⟨(hw _ (List.mem_of_getElem? (i := 16) rfl)), rfl, hnm⟩) (hw _ (List.mem_of_getElem? (i := 7) rfl)) (ty := (.array .int)) (by decide) rfl rfl (g := (mkF m 6 #[.val (.ref a1), .val (.ref a2)] [(.ref a2), (.ref a1)])) rfl rfl (hb hby d2_6)
  refine Gl.st st2 ?_
  have Z2 : n0 ≤ h2.size := Nat.le_trans Z0 (Keep.of_wr W2).1
  have N2 := Fr.snoc X2 N0 g_a1
  have K2 : Keep h0 h2 [a1] := K0.wr W2 (Or.inl (List.mem_of_getElem? (i := 0) rfl))
  have E_a1'3 : Exa Z h2 a1 "com/example/enact/enact/engine/Marking" := E_a1.wr W2
  have Fw2 : Fld Z h2 a1 "com/example/enact/enact/engine/Marking" "tokens" "[I" (.ref a2) := F_tokens.same W2
  show Gl _ _ _ _ _ _ _ (T2.setTop (mkF m 9 #[.val (.ref a1), .val (.ref a2)] []))
  exact Gl.retV X2 hx hlk Bd.returns (hb hby d2_9) (by
        rw [e2]
        exact ⟨rfl, N2, K2, E_a1'3, Fw2⟩) (by decide) (by decide)
def own_add (s : Int64) (w : Int32) : Int64 := if w = (2147483647 : Int32) then s else s + w.toInt64
def own_counted0 : Int64 := 0
def own_counted4 (w0 w1 w2 w3 : Int32) : Int64 := own_add (own_add (own_add (own_add 0 w0) w1) w2) w3
theorem own_add_part (s : Int64) (w : Int32) : own_add s w = s + own_part w := by
  unfold own_add own_part
  split
  · rw [Int64.add_zero]
  · rfl
theorem own_total (w0 w1 w2 w3 : Int32) : own_counted4 w0 w1 w2 w3 = ((own_part w0 + own_part w1) + own_part w2) + own_part w3 := by
  unfold own_counted4
  rw [own_add_part, own_add_part, own_add_part, own_add_part, Int64.zero_add]
theorem d4_0 : decode prog_27_method_11_code 0 = .ok (.lconst 0, 1) := by decide +kernel
theorem d4_1 : decode prog_27_method_11_code 1 = .ok (.lstore_n 1, 1) := by decide +kernel
theorem d4_2 : decode prog_27_method_11_code 2 = .ok (.aload_n 0, 1) := by decide +kernel
theorem d4_3 : decode prog_27_method_11_code 3 = .ok (.getfield 9, 3) := by decide +kernel
theorem d4_6 : decode prog_27_method_11_code 6 = .ok (.astore_n 3, 1) := by decide +kernel
theorem d4_7 : decode prog_27_method_11_code 7 = .ok (.aload_n 3, 1) := by decide +kernel
theorem d4_8 : decode prog_27_method_11_code 8 = .ok (.arraylength, 1) := by decide +kernel
theorem d4_9 : decode prog_27_method_11_code 9 = .ok (.istore 4, 2) := by decide +kernel
theorem d4_11 : decode prog_27_method_11_code 11 = .ok (.iconst 0, 1) := by decide +kernel
theorem d4_12 : decode prog_27_method_11_code 12 = .ok (.istore 5, 2) := by decide +kernel
theorem d4_14 : decode prog_27_method_11_code 14 = .ok (.iload 5, 2) := by decide +kernel
theorem d4_16 : decode prog_27_method_11_code 16 = .ok (.iload 4, 2) := by decide +kernel
theorem d4_18 : decode prog_27_method_11_code 18 = .ok (.if_icmp .ge 28, 3) := by decide +kernel
theorem d4_21 : decode prog_27_method_11_code 21 = .ok (.aload_n 3, 1) := by decide +kernel
theorem d4_22 : decode prog_27_method_11_code 22 = .ok (.iload 5, 2) := by decide +kernel
theorem d4_24 : decode prog_27_method_11_code 24 = .ok (.iaload, 1) := by decide +kernel
theorem d4_25 : decode prog_27_method_11_code 25 = .ok (.istore 6, 2) := by decide +kernel
theorem d4_27 : decode prog_27_method_11_code 27 = .ok (.iload 6, 2) := by decide +kernel
theorem d4_29 : decode prog_27_method_11_code 29 = .ok (.ldc 100, 2) := by decide +kernel
theorem d4_31 : decode prog_27_method_11_code 31 = .ok (.if_icmp .eq 9, 3) := by decide +kernel
theorem d4_34 : decode prog_27_method_11_code 34 = .ok (.lload_n 1, 1) := by decide +kernel
theorem d4_35 : decode prog_27_method_11_code 35 = .ok (.iload 6, 2) := by decide +kernel
theorem d4_37 : decode prog_27_method_11_code 37 = .ok (.i2l, 1) := by decide +kernel
theorem d4_38 : decode prog_27_method_11_code 38 = .ok (.ladd, 1) := by decide +kernel
theorem d4_39 : decode prog_27_method_11_code 39 = .ok (.lstore_n 1, 1) := by decide +kernel
theorem d4_40 : decode prog_27_method_11_code 40 = .ok (.iinc 5 1, 3) := by decide +kernel
theorem d4_43 : decode prog_27_method_11_code 43 = .ok (.goto (-29), 3) := by decide +kernel
theorem d4_46 : decode prog_27_method_11_code 46 = .ok (.lload_n 1, 1) := by decide +kernel
theorem d4_47 : decode prog_27_method_11_code 47 = .ok (.lreturn, 1) := by decide +kernel
theorem pf_2 : plainFor (⟨"com/example/enact/enact/engine/Marking", "counted", "()J"⟩ : MethodName) = true := by decide +kernel
def Q4v0 (Z : State) (a1 : Addr) (ca : Addr) (ck : ClassId) (h0 : Heap) (n0 : Nat) (v : Option Value) (h : Heap) (L : List Loc) : Prop := v = some (.long own_counted0) ∧ Fr n0 L ∧ h = h0
theorem ef_4v0 (m : MethodId) (a1 : Addr) : entryFrame m #[(.ref a1)] 7 = mkF m 0 #[.val (.ref a1), .unset, .unset, .unset, .unset, .unset, .unset] [] := by first | (simp [entryFrame, mkF, argsToLocals, Value.category]; done) | rfl
set_option maxRecDepth 65536 in
set_option maxHeartbeats 40000000 in
theorem rm4v0 (l : Launch) (Z : State) (a0 : Array Value) (hw : ∀ d ∈ tables_1, d.before a0 Z = true) (ws : List Jvm.Cond) (a1 : Addr) (ca : Addr) (ck : ClassId) (h0 : Heap) (n0 : Nat) (Fc : Fld Z h0 a1 "com/example/enact/enact/engine/Marking" "tokens" "[I" (.ref ca)) (Vc : Arv Z h0 ca ck .int (0 : Int32) [] (.int (0 : Int32))) :
    MetFree l (⟨"com/example/enact/enact/engine/Marking", "counted", "()J"⟩ : MethodName) (head1 (Jvm.Cond.code (⟨"com/example/enact/enact/engine/Marking", "counted", "()J"⟩ : MethodName) prog_27_method_11_code 7 (some .long) :: ws) ({ frames := 0, cells := 0, slots := 0, locals := 0 } : Room)) (fun a U => a = #[(.ref a1)] ∧ Z.Warmed39 U.vm ∧ U.heap = h0) (fun _ _ _ _ _ => True) (fun _ U o U' => ∃ v L, o = .returned v ∧ Q4v0 Z a1 ca ck h0 n0 v U'.heap L ∧ FrameEnd U o U' L ({ frames := 0, cells := 0, slots := 0, locals := 0 } : Room).cells ({ frames := 0, cells := 0, slots := 0, locals := 0 } : Room).slots) := by
  refine MetFree.of_bodySF pf_2 hisR ?_
  intro p e s m args below meth c s₁ Bd hml0 hP hK
  obtain ⟨rfl, hZ, hh⟩ := hP
  have hx := Bd.exec
  have hby := Bd.bytes
  have hlk : meth.locks = false := BodyLoose.notSynchronized Bd
  have hml : c.maxLocals = 7 := hml0
  have hown : s.vm.findClass "com/example/enact/enact/engine/Marking" = some m.cls := findClass_of_methodNamed Bd.named
  have hnm := (name_of_methodNamed Bd.named Bd.method).1
  have X0 : Stand p l e ({ frames := 0, cells := 0, slots := 0, locals := 0 } : Room) s m #[(.ref a1)] below meth c s₁ [] 0 0 := Stand.of_body Bd
  have e0 : s₁.heap = h0 := by rw [← hh, Bd.state]; rfl
  have N0 := Fr.nil n0
  show Gl p e below s (Q4v0 Z a1 ca ck h0 n0) ({ frames := 0, cells := 0, slots := 0, locals := 0 } : Room).cells ({ frames := 0, cells := 0, slots := 0, locals := 0 } : Room).slots (s₁.setTop (entryFrame m #[(.ref a1)] 7))
  rw [ef_4v0]
  show Gl _ _ _ _ _ _ _ (s₁.setTop (mkF m 0 #[.val (.ref a1), .unset, .unset, .unset, .unset, .unset, .unset] []))
  refine Gl.st (fun t k => XS.lconst X0.here hx rfl (hb hby d4_0) k) ?_
  show Gl _ _ _ _ _ _ _ (s₁.setTop (mkF m 1 #[.val (.ref a1), .unset, .unset, .unset, .unset, .unset, .unset] [(.long (0 : Int64))]))
  refine Gl.st (fun t k => XS.lstoreN X0.here hx rfl (hb hby d4_1) rfl (l' := #[.val (.ref a1), .val (.long (0 : Int64)), .second, .unset, .unset, .unset, .unset]) rfl k) ?_
  show Gl _ _ _ _ _ _ _ (s₁.setTop (mkF m 2 #[.val (.ref a1), .val (.long (0 : Int64)), .second, .unset, .unset, .unset, .unset] []))
  refine Gl.st (fun t k => XS.aloadN X0.here hx rfl (hb hby d4_2) rfl rfl k) ?_
  show Gl _ _ _ _ _ _ _ (s₁.setTop (mkF m 3 #[.val (.ref a1), .val (.long (0 : Int64)), .second, .unset, .unset, .unset, .unset] [(.ref a1)]))
  obtain ⟨T1, X1, e1, st1⟩ := getF X0 hx hZ hown (host := "") (Or.inl (hw _ (List.mem_of_getElem? (i := 15) rfl))) Via.refl e0 Fc (g := (mkF m 3 #[.val (.ref a1), .val (.long (0 : Int64)), .second, .unset, .unset, .unset, .unset] [(.ref a1)])) rfl rfl (hb hby d4_3)
  refine Gl.st st1 ?_
  show Gl _ _ _ _ _ _ _ (T1.setTop (mkF m 6 #[.val (.ref a1), .val (.long (0 : Int64)), .second, .unset, .unset, .unset, .unset] [(.ref ca)]))
  refine Gl.st (fun t k => XS.astoreN X1.here hx rfl (hb hby d4_6) rfl rfl (l' := #[.val (.ref a1), .val (.long (0 : Int64)), .second, .val (.ref ca), .unset, .unset, .unset]) rfl k) ?_
  show Gl _ _ _ _ _ _ _ (T1.setTop (mkF m 7 #[.val (.ref a1), .val (.long (0 : Int64)), .second, .val (.ref ca), .unset, .unset, .unset] []))
  refine Gl.st (fun t k => XS.aloadN X1.here hx rfl (hb hby d4_7) rfl rfl k) ?_
  show Gl _ _ _ _ _ _ _ (T1.setTop (mkF m 8 #[.val (.ref a1), .val (.long (0 : Int64)), .second, .val (.ref ca), .unset, .unset, .unset] [(.ref ca)]))
  have Vx2 := Vc
  obtain ⟨cl2, Ar2, qk2, S2, M2, H2, G2⟩ := Vx2
  refine Gl.st (X1.arraylength hx (by rw [e1]; exact Ar2.1) (State.isArrayOf_alike hZ.alike Ar2.2.1) (g := (mkF m 8 #[.val (.ref a1), .val (.long (0 : Int64)), .second, .val (.ref ca), .unset, .unset, .unset] [(.ref ca)])) rfl rfl (hb hby d4_8)) ?_
  rw [len_of S2 M2]
  show Gl _ _ _ _ _ _ _ (T1.setTop (mkF m 9 #[.val (.ref a1), .val (.long (0 : Int64)), .second, .val (.ref ca), .unset, .unset, .unset] [(.int (0 : Int32))]))
  refine Gl.st (fun t k => XS.istore X1.here hx rfl (hb hby d4_9) rfl (l' := #[.val (.ref a1), .val (.long (0 : Int64)), .second, .val (.ref ca), .val (.int (0 : Int32)), .unset, .unset]) rfl k) ?_
  show Gl _ _ _ _ _ _ _ (T1.setTop (mkF m 11 #[.val (.ref a1), .val (.long (0 : Int64)), .second, .val (.ref ca), .val (.int (0 : Int32)), .unset, .unset] []))
  refine Gl.st (fun t k => XS.iconst X1.here hx rfl (hb hby d4_11) k) ?_
  show Gl _ _ _ _ _ _ _ (T1.setTop (mkF m 12 #[.val (.ref a1), .val (.long (0 : Int64)), .second, .val (.ref ca), .val (.int (0 : Int32)), .unset, .unset] [(.int (0 : Int32))]))
  refine Gl.st (fun t k => XS.istore X1.here hx rfl (hb hby d4_12) rfl (l' := #[.val (.ref a1), .val (.long (0 : Int64)), .second, .val (.ref ca), .val (.int (0 : Int32)), .val (.int (0 : Int32)), .unset]) rfl k) ?_
  show Gl _ _ _ _ _ _ _ (T1.setTop (mkF m 14 #[.val (.ref a1), .val (.long (0 : Int64)), .second, .val (.ref ca), .val (.int (0 : Int32)), .val (.int (0 : Int32)), .unset] []))
  refine Gl.st (fun t k => XS.iload X1.here hx rfl (hb hby d4_14) rfl  k) ?_
  show Gl _ _ _ _ _ _ _ (T1.setTop (mkF m 16 #[.val (.ref a1), .val (.long (0 : Int64)), .second, .val (.ref ca), .val (.int (0 : Int32)), .val (.int (0 : Int32)), .unset] [(.int (0 : Int32))]))
  refine Gl.st (fun t k => XS.iload X1.here hx rfl (hb hby d4_16) rfl  k) ?_
  show Gl _ _ _ _ _ _ _ (T1.setTop (mkF m 18 #[.val (.ref a1), .val (.long (0 : Int64)), .second, .val (.ref ca), .val (.int (0 : Int32)), .val (.int (0 : Int32)), .unset] [(.int (0 : Int32)), (.int (0 : Int32))]))
  refine Gl.st (fun t k => XS.icmpYes X1.here hx rfl (pc0 := 18) (pc' := 46) rfl (hb hby d4_18) rfl (flt (by decide : ¬ ((0 : Int32) < (0 : Int32)))).2.1 (by decide) (by decide) k) ?_
  show Gl _ _ _ _ _ _ _ (T1.setTop (mkF m 46 #[.val (.ref a1), .val (.long (0 : Int64)), .second, .val (.ref ca), .val (.int (0 : Int32)), .val (.int (0 : Int32)), .unset] []))
  refine Gl.st (fun t k => XS.lloadN X1.here hx rfl (hb hby d4_46) rfl  k) ?_
  show Gl _ _ _ _ _ _ _ (T1.setTop (mkF m 47 #[.val (.ref a1), .val (.long (0 : Int64)), .second, .val (.ref ca), .val (.int (0 : Int32)), .val (.int (0 : Int32)), .unset] [(.long (0 : Int64))]))
  exact Gl.retJ X1 hx hlk Bd.returns (hb hby d4_47) (⟨congrArg (fun z => some (Value.long z)) (show (0 : Int64) = own_counted0 from by subst_vars; rfl), N0, e1⟩) (by decide) (by decide)
def Q4v4 (Z : State) (a1 : Addr) (ca : Addr) (ck : ClassId) (w0 : Int32) (w1 : Int32) (w2 : Int32) (w3 : Int32) (h0 : Heap) (n0 : Nat) (v : Option Value) (h : Heap) (L : List Loc) : Prop := v = some (.long (own_counted4 w0 w1 w2 w3)) ∧ Fr n0 L ∧ h = h0
theorem ef_4v4 (m : MethodId) (a1 : Addr) : entryFrame m #[(.ref a1)] 7 = mkF m 0 #[.val (.ref a1), .unset, .unset, .unset, .unset, .unset, .unset] [] := by first | (simp [entryFrame, mkF, argsToLocals, Value.category]; done) | rfl
set_option maxRecDepth 65536 in
set_option maxHeartbeats 40000000 in
theorem rm4v4 (l : Launch) (Z : State) (a0 : Array Value) (hw : ∀ d ∈ tables_1, d.before a0 Z = true) (ws : List Jvm.Cond) (a1 : Addr) (ca : Addr) (ck : ClassId) (w0 : Int32) (w1 : Int32) (w2 : Int32) (w3 : Int32) (h0 : Heap) (n0 : Nat) (Fc : Fld Z h0 a1 "com/example/enact/enact/engine/Marking" "tokens" "[I" (.ref ca)) (Vc : Arv Z h0 ca ck .int (4 : Int32) [(.int w0), (.int w1), (.int w2), (.int w3)] (.int (0 : Int32))) :
    MetFree l (⟨"com/example/enact/enact/engine/Marking", "counted", "()J"⟩ : MethodName) (head1 (Jvm.Cond.code (⟨"com/example/enact/enact/engine/Marking", "counted", "()J"⟩ : MethodName) prog_27_method_11_code 7 (some .long) :: ws) ({ frames := 0, cells := 0, slots := 0, locals := 0 } : Room)) (fun a U => a = #[(.ref a1)] ∧ Z.Warmed39 U.vm ∧ U.heap = h0) (fun _ _ _ _ _ => True) (fun _ U o U' => ∃ v L, o = .returned v ∧ Q4v4 Z a1 ca ck w0 w1 w2 w3 h0 n0 v U'.heap L ∧ FrameEnd U o U' L ({ frames := 0, cells := 0, slots := 0, locals := 0 } : Room).cells ({ frames := 0, cells := 0, slots := 0, locals := 0 } : Room).slots) := by
  refine MetFree.of_bodySF pf_2 hisR ?_
  intro p e s m args below meth c s₁ Bd hml0 hP hK
  obtain ⟨rfl, hZ, hh⟩ := hP
  have hx := Bd.exec
  have hby := Bd.bytes
  have hlk : meth.locks = false := BodyLoose.notSynchronized Bd
  have hml : c.maxLocals = 7 := hml0
  have hown : s.vm.findClass "com/example/enact/enact/engine/Marking" = some m.cls := findClass_of_methodNamed Bd.named
  have hnm := (name_of_methodNamed Bd.named Bd.method).1
  have X0 : Stand p l e ({ frames := 0, cells := 0, slots := 0, locals := 0 } : Room) s m #[(.ref a1)] below meth c s₁ [] 0 0 := Stand.of_body Bd
  have e0 : s₁.heap = h0 := by rw [← hh, Bd.state]; rfl
  have N0 := Fr.nil n0
  show Gl p e below s (Q4v4 Z a1 ca ck w0 w1 w2 w3 h0 n0) ({ frames := 0, cells := 0, slots := 0, locals := 0 } : Room).cells ({ frames := 0, cells := 0, slots := 0, locals := 0 } : Room).slots (s₁.setTop (entryFrame m #[(.ref a1)] 7))
  rw [ef_4v4]
  show Gl _ _ _ _ _ _ _ (s₁.setTop (mkF m 0 #[.val (.ref a1), .unset, .unset, .unset, .unset, .unset, .unset] []))
  refine Gl.st (fun t k => XS.lconst X0.here hx rfl (hb hby d4_0) k) ?_
  show Gl _ _ _ _ _ _ _ (s₁.setTop (mkF m 1 #[.val (.ref a1), .unset, .unset, .unset, .unset, .unset, .unset] [(.long (0 : Int64))]))
  refine Gl.st (fun t k => XS.lstoreN X0.here hx rfl (hb hby d4_1) rfl (l' := #[.val (.ref a1), .val (.long (0 : Int64)), .second, .unset, .unset, .unset, .unset]) rfl k) ?_
  show Gl _ _ _ _ _ _ _ (s₁.setTop (mkF m 2 #[.val (.ref a1), .val (.long (0 : Int64)), .second, .unset, .unset, .unset, .unset] []))
  refine Gl.st (fun t k => XS.aloadN X0.here hx rfl (hb hby d4_2) rfl rfl k) ?_
  show Gl _ _ _ _ _ _ _ (s₁.setTop (mkF m 3 #[.val (.ref a1), .val (.long (0 : Int64)), .second, .unset, .unset, .unset, .unset] [(.ref a1)]))
  obtain ⟨T1, X1, e1, st1⟩ := getF X0 hx hZ hown (host := "") (Or.inl (hw _ (List.mem_of_getElem? (i := 15) rfl))) Via.refl e0 Fc (g := (mkF m 3 #[.val (.ref a1), .val (.long (0 : Int64)), .second, .unset, .unset, .unset, .unset] [(.ref a1)])) rfl rfl (hb hby d4_3)
  refine Gl.st st1 ?_
  show Gl _ _ _ _ _ _ _ (T1.setTop (mkF m 6 #[.val (.ref a1), .val (.long (0 : Int64)), .second, .unset, .unset, .unset, .unset] [(.ref ca)]))
  refine Gl.st (fun t k => XS.astoreN X1.here hx rfl (hb hby d4_6) rfl rfl (l' := #[.val (.ref a1), .val (.long (0 : Int64)), .second, .val (.ref ca), .unset, .unset, .unset]) rfl k) ?_
  show Gl _ _ _ _ _ _ _ (T1.setTop (mkF m 7 #[.val (.ref a1), .val (.long (0 : Int64)), .second, .val (.ref ca), .unset, .unset, .unset] []))
  refine Gl.st (fun t k => XS.aloadN X1.here hx rfl (hb hby d4_7) rfl rfl k) ?_
  show Gl _ _ _ _ _ _ _ (T1.setTop (mkF m 8 #[.val (.ref a1), .val (.long (0 : Int64)), .second, .val (.ref ca), .unset, .unset, .unset] [(.ref ca)]))
  have Vx2 := Vc
  obtain ⟨cl2, Ar2, qk2, S2, M2, H2, G2⟩ := Vx2
  refine Gl.st (X1.arraylength hx (by rw [e1]; exact Ar2.1) (State.isArrayOf_alike hZ.alike Ar2.2.1) (g := (mkF m 8 #[.val (.ref a1), .val (.long (0 : Int64)), .second, .val (.ref ca), .unset, .unset, .unset] [(.ref ca)])) rfl rfl (hb hby d4_8)) ?_
  rw [len_of S2 M2]
  show Gl _ _ _ _ _ _ _ (T1.setTop (mkF m 9 #[.val (.ref a1), .val (.long (0 : Int64)), .second, .val (.ref ca), .unset, .unset, .unset] [(.int (4 : Int32))]))
  refine Gl.st (fun t k => XS.istore X1.here hx rfl (hb hby d4_9) rfl (l' := #[.val (.ref a1), .val (.long (0 : Int64)), .second, .val (.ref ca), .val (.int (4 : Int32)), .unset, .unset]) rfl k) ?_
  show Gl _ _ _ _ _ _ _ (T1.setTop (mkF m 11 #[.val (.ref a1), .val (.long (0 : Int64)), .second, .val (.ref ca), .val (.int (4 : Int32)), .unset, .unset] []))
  refine Gl.st (fun t k => XS.iconst X1.here hx rfl (hb hby d4_11) k) ?_
  show Gl _ _ _ _ _ _ _ (T1.setTop (mkF m 12 #[.val (.ref a1), .val (.long (0 : Int64)), .second, .val (.ref ca), .val (.int (4 : Int32)), .unset, .unset] [(.int (0 : Int32))]))
  refine Gl.st (fun t k => XS.istore X1.here hx rfl (hb hby d4_12) rfl (l' := #[.val (.ref a1), .val (.long (0 : Int64)), .second, .val (.ref ca), .val (.int (4 : Int32)), .val (.int (0 : Int32)), .unset]) rfl k) ?_
  show Gl _ _ _ _ _ _ _ (T1.setTop (mkF m 14 #[.val (.ref a1), .val (.long (0 : Int64)), .second, .val (.ref ca), .val (.int (4 : Int32)), .val (.int (0 : Int32)), .unset] []))
  refine Gl.st (fun t k => XS.iload X1.here hx rfl (hb hby d4_14) rfl  k) ?_
  show Gl _ _ _ _ _ _ _ (T1.setTop (mkF m 16 #[.val (.ref a1), .val (.long (0 : Int64)), .second, .val (.ref ca), .val (.int (4 : Int32)), .val (.int (0 : Int32)), .unset] [(.int (0 : Int32))]))
  refine Gl.st (fun t k => XS.iload X1.here hx rfl (hb hby d4_16) rfl  k) ?_
  show Gl _ _ _ _ _ _ _ (T1.setTop (mkF m 18 #[.val (.ref a1), .val (.long (0 : Int64)), .second, .val (.ref ca), .val (.int (4 : Int32)), .val (.int (0 : Int32)), .unset] [(.int (4 : Int32)), (.int (0 : Int32))]))
  refine Gl.st (fun t k => XS.icmpNo X1.here hx rfl (hb hby d4_18) rfl (tlt (by decide : (0 : Int32) < (4 : Int32))).2.1 k) ?_
  show Gl _ _ _ _ _ _ _ (T1.setTop (mkF m 21 #[.val (.ref a1), .val (.long (0 : Int64)), .second, .val (.ref ca), .val (.int (4 : Int32)), .val (.int (0 : Int32)), .unset] []))
  refine Gl.st (fun t k => XS.aloadN X1.here hx rfl (hb hby d4_21) rfl rfl k) ?_
  show Gl _ _ _ _ _ _ _ (T1.setTop (mkF m 22 #[.val (.ref a1), .val (.long (0 : Int64)), .second, .val (.ref ca), .val (.int (4 : Int32)), .val (.int (0 : Int32)), .unset] [(.ref ca)]))
  refine Gl.st (fun t k => XS.iload X1.here hx rfl (hb hby d4_22) rfl  k) ?_
  show Gl _ _ _ _ _ _ _ (T1.setTop (mkF m 24 #[.val (.ref a1), .val (.long (0 : Int64)), .second, .val (.ref ca), .val (.int (4 : Int32)), .val (.int (0 : Int32)), .unset] [(.int (0 : Int32)), (.ref ca)]))
  have Vx3 := Vc
  obtain ⟨cl3, Ar3, qk3, S3, M3, H3, G3⟩ := Vx3
  have hin3 : ¬ ((0 : Int32) < 0 ∨ cl3.slots.size ≤ ((0 : Int32)).toNatClampNeg) := inb_of S3 ⟨by decide, by decide⟩
  have hat3 : cl3.slots[((0 : Int32)).toNatClampNeg]? = some (.int w0) := H3.at hin3 rfl
  refine Gl.st (X1.iaload hx (j := (0 : Int32)) (v := (.int w0)) (by rw [e1]; exact Ar3.1) (State.isArrayOf_alike hZ.alike Ar3.2.1) Ar3.2.2 hin3 hat3 (g := (mkF m 24 #[.val (.ref a1), .val (.long (0 : Int64)), .second, .val (.ref ca), .val (.int (4 : Int32)), .val (.int (0 : Int32)), .unset] [(.int (0 : Int32)), (.ref ca)])) rfl rfl (hb hby d4_24)) ?_
  show Gl _ _ _ _ _ _ _ (T1.setTop (mkF m 25 #[.val (.ref a1), .val (.long (0 : Int64)), .second, .val (.ref ca), .val (.int (4 : Int32)), .val (.int (0 : Int32)), .unset] [(.int w0)]))
  refine Gl.st (fun t k => XS.istore X1.here hx rfl (hb hby d4_25) rfl (l' := #[.val (.ref a1), .val (.long (0 : Int64)), .second, .val (.ref ca), .val (.int (4 : Int32)), .val (.int (0 : Int32)), .val (.int w0)]) rfl k) ?_
  show Gl _ _ _ _ _ _ _ (T1.setTop (mkF m 27 #[.val (.ref a1), .val (.long (0 : Int64)), .second, .val (.ref ca), .val (.int (4 : Int32)), .val (.int (0 : Int32)), .val (.int w0)] []))
  refine Gl.st (fun t k => XS.iload X1.here hx rfl (hb hby d4_27) rfl  k) ?_
  show Gl _ _ _ _ _ _ _ (T1.setTop (mkF m 29 #[.val (.ref a1), .val (.long (0 : Int64)), .second, .val (.ref ca), .val (.int (4 : Int32)), .val (.int (0 : Int32)), .val (.int w0)] [(.int w0)]))
  refine Gl.st (X1.ldcInt hx hown (mvT hZ (hw _ (List.mem_of_getElem? (i := 22) rfl))) (g := (mkF m 29 #[.val (.ref a1), .val (.long (0 : Int64)), .second, .val (.ref ca), .val (.int (4 : Int32)), .val (.int (0 : Int32)), .val (.int w0)] [(.int w0)])) rfl (hb hby d4_29)) ?_
  show Gl _ _ _ _ _ _ _ (T1.setTop (mkF m 31 #[.val (.ref a1), .val (.long (0 : Int64)), .second, .val (.ref ca), .val (.int (4 : Int32)), .val (.int (0 : Int32)), .val (.int w0)] [(.int (2147483647 : Int32)), (.int w0)]))
  have J4 : ∀ (Tj4 : State) (Lj4 : List Loc) (Xj4 : Stand p l e ({ frames := 0, cells := 0, slots := 0, locals := 0 } : Room) s m #[(.ref a1)] below meth c Tj4 Lj4 0 0) (ej4 : Tj4.heap = h0) (Nj4 : Fr n0 Lj4) (z40l1 : Int64) (hz40l1 : z40l1 = (if w0 = (2147483647 : Int32) then (0 : Int64) else ((0 : Int64) + (w0.toInt64)))), Gl p e below s (Q4v4 Z a1 ca ck w0 w1 w2 w3 h0 n0) ({ frames := 0, cells := 0, slots := 0, locals := 0 } : Room).cells ({ frames := 0, cells := 0, slots := 0, locals := 0 } : Room).slots (Tj4.setTop (mkF m 40 #[.val (.ref a1), .val (.long z40l1), .second, .val (.ref ca), .val (.int (4 : Int32)), .val (.int (0 : Int32)), .val (.int w0)] [])) := by
    intro Tj4 Lj4 Xj4 ej4 Nj4 z40l1 hz40l1
    show Gl _ _ _ _ _ _ _ (Tj4.setTop (mkF m 40 #[.val (.ref a1), .val (.long z40l1), .second, .val (.ref ca), .val (.int (4 : Int32)), .val (.int (0 : Int32)), .val (.int w0)] []))
    refine Gl.st (fun t k => XS.iinc Xj4.here hx rfl (hb hby d4_40) rfl (l' := #[.val (.ref a1), .val (.long z40l1), .second, .val (.ref ca), .val (.int (4 : Int32)), .val (.int (1 : Int32)), .val (.int w0)]) rfl k) ?_
    show Gl _ _ _ _ _ _ _ (Tj4.setTop (mkF m 43 #[.val (.ref a1), .val (.long z40l1), .second, .val (.ref ca), .val (.int (4 : Int32)), .val (.int (1 : Int32)), .val (.int w0)] []))
    refine Gl.st (fun t k => XS.goto Xj4.here hx rfl (pc0 := 43) (pc' := 14) rfl (hb hby d4_43) (by decide) (by decide) k) ?_
    show Gl _ _ _ _ _ _ _ (Tj4.setTop (mkF m 14 #[.val (.ref a1), .val (.long z40l1), .second, .val (.ref ca), .val (.int (4 : Int32)), .val (.int (1 : Int32)), .val (.int w0)] []))
    refine Gl.st (fun t k => XS.iload Xj4.here hx rfl (hb hby d4_14) rfl  k) ?_
    show Gl _ _ _ _ _ _ _ (Tj4.setTop (mkF m 16 #[.val (.ref a1), .val (.long z40l1), .second, .val (.ref ca), .val (.int (4 : Int32)), .val (.int (1 : Int32)), .val (.int w0)] [(.int (1 : Int32))]))
    refine Gl.st (fun t k => XS.iload Xj4.here hx rfl (hb hby d4_16) rfl  k) ?_
    show Gl _ _ _ _ _ _ _ (Tj4.setTop (mkF m 18 #[.val (.ref a1), .val (.long z40l1), .second, .val (.ref ca), .val (.int (4 : Int32)), .val (.int (1 : Int32)), .val (.int w0)] [(.int (4 : Int32)), (.int (1 : Int32))]))
    refine Gl.st (fun t k => XS.icmpNo Xj4.here hx rfl (hb hby d4_18) rfl (tlt (by decide : (1 : Int32) < (4 : Int32))).2.1 k) ?_
    show Gl _ _ _ _ _ _ _ (Tj4.setTop (mkF m 21 #[.val (.ref a1), .val (.long z40l1), .second, .val (.ref ca), .val (.int (4 : Int32)), .val (.int (1 : Int32)), .val (.int w0)] []))
    refine Gl.st (fun t k => XS.aloadN Xj4.here hx rfl (hb hby d4_21) rfl rfl k) ?_
    show Gl _ _ _ _ _ _ _ (Tj4.setTop (mkF m 22 #[.val (.ref a1), .val (.long z40l1), .second, .val (.ref ca), .val (.int (4 : Int32)), .val (.int (1 : Int32)), .val (.int w0)] [(.ref ca)]))
    refine Gl.st (fun t k => XS.iload Xj4.here hx rfl (hb hby d4_22) rfl  k) ?_
    show Gl _ _ _ _ _ _ _ (Tj4.setTop (mkF m 24 #[.val (.ref a1), .val (.long z40l1), .second, .val (.ref ca), .val (.int (4 : Int32)), .val (.int (1 : Int32)), .val (.int w0)] [(.int (1 : Int32)), (.ref ca)]))
    have Vx5 := Vc
    obtain ⟨cl5, Ar5, qk5, S5, M5, H5, G5⟩ := Vx5
    have hin5 : ¬ ((1 : Int32) < 0 ∨ cl5.slots.size ≤ ((1 : Int32)).toNatClampNeg) := inb_of S5 ⟨by decide, by decide⟩
    have hat5 : cl5.slots[((1 : Int32)).toNatClampNeg]? = some (.int w1) := H5.at hin5 rfl
    refine Gl.st (Xj4.iaload hx (j := (1 : Int32)) (v := (.int w1)) (by rw [ej4]; exact Ar5.1) (State.isArrayOf_alike hZ.alike Ar5.2.1) Ar5.2.2 hin5 hat5 (g := (mkF m 24 #[.val (.ref a1), .val (.long z40l1), .second, .val (.ref ca), .val (.int (4 : Int32)), .val (.int (1 : Int32)), .val (.int w0)] [(.int (1 : Int32)), (.ref ca)])) rfl rfl (hb hby d4_24)) ?_
    show Gl _ _ _ _ _ _ _ (Tj4.setTop (mkF m 25 #[.val (.ref a1), .val (.long z40l1), .second, .val (.ref ca), .val (.int (4 : Int32)), .val (.int (1 : Int32)), .val (.int w0)] [(.int w1)]))
    refine Gl.st (fun t k => XS.istore Xj4.here hx rfl (hb hby d4_25) rfl (l' := #[.val (.ref a1), .val (.long z40l1), .second, .val (.ref ca), .val (.int (4 : Int32)), .val (.int (1 : Int32)), .val (.int w1)]) rfl k) ?_
    show Gl _ _ _ _ _ _ _ (Tj4.setTop (mkF m 27 #[.val (.ref a1), .val (.long z40l1), .second, .val (.ref ca), .val (.int (4 : Int32)), .val (.int (1 : Int32)), .val (.int w1)] []))
    refine Gl.st (fun t k => XS.iload Xj4.here hx rfl (hb hby d4_27) rfl  k) ?_
    show Gl _ _ _ _ _ _ _ (Tj4.setTop (mkF m 29 #[.val (.ref a1), .val (.long z40l1), .second, .val (.ref ca), .val (.int (4 : Int32)), .val (.int (1 : Int32)), .val (.int w1)] [(.int w1)]))
    refine Gl.st (Xj4.ldcInt hx hown (mvT hZ (hw _ (List.mem_of_getElem? (i := 22) rfl))) (g := (mkF m 29 #[.val (.ref a1), .val (.long z40l1), .second, .val (.ref ca), .val (.int (4 : Int32)), .val (.int (1 : Int32)), .val (.int w1)] [(.int w1)])) rfl (hb hby d4_29)) ?_
    show Gl _ _ _ _ _ _ _ (Tj4.setTop (mkF m 31 #[.val (.ref a1), .val (.long z40l1), .second, .val (.ref ca), .val (.int (4 : Int32)), .val (.int (1 : Int32)), .val (.int w1)] [(.int (2147483647 : Int32)), (.int w1)]))
    have J6 : ∀ (Tj6 : State) (Lj6 : List Loc) (Xj6 : Stand p l e ({ frames := 0, cells := 0, slots := 0, locals := 0 } : Room) s m #[(.ref a1)] below meth c Tj6 Lj6 0 0) (ej6 : Tj6.heap = h0) (Nj6 : Fr n0 Lj6) (z40l1_2 : Int64) (hz40l1_2 : z40l1_2 = (if w1 = (2147483647 : Int32) then z40l1 else (z40l1 + (w1.toInt64)))), Gl p e below s (Q4v4 Z a1 ca ck w0 w1 w2 w3 h0 n0) ({ frames := 0, cells := 0, slots := 0, locals := 0 } : Room).cells ({ frames := 0, cells := 0, slots := 0, locals := 0 } : Room).slots (Tj6.setTop (mkF m 40 #[.val (.ref a1), .val (.long z40l1_2), .second, .val (.ref ca), .val (.int (4 : Int32)), .val (.int (1 : Int32)), .val (.int w1)] [])) := by
      intro Tj6 Lj6 Xj6 ej6 Nj6 z40l1_2 hz40l1_2
      show Gl _ _ _ _ _ _ _ (Tj6.setTop (mkF m 40 #[.val (.ref a1), .val (.long z40l1_2), .second, .val (.ref ca), .val (.int (4 : Int32)), .val (.int (1 : Int32)), .val (.int w1)] []))
      refine Gl.st (fun t k => XS.iinc Xj6.here hx rfl (hb hby d4_40) rfl (l' := #[.val (.ref a1), .val (.long z40l1_2), .second, .val (.ref ca), .val (.int (4 : Int32)), .val (.int (2 : Int32)), .val (.int w1)]) rfl k) ?_
      show Gl _ _ _ _ _ _ _ (Tj6.setTop (mkF m 43 #[.val (.ref a1), .val (.long z40l1_2), .second, .val (.ref ca), .val (.int (4 : Int32)), .val (.int (2 : Int32)), .val (.int w1)] []))
      refine Gl.st (fun t k => XS.goto Xj6.here hx rfl (pc0 := 43) (pc' := 14) rfl (hb hby d4_43) (by decide) (by decide) k) ?_
      show Gl _ _ _ _ _ _ _ (Tj6.setTop (mkF m 14 #[.val (.ref a1), .val (.long z40l1_2), .second, .val (.ref ca), .val (.int (4 : Int32)), .val (.int (2 : Int32)), .val (.int w1)] []))
      refine Gl.st (fun t k => XS.iload Xj6.here hx rfl (hb hby d4_14) rfl  k) ?_
      show Gl _ _ _ _ _ _ _ (Tj6.setTop (mkF m 16 #[.val (.ref a1), .val (.long z40l1_2), .second, .val (.ref ca), .val (.int (4 : Int32)), .val (.int (2 : Int32)), .val (.int w1)] [(.int (2 : Int32))]))
      refine Gl.st (fun t k => XS.iload Xj6.here hx rfl (hb hby d4_16) rfl  k) ?_
      show Gl _ _ _ _ _ _ _ (Tj6.setTop (mkF m 18 #[.val (.ref a1), .val (.long z40l1_2), .second, .val (.ref ca), .val (.int (4 : Int32)), .val (.int (2 : Int32)), .val (.int w1)] [(.int (4 : Int32)), (.int (2 : Int32))]))
      refine Gl.st (fun t k => XS.icmpNo Xj6.here hx rfl (hb hby d4_18) rfl (tlt (by decide : (2 : Int32) < (4 : Int32))).2.1 k) ?_
      show Gl _ _ _ _ _ _ _ (Tj6.setTop (mkF m 21 #[.val (.ref a1), .val (.long z40l1_2), .second, .val (.ref ca), .val (.int (4 : Int32)), .val (.int (2 : Int32)), .val (.int w1)] []))
      refine Gl.st (fun t k => XS.aloadN Xj6.here hx rfl (hb hby d4_21) rfl rfl k) ?_
      show Gl _ _ _ _ _ _ _ (Tj6.setTop (mkF m 22 #[.val (.ref a1), .val (.long z40l1_2), .second, .val (.ref ca), .val (.int (4 : Int32)), .val (.int (2 : Int32)), .val (.int w1)] [(.ref ca)]))
      refine Gl.st (fun t k => XS.iload Xj6.here hx rfl (hb hby d4_22) rfl  k) ?_
      show Gl _ _ _ _ _ _ _ (Tj6.setTop (mkF m 24 #[.val (.ref a1), .val (.long z40l1_2), .second, .val (.ref ca), .val (.int (4 : Int32)), .val (.int (2 : Int32)), .val (.int w1)] [(.int (2 : Int32)), (.ref ca)]))
      have Vx7 := Vc
      obtain ⟨cl7, Ar7, qk7, S7, M7, H7, G7⟩ := Vx7
      have hin7 : ¬ ((2 : Int32) < 0 ∨ cl7.slots.size ≤ ((2 : Int32)).toNatClampNeg) := inb_of S7 ⟨by decide, by decide⟩
      have hat7 : cl7.slots[((2 : Int32)).toNatClampNeg]? = some (.int w2) := H7.at hin7 rfl
      refine Gl.st (Xj6.iaload hx (j := (2 : Int32)) (v := (.int w2)) (by rw [ej6]; exact Ar7.1) (State.isArrayOf_alike hZ.alike Ar7.2.1) Ar7.2.2 hin7 hat7 (g := (mkF m 24 #[.val (.ref a1), .val (.long z40l1_2), .second, .val (.ref ca), .val (.int (4 : Int32)), .val (.int (2 : Int32)), .val (.int w1)] [(.int (2 : Int32)), (.ref ca)])) rfl rfl (hb hby d4_24)) ?_
      show Gl _ _ _ _ _ _ _ (Tj6.setTop (mkF m 25 #[.val (.ref a1), .val (.long z40l1_2), .second, .val (.ref ca), .val (.int (4 : Int32)), .val (.int (2 : Int32)), .val (.int w1)] [(.int w2)]))
      refine Gl.st (fun t k => XS.istore Xj6.here hx rfl (hb hby d4_25) rfl (l' := #[.val (.ref a1), .val (.long z40l1_2), .second, .val (.ref ca), .val (.int (4 : Int32)), .val (.int (2 : Int32)), .val (.int w2)]) rfl k) ?_
      show Gl _ _ _ _ _ _ _ (Tj6.setTop (mkF m 27 #[.val (.ref a1), .val (.long z40l1_2), .second, .val (.ref ca), .val (.int (4 : Int32)), .val (.int (2 : Int32)), .val (.int w2)] []))
      refine Gl.st (fun t k => XS.iload Xj6.here hx rfl (hb hby d4_27) rfl  k) ?_
      show Gl _ _ _ _ _ _ _ (Tj6.setTop (mkF m 29 #[.val (.ref a1), .val (.long z40l1_2), .second, .val (.ref ca), .val (.int (4 : Int32)), .val (.int (2 : Int32)), .val (.int w2)] [(.int w2)]))
      refine Gl.st (Xj6.ldcInt hx hown (mvT hZ (hw _ (List.mem_of_getElem? (i := 22) rfl))) (g := (mkF m 29 #[.val (.ref a1), .val (.long z40l1_2), .second, .val (.ref ca), .val (.int (4 : Int32)), .val (.int (2 : Int32)), .val (.int w2)] [(.int w2)])) rfl (hb hby d4_29)) ?_
      show Gl _ _ _ _ _ _ _ (Tj6.setTop (mkF m 31 #[.val (.ref a1), .val (.long z40l1_2), .second, .val (.ref ca), .val (.int (4 : Int32)), .val (.int (2 : Int32)), .val (.int w2)] [(.int (2147483647 : Int32)), (.int w2)]))
      have J8 : ∀ (Tj8 : State) (Lj8 : List Loc) (Xj8 : Stand p l e ({ frames := 0, cells := 0, slots := 0, locals := 0 } : Room) s m #[(.ref a1)] below meth c Tj8 Lj8 0 0) (ej8 : Tj8.heap = h0) (Nj8 : Fr n0 Lj8) (z40l1_3 : Int64) (hz40l1_3 : z40l1_3 = (if w2 = (2147483647 : Int32) then z40l1_2 else (z40l1_2 + (w2.toInt64)))), Gl p e below s (Q4v4 Z a1 ca ck w0 w1 w2 w3 h0 n0) ({ frames := 0, cells := 0, slots := 0, locals := 0 } : Room).cells ({ frames := 0, cells := 0, slots := 0, locals := 0 } : Room).slots (Tj8.setTop (mkF m 40 #[.val (.ref a1), .val (.long z40l1_3), .second, .val (.ref ca), .val (.int (4 : Int32)), .val (.int (2 : Int32)), .val (.int w2)] [])) := by
        intro Tj8 Lj8 Xj8 ej8 Nj8 z40l1_3 hz40l1_3
        show Gl _ _ _ _ _ _ _ (Tj8.setTop (mkF m 40 #[.val (.ref a1), .val (.long z40l1_3), .second, .val (.ref ca), .val (.int (4 : Int32)), .val (.int (2 : Int32)), .val (.int w2)] []))
        refine Gl.st (fun t k => XS.iinc Xj8.here hx rfl (hb hby d4_40) rfl (l' := #[.val (.ref a1), .val (.long z40l1_3), .second, .val (.ref ca), .val (.int (4 : Int32)), .val (.int (3 : Int32)), .val (.int w2)]) rfl k) ?_
        show Gl _ _ _ _ _ _ _ (Tj8.setTop (mkF m 43 #[.val (.ref a1), .val (.long z40l1_3), .second, .val (.ref ca), .val (.int (4 : Int32)), .val (.int (3 : Int32)), .val (.int w2)] []))
        refine Gl.st (fun t k => XS.goto Xj8.here hx rfl (pc0 := 43) (pc' := 14) rfl (hb hby d4_43) (by decide) (by decide) k) ?_
        show Gl _ _ _ _ _ _ _ (Tj8.setTop (mkF m 14 #[.val (.ref a1), .val (.long z40l1_3), .second, .val (.ref ca), .val (.int (4 : Int32)), .val (.int (3 : Int32)), .val (.int w2)] []))
        refine Gl.st (fun t k => XS.iload Xj8.here hx rfl (hb hby d4_14) rfl  k) ?_
        show Gl _ _ _ _ _ _ _ (Tj8.setTop (mkF m 16 #[.val (.ref a1), .val (.long z40l1_3), .second, .val (.ref ca), .val (.int (4 : Int32)), .val (.int (3 : Int32)), .val (.int w2)] [(.int (3 : Int32))]))
        refine Gl.st (fun t k => XS.iload Xj8.here hx rfl (hb hby d4_16) rfl  k) ?_
        show Gl _ _ _ _ _ _ _ (Tj8.setTop (mkF m 18 #[.val (.ref a1), .val (.long z40l1_3), .second, .val (.ref ca), .val (.int (4 : Int32)), .val (.int (3 : Int32)), .val (.int w2)] [(.int (4 : Int32)), (.int (3 : Int32))]))
        refine Gl.st (fun t k => XS.icmpNo Xj8.here hx rfl (hb hby d4_18) rfl (tlt (by decide : (3 : Int32) < (4 : Int32))).2.1 k) ?_
        show Gl _ _ _ _ _ _ _ (Tj8.setTop (mkF m 21 #[.val (.ref a1), .val (.long z40l1_3), .second, .val (.ref ca), .val (.int (4 : Int32)), .val (.int (3 : Int32)), .val (.int w2)] []))
        refine Gl.st (fun t k => XS.aloadN Xj8.here hx rfl (hb hby d4_21) rfl rfl k) ?_
        show Gl _ _ _ _ _ _ _ (Tj8.setTop (mkF m 22 #[.val (.ref a1), .val (.long z40l1_3), .second, .val (.ref ca), .val (.int (4 : Int32)), .val (.int (3 : Int32)), .val (.int w2)] [(.ref ca)]))
        refine Gl.st (fun t k => XS.iload Xj8.here hx rfl (hb hby d4_22) rfl  k) ?_
        show Gl _ _ _ _ _ _ _ (Tj8.setTop (mkF m 24 #[.val (.ref a1), .val (.long z40l1_3), .second, .val (.ref ca), .val (.int (4 : Int32)), .val (.int (3 : Int32)), .val (.int w2)] [(.int (3 : Int32)), (.ref ca)]))
        have Vx9 := Vc
        obtain ⟨cl9, Ar9, qk9, S9, M9, H9, G9⟩ := Vx9
        have hin9 : ¬ ((3 : Int32) < 0 ∨ cl9.slots.size ≤ ((3 : Int32)).toNatClampNeg) := inb_of S9 ⟨by decide, by decide⟩
        have hat9 : cl9.slots[((3 : Int32)).toNatClampNeg]? = some (.int w3) := H9.at hin9 rfl
        refine Gl.st (Xj8.iaload hx (j := (3 : Int32)) (v := (.int w3)) (by rw [ej8]; exact Ar9.1) (State.isArrayOf_alike hZ.alike Ar9.2.1) Ar9.2.2 hin9 hat9 (g := (mkF m 24 #[.val (.ref a1), .val (.long z40l1_3), .second, .val (.ref ca), .val (.int (4 : Int32)), .val (.int (3 : Int32)), .val (.int w2)] [(.int (3 : Int32)), (.ref ca)])) rfl rfl (hb hby d4_24)) ?_
        show Gl _ _ _ _ _ _ _ (Tj8.setTop (mkF m 25 #[.val (.ref a1), .val (.long z40l1_3), .second, .val (.ref ca), .val (.int (4 : Int32)), .val (.int (3 : Int32)), .val (.int w2)] [(.int w3)]))
        refine Gl.st (fun t k => XS.istore Xj8.here hx rfl (hb hby d4_25) rfl (l' := #[.val (.ref a1), .val (.long z40l1_3), .second, .val (.ref ca), .val (.int (4 : Int32)), .val (.int (3 : Int32)), .val (.int w3)]) rfl k) ?_
        show Gl _ _ _ _ _ _ _ (Tj8.setTop (mkF m 27 #[.val (.ref a1), .val (.long z40l1_3), .second, .val (.ref ca), .val (.int (4 : Int32)), .val (.int (3 : Int32)), .val (.int w3)] []))
        refine Gl.st (fun t k => XS.iload Xj8.here hx rfl (hb hby d4_27) rfl  k) ?_
        show Gl _ _ _ _ _ _ _ (Tj8.setTop (mkF m 29 #[.val (.ref a1), .val (.long z40l1_3), .second, .val (.ref ca), .val (.int (4 : Int32)), .val (.int (3 : Int32)), .val (.int w3)] [(.int w3)]))
        refine Gl.st (Xj8.ldcInt hx hown (mvT hZ (hw _ (List.mem_of_getElem? (i := 22) rfl))) (g := (mkF m 29 #[.val (.ref a1), .val (.long z40l1_3), .second, .val (.ref ca), .val (.int (4 : Int32)), .val (.int (3 : Int32)), .val (.int w3)] [(.int w3)])) rfl (hb hby d4_29)) ?_
        show Gl _ _ _ _ _ _ _ (Tj8.setTop (mkF m 31 #[.val (.ref a1), .val (.long z40l1_3), .second, .val (.ref ca), .val (.int (4 : Int32)), .val (.int (3 : Int32)), .val (.int w3)] [(.int (2147483647 : Int32)), (.int w3)]))
        have J10 : ∀ (Tj10 : State) (Lj10 : List Loc) (Xj10 : Stand p l e ({ frames := 0, cells := 0, slots := 0, locals := 0 } : Room) s m #[(.ref a1)] below meth c Tj10 Lj10 0 0) (ej10 : Tj10.heap = h0) (Nj10 : Fr n0 Lj10) (z40l1_4 : Int64) (hz40l1_4 : z40l1_4 = (if w3 = (2147483647 : Int32) then z40l1_3 else (z40l1_3 + (w3.toInt64)))), Gl p e below s (Q4v4 Z a1 ca ck w0 w1 w2 w3 h0 n0) ({ frames := 0, cells := 0, slots := 0, locals := 0 } : Room).cells ({ frames := 0, cells := 0, slots := 0, locals := 0 } : Room).slots (Tj10.setTop (mkF m 40 #[.val (.ref a1), .val (.long z40l1_4), .second, .val (.ref ca), .val (.int (4 : Int32)), .val (.int (3 : Int32)), .val (.int w3)] [])) := by
          intro Tj10 Lj10 Xj10 ej10 Nj10 z40l1_4 hz40l1_4
          show Gl _ _ _ _ _ _ _ (Tj10.setTop (mkF m 40 #[.val (.ref a1), .val (.long z40l1_4), .second, .val (.ref ca), .val (.int (4 : Int32)), .val (.int (3 : Int32)), .val (.int w3)] []))
          refine Gl.st (fun t k => XS.iinc Xj10.here hx rfl (hb hby d4_40) rfl (l' := #[.val (.ref a1), .val (.long z40l1_4), .second, .val (.ref ca), .val (.int (4 : Int32)), .val (.int (4 : Int32)), .val (.int w3)]) rfl k) ?_
          show Gl _ _ _ _ _ _ _ (Tj10.setTop (mkF m 43 #[.val (.ref a1), .val (.long z40l1_4), .second, .val (.ref ca), .val (.int (4 : Int32)), .val (.int (4 : Int32)), .val (.int w3)] []))
          refine Gl.st (fun t k => XS.goto Xj10.here hx rfl (pc0 := 43) (pc' := 14) rfl (hb hby d4_43) (by decide) (by decide) k) ?_
          show Gl _ _ _ _ _ _ _ (Tj10.setTop (mkF m 14 #[.val (.ref a1), .val (.long z40l1_4), .second, .val (.ref ca), .val (.int (4 : Int32)), .val (.int (4 : Int32)), .val (.int w3)] []))
          refine Gl.st (fun t k => XS.iload Xj10.here hx rfl (hb hby d4_14) rfl  k) ?_
          show Gl _ _ _ _ _ _ _ (Tj10.setTop (mkF m 16 #[.val (.ref a1), .val (.long z40l1_4), .second, .val (.ref ca), .val (.int (4 : Int32)), .val (.int (4 : Int32)), .val (.int w3)] [(.int (4 : Int32))]))
          refine Gl.st (fun t k => XS.iload Xj10.here hx rfl (hb hby d4_16) rfl  k) ?_
          show Gl _ _ _ _ _ _ _ (Tj10.setTop (mkF m 18 #[.val (.ref a1), .val (.long z40l1_4), .second, .val (.ref ca), .val (.int (4 : Int32)), .val (.int (4 : Int32)), .val (.int w3)] [(.int (4 : Int32)), (.int (4 : Int32))]))
          refine Gl.st (fun t k => XS.icmpYes Xj10.here hx rfl (pc0 := 18) (pc' := 46) rfl (hb hby d4_18) rfl (flt (by decide : ¬ ((4 : Int32) < (4 : Int32)))).2.1 (by decide) (by decide) k) ?_
          show Gl _ _ _ _ _ _ _ (Tj10.setTop (mkF m 46 #[.val (.ref a1), .val (.long z40l1_4), .second, .val (.ref ca), .val (.int (4 : Int32)), .val (.int (4 : Int32)), .val (.int w3)] []))
          refine Gl.st (fun t k => XS.lloadN Xj10.here hx rfl (hb hby d4_46) rfl  k) ?_
          show Gl _ _ _ _ _ _ _ (Tj10.setTop (mkF m 47 #[.val (.ref a1), .val (.long z40l1_4), .second, .val (.ref ca), .val (.int (4 : Int32)), .val (.int (4 : Int32)), .val (.int w3)] [(.long z40l1_4)]))
          exact Gl.retJ Xj10 hx hlk Bd.returns (hb hby d4_47) (⟨congrArg (fun z => some (Value.long z)) (show z40l1_4 = own_counted4 w0 w1 w2 w3 from by subst_vars; rfl), Nj10, ej10⟩) (by decide) (by decide)
        by_cases hc31 : w3 = (2147483647 : Int32)
        · refine Gl.st (fun t k => XS.icmpYes Xj8.here hx rfl (pc0 := 31) (pc' := 40) rfl (hb hby d4_31) rfl (teq hc31).1 (by decide) (by decide) k) ?_
          show Gl _ _ _ _ _ _ _ (Tj8.setTop (mkF m 40 #[.val (.ref a1), .val (.long z40l1_3), .second, .val (.ref ca), .val (.int (4 : Int32)), .val (.int (3 : Int32)), .val (.int w3)] []))
          exact J10 _ _ Xj8 ej8 Nj8 _ (by simp only [if_pos hc31])
        · refine Gl.st (fun t k => XS.icmpNo Xj8.here hx rfl (hb hby d4_31) rfl (feq hc31).1 k) ?_
          show Gl _ _ _ _ _ _ _ (Tj8.setTop (mkF m 34 #[.val (.ref a1), .val (.long z40l1_3), .second, .val (.ref ca), .val (.int (4 : Int32)), .val (.int (3 : Int32)), .val (.int w3)] []))
          refine Gl.st (fun t k => XS.lloadN Xj8.here hx rfl (hb hby d4_34) rfl  k) ?_
          show Gl _ _ _ _ _ _ _ (Tj8.setTop (mkF m 35 #[.val (.ref a1), .val (.long z40l1_3), .second, .val (.ref ca), .val (.int (4 : Int32)), .val (.int (3 : Int32)), .val (.int w3)] [(.long z40l1_3)]))
          refine Gl.st (fun t k => XS.iload Xj8.here hx rfl (hb hby d4_35) rfl  k) ?_
          show Gl _ _ _ _ _ _ _ (Tj8.setTop (mkF m 37 #[.val (.ref a1), .val (.long z40l1_3), .second, .val (.ref ca), .val (.int (4 : Int32)), .val (.int (3 : Int32)), .val (.int w3)] [(.int w3), (.long z40l1_3)]))
          refine Gl.st (fun t k => XS.i2l Xj8.here hx rfl (hb hby d4_37) rfl k) ?_
          show Gl _ _ _ _ _ _ _ (Tj8.setTop (mkF m 38 #[.val (.ref a1), .val (.long z40l1_3), .second, .val (.ref ca), .val (.int (4 : Int32)), .val (.int (3 : Int32)), .val (.int w3)] [(.long (w3.toInt64)), (.long z40l1_3)]))
          refine Gl.st (fun t k => XS.ladd Xj8.here hx rfl (hb hby d4_38) rfl k) ?_
          show Gl _ _ _ _ _ _ _ (Tj8.setTop (mkF m 39 #[.val (.ref a1), .val (.long z40l1_3), .second, .val (.ref ca), .val (.int (4 : Int32)), .val (.int (3 : Int32)), .val (.int w3)] [(.long (z40l1_3 + (w3.toInt64)))]))
          refine Gl.st (fun t k => XS.lstoreN Xj8.here hx rfl (hb hby d4_39) rfl (l' := #[.val (.ref a1), .val (.long (z40l1_3 + (w3.toInt64))), .second, .val (.ref ca), .val (.int (4 : Int32)), .val (.int (3 : Int32)), .val (.int w3)]) rfl k) ?_
          show Gl _ _ _ _ _ _ _ (Tj8.setTop (mkF m 40 #[.val (.ref a1), .val (.long (z40l1_3 + (w3.toInt64))), .second, .val (.ref ca), .val (.int (4 : Int32)), .val (.int (3 : Int32)), .val (.int w3)] []))
          exact J10 _ _ Xj8 ej8 Nj8 _ (by simp only [if_neg hc31])
      by_cases hc31 : w2 = (2147483647 : Int32)
      · refine Gl.st (fun t k => XS.icmpYes Xj6.here hx rfl (pc0 := 31) (pc' := 40) rfl (hb hby d4_31) rfl (teq hc31).1 (by decide) (by decide) k) ?_
        show Gl _ _ _ _ _ _ _ (Tj6.setTop (mkF m 40 #[.val (.ref a1), .val (.long z40l1_2), .second, .val (.ref ca), .val (.int (4 : Int32)), .val (.int (2 : Int32)), .val (.int w2)] []))
        exact J8 _ _ Xj6 ej6 Nj6 _ (by simp only [if_pos hc31])
      · refine Gl.st (fun t k => XS.icmpNo Xj6.here hx rfl (hb hby d4_31) rfl (feq hc31).1 k) ?_
        show Gl _ _ _ _ _ _ _ (Tj6.setTop (mkF m 34 #[.val (.ref a1), .val (.long z40l1_2), .second, .val (.ref ca), .val (.int (4 : Int32)), .val (.int (2 : Int32)), .val (.int w2)] []))
        refine Gl.st (fun t k => XS.lloadN Xj6.here hx rfl (hb hby d4_34) rfl  k) ?_
        show Gl _ _ _ _ _ _ _ (Tj6.setTop (mkF m 35 #[.val (.ref a1), .val (.long z40l1_2), .second, .val (.ref ca), .val (.int (4 : Int32)), .val (.int (2 : Int32)), .val (.int w2)] [(.long z40l1_2)]))
        refine Gl.st (fun t k => XS.iload Xj6.here hx rfl (hb hby d4_35) rfl  k) ?_
        show Gl _ _ _ _ _ _ _ (Tj6.setTop (mkF m 37 #[.val (.ref a1), .val (.long z40l1_2), .second, .val (.ref ca), .val (.int (4 : Int32)), .val (.int (2 : Int32)), .val (.int w2)] [(.int w2), (.long z40l1_2)]))
        refine Gl.st (fun t k => XS.i2l Xj6.here hx rfl (hb hby d4_37) rfl k) ?_
        show Gl _ _ _ _ _ _ _ (Tj6.setTop (mkF m 38 #[.val (.ref a1), .val (.long z40l1_2), .second, .val (.ref ca), .val (.int (4 : Int32)), .val (.int (2 : Int32)), .val (.int w2)] [(.long (w2.toInt64)), (.long z40l1_2)]))
        refine Gl.st (fun t k => XS.ladd Xj6.here hx rfl (hb hby d4_38) rfl k) ?_
        show Gl _ _ _ _ _ _ _ (Tj6.setTop (mkF m 39 #[.val (.ref a1), .val (.long z40l1_2), .second, .val (.ref ca), .val (.int (4 : Int32)), .val (.int (2 : Int32)), .val (.int w2)] [(.long (z40l1_2 + (w2.toInt64)))]))
        refine Gl.st (fun t k => XS.lstoreN Xj6.here hx rfl (hb hby d4_39) rfl (l' := #[.val (.ref a1), .val (.long (z40l1_2 + (w2.toInt64))), .second, .val (.ref ca), .val (.int (4 : Int32)), .val (.int (2 : Int32)), .val (.int w2)]) rfl k) ?_
        show Gl _ _ _ _ _ _ _ (Tj6.setTop (mkF m 40 #[.val (.ref a1), .val (.long (z40l1_2 + (w2.toInt64))), .second, .val (.ref ca), .val (.int (4 : Int32)), .val (.int (2 : Int32)), .val (.int w2)] []))
        exact J8 _ _ Xj6 ej6 Nj6 _ (by simp only [if_neg hc31])
    by_cases hc31 : w1 = (2147483647 : Int32)
    · refine Gl.st (fun t k => XS.icmpYes Xj4.here hx rfl (pc0 := 31) (pc' := 40) rfl (hb hby d4_31) rfl (teq hc31).1 (by decide) (by decide) k) ?_
      show Gl _ _ _ _ _ _ _ (Tj4.setTop (mkF m 40 #[.val (.ref a1), .val (.long z40l1), .second, .val (.ref ca), .val (.int (4 : Int32)), .val (.int (1 : Int32)), .val (.int w1)] []))
      exact J6 _ _ Xj4 ej4 Nj4 _ (by simp only [if_pos hc31])
    · refine Gl.st (fun t k => XS.icmpNo Xj4.here hx rfl (hb hby d4_31) rfl (feq hc31).1 k) ?_
      show Gl _ _ _ _ _ _ _ (Tj4.setTop (mkF m 34 #[.val (.ref a1), .val (.long z40l1), .second, .val (.ref ca), .val (.int (4 : Int32)), .val (.int (1 : Int32)), .val (.int w1)] []))
      refine Gl.st (fun t k => XS.lloadN Xj4.here hx rfl (hb hby d4_34) rfl  k) ?_
      show Gl _ _ _ _ _ _ _ (Tj4.setTop (mkF m 35 #[.val (.ref a1), .val (.long z40l1), .second, .val (.ref ca), .val (.int (4 : Int32)), .val (.int (1 : Int32)), .val (.int w1)] [(.long z40l1)]))
      refine Gl.st (fun t k => XS.iload Xj4.here hx rfl (hb hby d4_35) rfl  k) ?_
      show Gl _ _ _ _ _ _ _ (Tj4.setTop (mkF m 37 #[.val (.ref a1), .val (.long z40l1), .second, .val (.ref ca), .val (.int (4 : Int32)), .val (.int (1 : Int32)), .val (.int w1)] [(.int w1), (.long z40l1)]))
      refine Gl.st (fun t k => XS.i2l Xj4.here hx rfl (hb hby d4_37) rfl k) ?_
      show Gl _ _ _ _ _ _ _ (Tj4.setTop (mkF m 38 #[.val (.ref a1), .val (.long z40l1), .second, .val (.ref ca), .val (.int (4 : Int32)), .val (.int (1 : Int32)), .val (.int w1)] [(.long (w1.toInt64)), (.long z40l1)]))
      refine Gl.st (fun t k => XS.ladd Xj4.here hx rfl (hb hby d4_38) rfl k) ?_
      show Gl _ _ _ _ _ _ _ (Tj4.setTop (mkF m 39 #[.val (.ref a1), .val (.long z40l1), .second, .val (.ref ca), .val (.int (4 : Int32)), .val (.int (1 : Int32)), .val (.int w1)] [(.long (z40l1 + (w1.toInt64)))]))
      refine Gl.st (fun t k => XS.lstoreN Xj4.here hx rfl (hb hby d4_39) rfl (l' := #[.val (.ref a1), .val (.long (z40l1 + (w1.toInt64))), .second, .val (.ref ca), .val (.int (4 : Int32)), .val (.int (1 : Int32)), .val (.int w1)]) rfl k) ?_
      show Gl _ _ _ _ _ _ _ (Tj4.setTop (mkF m 40 #[.val (.ref a1), .val (.long (z40l1 + (w1.toInt64))), .second, .val (.ref ca), .val (.int (4 : Int32)), .val (.int (1 : Int32)), .val (.int w1)] []))
      exact J6 _ _ Xj4 ej4 Nj4 _ (by simp only [if_neg hc31])
  by_cases hc31 : w0 = (2147483647 : Int32)
  · refine Gl.st (fun t k => XS.icmpYes X1.here hx rfl (pc0 := 31) (pc' := 40) rfl (hb hby d4_31) rfl (teq hc31).1 (by decide) (by decide) k) ?_
    show Gl _ _ _ _ _ _ _ (T1.setTop (mkF m 40 #[.val (.ref a1), .val (.long (0 : Int64)), .second, .val (.ref ca), .val (.int (4 : Int32)), .val (.int (0 : Int32)), .val (.int w0)] []))
    exact J4 _ _ X1 e1 N0 _ (by simp only [if_pos hc31])
  · refine Gl.st (fun t k => XS.icmpNo X1.here hx rfl (hb hby d4_31) rfl (feq hc31).1 k) ?_
    show Gl _ _ _ _ _ _ _ (T1.setTop (mkF m 34 #[.val (.ref a1), .val (.long (0 : Int64)), .second, .val (.ref ca), .val (.int (4 : Int32)), .val (.int (0 : Int32)), .val (.int w0)] []))
    refine Gl.st (fun t k => XS.lloadN X1.here hx rfl (hb hby d4_34) rfl  k) ?_
    show Gl _ _ _ _ _ _ _ (T1.setTop (mkF m 35 #[.val (.ref a1), .val (.long (0 : Int64)), .second, .val (.ref ca), .val (.int (4 : Int32)), .val (.int (0 : Int32)), .val (.int w0)] [(.long (0 : Int64))]))
    refine Gl.st (fun t k => XS.iload X1.here hx rfl (hb hby d4_35) rfl  k) ?_
    show Gl _ _ _ _ _ _ _ (T1.setTop (mkF m 37 #[.val (.ref a1), .val (.long (0 : Int64)), .second, .val (.ref ca), .val (.int (4 : Int32)), .val (.int (0 : Int32)), .val (.int w0)] [(.int w0), (.long (0 : Int64))]))
    refine Gl.st (fun t k => XS.i2l X1.here hx rfl (hb hby d4_37) rfl k) ?_
    show Gl _ _ _ _ _ _ _ (T1.setTop (mkF m 38 #[.val (.ref a1), .val (.long (0 : Int64)), .second, .val (.ref ca), .val (.int (4 : Int32)), .val (.int (0 : Int32)), .val (.int w0)] [(.long (w0.toInt64)), (.long (0 : Int64))]))
    refine Gl.st (fun t k => XS.ladd X1.here hx rfl (hb hby d4_38) rfl k) ?_
    show Gl _ _ _ _ _ _ _ (T1.setTop (mkF m 39 #[.val (.ref a1), .val (.long (0 : Int64)), .second, .val (.ref ca), .val (.int (4 : Int32)), .val (.int (0 : Int32)), .val (.int w0)] [(.long ((0 : Int64) + (w0.toInt64)))]))
    refine Gl.st (fun t k => XS.lstoreN X1.here hx rfl (hb hby d4_39) rfl (l' := #[.val (.ref a1), .val (.long ((0 : Int64) + (w0.toInt64))), .second, .val (.ref ca), .val (.int (4 : Int32)), .val (.int (0 : Int32)), .val (.int w0)]) rfl k) ?_
    show Gl _ _ _ _ _ _ _ (T1.setTop (mkF m 40 #[.val (.ref a1), .val (.long ((0 : Int64) + (w0.toInt64))), .second, .val (.ref ca), .val (.int (4 : Int32)), .val (.int (0 : Int32)), .val (.int w0)] []))
    exact J4 _ _ X1 e1 N0 _ (by simp only [if_neg hc31])
theorem pf_3 : plainFor (⟨"com/example/enact/enact/engine/MarkingCountedPinLaw", "law", "(IIIII)Z"⟩ : MethodName) = true := by decide +kernel
def Q0 (Z : State) (p1 : Int32) (p2 : Int32) (p3 : Int32) (p4 : Int32) (p5 : Int32) (h0 : Heap) (n0 : Nat) (v : Option Value) (h : Heap) (L : List Loc) : Prop := v = some (.int 1) ∧ Fr n0 L
theorem ef_0 (m : MethodId) (p1 : Int32) (p2 : Int32) (p3 : Int32) (p4 : Int32) (p5 : Int32) : entryFrame m #[(.int p1), (.int p2), (.int p3), (.int p4), (.int p5)] maxLocals = mkF m 0 #[.val (.int p1), .val (.int p2), .val (.int p3), .val (.int p4), .val (.int p5), .unset, .unset, .unset, .unset, .unset, .unset] [] := by first | (simp [entryFrame, mkF, argsToLocals, Value.category, maxLocals]; done) | rfl
theorem pd_0 : parseMethodDescriptor "(I)J" = some ⟨[.int], some .long⟩ := by decide +kernel
theorem pd_1 : parseMethodDescriptor "([I)V" = some ⟨[(.array .int)], none⟩ := by decide +kernel
theorem pd_2 : parseMethodDescriptor "()J" = some ⟨[], some .long⟩ := by decide +kernel
set_option maxRecDepth 65536 in
set_option maxHeartbeats 40000000 in
theorem rm0 (l : Launch) (Z : State) (a0 : Array Value) (hw : ∀ d ∈ tables_1, d.before a0 Z = true) (ws : List Jvm.Cond) (p1 : Int32) (p2 : Int32) (p3 : Int32) (p4 : Int32) (p5 : Int32) (h0 : Heap) (n0 : Nat) (Z0 : n0 ≤ h0.size) :
    MetFree l x (head1 (Jvm.Cond.code x code maxLocals ret :: ws) room_1) (fun a U => a = #[(.int p1), (.int p2), (.int p3), (.int p4), (.int p5)] ∧ Z.Warmed39 U.vm ∧ U.heap = h0) (fun _ _ _ _ _ => True) (fun _ U o U' => ∃ v L, o = .returned v ∧ Q0 Z p1 p2 p3 p4 p5 h0 n0 v U'.heap L ∧ FrameEnd U o U' L room_1.cells room_1.slots) := by
  refine MetFree.of_bodySF pf_3 hisR ?_
  intro p e s m args below meth c s₁ Bd hml0 hP hK
  obtain ⟨rfl, hZ, hh⟩ := hP
  have hx := Bd.exec
  have hby := Bd.bytes
  have hlk : meth.locks = false := BodyLoose.notSynchronized Bd
  have hml : c.maxLocals = 11 := hml0
  have hown : s.vm.findClass "com/example/enact/enact/engine/MarkingCountedPinLaw" = some m.cls := findClass_of_methodNamed Bd.named
  have hnm := (name_of_methodNamed Bd.named Bd.method).1
  have X0 : Stand p l e room_1 s m #[(.int p1), (.int p2), (.int p3), (.int p4), (.int p5)] below meth c s₁ [] 0 0 := Stand.of_body Bd
  have e0 : s₁.heap = h0 := by rw [← hh, Bd.state]; rfl
  have N0 := Fr.nil n0
  show Gl p e below s (Q0 Z p1 p2 p3 p4 p5 h0 n0) room_1.cells room_1.slots (s₁.setTop (entryFrame m #[(.int p1), (.int p2), (.int p3), (.int p4), (.int p5)] maxLocals))
  rw [ef_0]
  show Gl _ _ _ _ _ _ _ (s₁.setTop (mkF m 0 #[.val (.int p1), .val (.int p2), .val (.int p3), .val (.int p4), .val (.int p5), .unset, .unset, .unset, .unset, .unset, .unset] []))
  refine Gl.st (fun t k => XS.iconst X0.here hx rfl (hb hby at_0) k) ?_
  show Gl _ _ _ _ _ _ _ (s₁.setTop (mkF m 1 #[.val (.int p1), .val (.int p2), .val (.int p3), .val (.int p4), .val (.int p5), .unset, .unset, .unset, .unset, .unset, .unset] [(.int (4 : Int32))]))
  obtain ⟨T1, h1, k1, X1, e1, E1, A1, st1⟩ := newP X0 hx hZ (hw _ (List.mem_of_getElem? (i := 0) rfl)) e0 (g := (mkF m 1 #[.val (.int p1), .val (.int p2), .val (.int p3), .val (.int p4), .val (.int p5), .unset, .unset, .unset, .unset, .unset, .unset] [(.int (4 : Int32))])) rfl (hb hby at_1) rfl (by decide) (cap := 4) (by decide) (by decide) (by decide) (by decide)
  obtain ⟨b1, g1⟩ : ∃ z, z = h0.size := ⟨_, rfl⟩
  rw [← g1] at A1 st1
  refine Gl.st st1 ?_
  have gzb1 : n0 ≤ b1 := Nat.le_trans Z0 (Nat.le_of_eq g1.symm)
  have Z1 : n0 ≤ h1.size := Nat.le_trans Z0 E1.1
  have V1 : Arv Z h1 b1 k1 .int (4 : Int32) [(.int (0 : Int32)), (.int (0 : Int32)), (.int (0 : Int32)), (.int (0 : Int32))] (.int (0 : Int32)) := (Arv.new A1 (by decide)).pad (pad_rep [] (.int (0 : Int32)) 4)
  show Gl _ _ _ _ _ _ _ (T1.setTop (mkF m 3 #[.val (.int p1), .val (.int p2), .val (.int p3), .val (.int p4), .val (.int p5), .unset, .unset, .unset, .unset, .unset, .unset] [(.ref b1)]))
  refine Gl.st (fun t k => XS.astore X1.here hx rfl (hb hby at_3) rfl rfl (l' := #[.val (.int p1), .val (.int p2), .val (.int p3), .val (.int p4), .val (.int p5), .val (.ref b1), .unset, .unset, .unset, .unset, .unset]) rfl k) ?_
  show Gl _ _ _ _ _ _ _ (T1.setTop (mkF m 5 #[.val (.int p1), .val (.int p2), .val (.int p3), .val (.int p4), .val (.int p5), .val (.ref b1), .unset, .unset, .unset, .unset, .unset] []))
  refine Gl.st (fun t k => XS.aload X1.here hx rfl (hb hby at_5) rfl rfl k) ?_
  show Gl _ _ _ _ _ _ _ (T1.setTop (mkF m 7 #[.val (.int p1), .val (.int p2), .val (.int p3), .val (.int p4), .val (.int p5), .val (.ref b1), .unset, .unset, .unset, .unset, .unset] [(.ref b1)]))
  refine Gl.st (fun t k => XS.iconst X1.here hx rfl (hb hby at_7) k) ?_
  show Gl _ _ _ _ _ _ _ (T1.setTop (mkF m 8 #[.val (.int p1), .val (.int p2), .val (.int p3), .val (.int p4), .val (.int p5), .val (.ref b1), .unset, .unset, .unset, .unset, .unset] [(.int (0 : Int32)), (.ref b1)]))
  refine Gl.st (fun t k => XS.iload X1.here hx rfl (hb hby at_8) rfl  k) ?_
  show Gl _ _ _ _ _ _ _ (T1.setTop (mkF m 10 #[.val (.int p1), .val (.int p2), .val (.int p3), .val (.int p4), .val (.int p5), .val (.ref b1), .unset, .unset, .unset, .unset, .unset] [(.int p5), (.int (0 : Int32)), (.ref b1)]))
  refine Gl.st (fun t k => XS.iconst X1.here hx rfl (hb hby at_10) k) ?_
  show Gl _ _ _ _ _ _ _ (T1.setTop (mkF m 11 #[.val (.int p1), .val (.int p2), .val (.int p3), .val (.int p4), .val (.int p5), .val (.ref b1), .unset, .unset, .unset, .unset, .unset] [(.int (1 : Int32)), (.int p5), (.int (0 : Int32)), (.ref b1)]))
  refine Gl.st (fun t k => XS.iand X1.here hx rfl (hb hby at_11) rfl k) ?_
  show Gl _ _ _ _ _ _ _ (T1.setTop (mkF m 12 #[.val (.int p1), .val (.int p2), .val (.int p3), .val (.int p4), .val (.int p5), .val (.ref b1), .unset, .unset, .unset, .unset, .unset] [(.int (p5 &&& (1 : Int32))), (.int (0 : Int32)), (.ref b1)]))
  have J2 : ∀ (Tj2 : State) (Lj2 : List Loc) (Xj2 : Stand p l e room_1 s m #[(.int p1), (.int p2), (.int p3), (.int p4), (.int p5)] below meth c Tj2 Lj2 1 4) (ej2 : Tj2.heap = h1) (Nj2 : Fr n0 Lj2) (z21s2 : Int32) (hz21s2 : z21s2 = (if (p5 &&& (1 : Int32)) = (0 : Int32) then p1 else (2147483647 : Int32))), Gl p e below s (Q0 Z p1 p2 p3 p4 p5 h0 n0) room_1.cells room_1.slots (Tj2.setTop (mkF m 21 #[.val (.int p1), .val (.int p2), .val (.int p3), .val (.int p4), .val (.int p5), .val (.ref b1), .unset, .unset, .unset, .unset, .unset] [(.int z21s2), (.int (0 : Int32)), (.ref b1)])) := by
    intro Tj2 Lj2 Xj2 ej2 Nj2 z21s2 hz21s2
    show Gl _ _ _ _ _ _ _ (Tj2.setTop (mkF m 21 #[.val (.int p1), .val (.int p2), .val (.int p3), .val (.int p4), .val (.int p5), .val (.ref b1), .unset, .unset, .unset, .unset, .unset] [(.int z21s2), (.int (0 : Int32)), (.ref b1)]))
    have Vx3 := V1
    obtain ⟨cl3, Ar3, qk3, S3, M3, H3, G3⟩ := Vx3
    have hin3 : ¬ ((0 : Int32) < 0 ∨ cl3.slots.size ≤ ((0 : Int32)).toNatClampNeg) := inb_of S3 ⟨by decide, by decide⟩
    obtain ⟨T3, h3, X3, e3, W3, st3⟩ := stI Xj2 hx hZ ej2 Ar3 (j := (0 : Int32)) hin3 (g := (mkF m 21 #[.val (.int p1), .val (.int p2), .val (.int p3), .val (.int p4), .val (.int p5), .val (.ref b1), .unset, .unset, .unset, .unset, .unset] [(.int z21s2), (.int (0 : Int32)), (.ref b1)])) rfl rfl (hb hby at_21)
    refine Gl.st st3 ?_
    have Z3 : n0 ≤ h3.size := Nat.le_trans Z1 (Keep.of_wr W3).1
    have N3 := Fr.snoc X3 Nj2 gzb1
    have V3 : Arv Z h3 b1 k1 .int (4 : Int32) [(.int z21s2), (.int (0 : Int32)), (.int (0 : Int32)), (.int (0 : Int32))] (.int (0 : Int32)) := Arv.set Ar3 qk3 S3 M3 H3 G3 rfl W3 0 rfl (Nat.le_of_ble_eq_true rfl)
    show Gl _ _ _ _ _ _ _ (T3.setTop (mkF m 22 #[.val (.int p1), .val (.int p2), .val (.int p3), .val (.int p4), .val (.int p5), .val (.ref b1), .unset, .unset, .unset, .unset, .unset] []))
    refine Gl.st (fun t k => XS.aload X3.here hx rfl (hb hby at_22) rfl rfl k) ?_
    show Gl _ _ _ _ _ _ _ (T3.setTop (mkF m 24 #[.val (.int p1), .val (.int p2), .val (.int p3), .val (.int p4), .val (.int p5), .val (.ref b1), .unset, .unset, .unset, .unset, .unset] [(.ref b1)]))
    refine Gl.st (fun t k => XS.iconst X3.here hx rfl (hb hby at_24) k) ?_
    show Gl _ _ _ _ _ _ _ (T3.setTop (mkF m 25 #[.val (.int p1), .val (.int p2), .val (.int p3), .val (.int p4), .val (.int p5), .val (.ref b1), .unset, .unset, .unset, .unset, .unset] [(.int (1 : Int32)), (.ref b1)]))
    refine Gl.st (fun t k => XS.iload X3.here hx rfl (hb hby at_25) rfl  k) ?_
    show Gl _ _ _ _ _ _ _ (T3.setTop (mkF m 27 #[.val (.int p1), .val (.int p2), .val (.int p3), .val (.int p4), .val (.int p5), .val (.ref b1), .unset, .unset, .unset, .unset, .unset] [(.int p5), (.int (1 : Int32)), (.ref b1)]))
    refine Gl.st (fun t k => XS.iconst X3.here hx rfl (hb hby at_27) k) ?_
    show Gl _ _ _ _ _ _ _ (T3.setTop (mkF m 28 #[.val (.int p1), .val (.int p2), .val (.int p3), .val (.int p4), .val (.int p5), .val (.ref b1), .unset, .unset, .unset, .unset, .unset] [(.int (2 : Int32)), (.int p5), (.int (1 : Int32)), (.ref b1)]))
    refine Gl.st (fun t k => XS.iand X3.here hx rfl (hb hby at_28) rfl k) ?_
    show Gl _ _ _ _ _ _ _ (T3.setTop (mkF m 29 #[.val (.int p1), .val (.int p2), .val (.int p3), .val (.int p4), .val (.int p5), .val (.ref b1), .unset, .unset, .unset, .unset, .unset] [(.int (p5 &&& (2 : Int32))), (.int (1 : Int32)), (.ref b1)]))
    have J4 : ∀ (Tj4 : State) (Lj4 : List Loc) (Xj4 : Stand p l e room_1 s m #[(.int p1), (.int p2), (.int p3), (.int p4), (.int p5)] below meth c Tj4 Lj4 1 4) (ej4 : Tj4.heap = h3) (Nj4 : Fr n0 Lj4) (z38s2 : Int32) (hz38s2 : z38s2 = (if (p5 &&& (2 : Int32)) = (0 : Int32) then p2 else (2147483647 : Int32))), Gl p e below s (Q0 Z p1 p2 p3 p4 p5 h0 n0) room_1.cells room_1.slots (Tj4.setTop (mkF m 38 #[.val (.int p1), .val (.int p2), .val (.int p3), .val (.int p4), .val (.int p5), .val (.ref b1), .unset, .unset, .unset, .unset, .unset] [(.int z38s2), (.int (1 : Int32)), (.ref b1)])) := by
      intro Tj4 Lj4 Xj4 ej4 Nj4 z38s2 hz38s2
      show Gl _ _ _ _ _ _ _ (Tj4.setTop (mkF m 38 #[.val (.int p1), .val (.int p2), .val (.int p3), .val (.int p4), .val (.int p5), .val (.ref b1), .unset, .unset, .unset, .unset, .unset] [(.int z38s2), (.int (1 : Int32)), (.ref b1)]))
      have Vx5 := V3
      obtain ⟨cl5, Ar5, qk5, S5, M5, H5, G5⟩ := Vx5
      have hin5 : ¬ ((1 : Int32) < 0 ∨ cl5.slots.size ≤ ((1 : Int32)).toNatClampNeg) := inb_of S5 ⟨by decide, by decide⟩
      obtain ⟨T5, h5, X5, e5, W5, st5⟩ := stI Xj4 hx hZ ej4 Ar5 (j := (1 : Int32)) hin5 (g := (mkF m 38 #[.val (.int p1), .val (.int p2), .val (.int p3), .val (.int p4), .val (.int p5), .val (.ref b1), .unset, .unset, .unset, .unset, .unset] [(.int z38s2), (.int (1 : Int32)), (.ref b1)])) rfl rfl (hb hby at_38)
      refine Gl.st st5 ?_
      have Z5 : n0 ≤ h5.size := Nat.le_trans Z3 (Keep.of_wr W5).1
      have N5 := Fr.snoc X5 Nj4 gzb1
      have V5 : Arv Z h5 b1 k1 .int (4 : Int32) [(.int z21s2), (.int z38s2), (.int (0 : Int32)), (.int (0 : Int32))] (.int (0 : Int32)) := Arv.set Ar5 qk5 S5 M5 H5 G5 rfl W5 1 rfl (Nat.le_of_ble_eq_true rfl)
      show Gl _ _ _ _ _ _ _ (T5.setTop (mkF m 39 #[.val (.int p1), .val (.int p2), .val (.int p3), .val (.int p4), .val (.int p5), .val (.ref b1), .unset, .unset, .unset, .unset, .unset] []))
      refine Gl.st (fun t k => XS.aload X5.here hx rfl (hb hby at_39) rfl rfl k) ?_
      show Gl _ _ _ _ _ _ _ (T5.setTop (mkF m 41 #[.val (.int p1), .val (.int p2), .val (.int p3), .val (.int p4), .val (.int p5), .val (.ref b1), .unset, .unset, .unset, .unset, .unset] [(.ref b1)]))
      refine Gl.st (fun t k => XS.iconst X5.here hx rfl (hb hby at_41) k) ?_
      show Gl _ _ _ _ _ _ _ (T5.setTop (mkF m 42 #[.val (.int p1), .val (.int p2), .val (.int p3), .val (.int p4), .val (.int p5), .val (.ref b1), .unset, .unset, .unset, .unset, .unset] [(.int (2 : Int32)), (.ref b1)]))
      refine Gl.st (fun t k => XS.iload X5.here hx rfl (hb hby at_42) rfl  k) ?_
      show Gl _ _ _ _ _ _ _ (T5.setTop (mkF m 44 #[.val (.int p1), .val (.int p2), .val (.int p3), .val (.int p4), .val (.int p5), .val (.ref b1), .unset, .unset, .unset, .unset, .unset] [(.int p5), (.int (2 : Int32)), (.ref b1)]))
      refine Gl.st (fun t k => XS.iconst X5.here hx rfl (hb hby at_44) k) ?_
      show Gl _ _ _ _ _ _ _ (T5.setTop (mkF m 45 #[.val (.int p1), .val (.int p2), .val (.int p3), .val (.int p4), .val (.int p5), .val (.ref b1), .unset, .unset, .unset, .unset, .unset] [(.int (4 : Int32)), (.int p5), (.int (2 : Int32)), (.ref b1)]))
      refine Gl.st (fun t k => XS.iand X5.here hx rfl (hb hby at_45) rfl k) ?_
      show Gl _ _ _ _ _ _ _ (T5.setTop (mkF m 46 #[.val (.int p1), .val (.int p2), .val (.int p3), .val (.int p4), .val (.int p5), .val (.ref b1), .unset, .unset, .unset, .unset, .unset] [(.int (p5 &&& (4 : Int32))), (.int (2 : Int32)), (.ref b1)]))
      have J6 : ∀ (Tj6 : State) (Lj6 : List Loc) (Xj6 : Stand p l e room_1 s m #[(.int p1), (.int p2), (.int p3), (.int p4), (.int p5)] below meth c Tj6 Lj6 1 4) (ej6 : Tj6.heap = h5) (Nj6 : Fr n0 Lj6) (z55s2 : Int32) (hz55s2 : z55s2 = (if (p5 &&& (4 : Int32)) = (0 : Int32) then p3 else (2147483647 : Int32))), Gl p e below s (Q0 Z p1 p2 p3 p4 p5 h0 n0) room_1.cells room_1.slots (Tj6.setTop (mkF m 55 #[.val (.int p1), .val (.int p2), .val (.int p3), .val (.int p4), .val (.int p5), .val (.ref b1), .unset, .unset, .unset, .unset, .unset] [(.int z55s2), (.int (2 : Int32)), (.ref b1)])) := by
        intro Tj6 Lj6 Xj6 ej6 Nj6 z55s2 hz55s2
        show Gl _ _ _ _ _ _ _ (Tj6.setTop (mkF m 55 #[.val (.int p1), .val (.int p2), .val (.int p3), .val (.int p4), .val (.int p5), .val (.ref b1), .unset, .unset, .unset, .unset, .unset] [(.int z55s2), (.int (2 : Int32)), (.ref b1)]))
        have Vx7 := V5
        obtain ⟨cl7, Ar7, qk7, S7, M7, H7, G7⟩ := Vx7
        have hin7 : ¬ ((2 : Int32) < 0 ∨ cl7.slots.size ≤ ((2 : Int32)).toNatClampNeg) := inb_of S7 ⟨by decide, by decide⟩
        obtain ⟨T7, h7, X7, e7, W7, st7⟩ := stI Xj6 hx hZ ej6 Ar7 (j := (2 : Int32)) hin7 (g := (mkF m 55 #[.val (.int p1), .val (.int p2), .val (.int p3), .val (.int p4), .val (.int p5), .val (.ref b1), .unset, .unset, .unset, .unset, .unset] [(.int z55s2), (.int (2 : Int32)), (.ref b1)])) rfl rfl (hb hby at_55)
        refine Gl.st st7 ?_
        have Z7 : n0 ≤ h7.size := Nat.le_trans Z5 (Keep.of_wr W7).1
        have N7 := Fr.snoc X7 Nj6 gzb1
        have V7 : Arv Z h7 b1 k1 .int (4 : Int32) [(.int z21s2), (.int z38s2), (.int z55s2), (.int (0 : Int32))] (.int (0 : Int32)) := Arv.set Ar7 qk7 S7 M7 H7 G7 rfl W7 2 rfl (Nat.le_of_ble_eq_true rfl)
        show Gl _ _ _ _ _ _ _ (T7.setTop (mkF m 56 #[.val (.int p1), .val (.int p2), .val (.int p3), .val (.int p4), .val (.int p5), .val (.ref b1), .unset, .unset, .unset, .unset, .unset] []))
        refine Gl.st (fun t k => XS.aload X7.here hx rfl (hb hby at_56) rfl rfl k) ?_
        show Gl _ _ _ _ _ _ _ (T7.setTop (mkF m 58 #[.val (.int p1), .val (.int p2), .val (.int p3), .val (.int p4), .val (.int p5), .val (.ref b1), .unset, .unset, .unset, .unset, .unset] [(.ref b1)]))
        refine Gl.st (fun t k => XS.iconst X7.here hx rfl (hb hby at_58) k) ?_
        show Gl _ _ _ _ _ _ _ (T7.setTop (mkF m 59 #[.val (.int p1), .val (.int p2), .val (.int p3), .val (.int p4), .val (.int p5), .val (.ref b1), .unset, .unset, .unset, .unset, .unset] [(.int (3 : Int32)), (.ref b1)]))
        refine Gl.st (fun t k => XS.iload X7.here hx rfl (hb hby at_59) rfl  k) ?_
        show Gl _ _ _ _ _ _ _ (T7.setTop (mkF m 61 #[.val (.int p1), .val (.int p2), .val (.int p3), .val (.int p4), .val (.int p5), .val (.ref b1), .unset, .unset, .unset, .unset, .unset] [(.int p5), (.int (3 : Int32)), (.ref b1)]))
        refine Gl.st (fun t k => XS.bipush X7.here hx rfl (hb hby at_61) k) ?_
        show Gl _ _ _ _ _ _ _ (T7.setTop (mkF m 63 #[.val (.int p1), .val (.int p2), .val (.int p3), .val (.int p4), .val (.int p5), .val (.ref b1), .unset, .unset, .unset, .unset, .unset] [(.int (8 : Int32)), (.int p5), (.int (3 : Int32)), (.ref b1)]))
        refine Gl.st (fun t k => XS.iand X7.here hx rfl (hb hby at_63) rfl k) ?_
        show Gl _ _ _ _ _ _ _ (T7.setTop (mkF m 64 #[.val (.int p1), .val (.int p2), .val (.int p3), .val (.int p4), .val (.int p5), .val (.ref b1), .unset, .unset, .unset, .unset, .unset] [(.int (p5 &&& (8 : Int32))), (.int (3 : Int32)), (.ref b1)]))
        have J8 : ∀ (Tj8 : State) (Lj8 : List Loc) (Xj8 : Stand p l e room_1 s m #[(.int p1), (.int p2), (.int p3), (.int p4), (.int p5)] below meth c Tj8 Lj8 1 4) (ej8 : Tj8.heap = h7) (Nj8 : Fr n0 Lj8) (z73s2 : Int32) (hz73s2 : z73s2 = (if (p5 &&& (8 : Int32)) = (0 : Int32) then p4 else (2147483647 : Int32))), Gl p e below s (Q0 Z p1 p2 p3 p4 p5 h0 n0) room_1.cells room_1.slots (Tj8.setTop (mkF m 73 #[.val (.int p1), .val (.int p2), .val (.int p3), .val (.int p4), .val (.int p5), .val (.ref b1), .unset, .unset, .unset, .unset, .unset] [(.int z73s2), (.int (3 : Int32)), (.ref b1)])) := by
          intro Tj8 Lj8 Xj8 ej8 Nj8 z73s2 hz73s2
          show Gl _ _ _ _ _ _ _ (Tj8.setTop (mkF m 73 #[.val (.int p1), .val (.int p2), .val (.int p3), .val (.int p4), .val (.int p5), .val (.ref b1), .unset, .unset, .unset, .unset, .unset] [(.int z73s2), (.int (3 : Int32)), (.ref b1)]))
          have Vx9 := V7
          obtain ⟨cl9, Ar9, qk9, S9, M9, H9, G9⟩ := Vx9
          have hin9 : ¬ ((3 : Int32) < 0 ∨ cl9.slots.size ≤ ((3 : Int32)).toNatClampNeg) := inb_of S9 ⟨by decide, by decide⟩
          obtain ⟨T9, h9, X9, e9, W9, st9⟩ := stI Xj8 hx hZ ej8 Ar9 (j := (3 : Int32)) hin9 (g := (mkF m 73 #[.val (.int p1), .val (.int p2), .val (.int p3), .val (.int p4), .val (.int p5), .val (.ref b1), .unset, .unset, .unset, .unset, .unset] [(.int z73s2), (.int (3 : Int32)), (.ref b1)])) rfl rfl (hb hby at_73)
          refine Gl.st st9 ?_
          have Z9 : n0 ≤ h9.size := Nat.le_trans Z7 (Keep.of_wr W9).1
          have N9 := Fr.snoc X9 Nj8 gzb1
          have V9 : Arv Z h9 b1 k1 .int (4 : Int32) [(.int z21s2), (.int z38s2), (.int z55s2), (.int z73s2)] (.int (0 : Int32)) := Arv.set Ar9 qk9 S9 M9 H9 G9 rfl W9 3 rfl (Nat.le_of_ble_eq_true rfl)
          show Gl _ _ _ _ _ _ _ (T9.setTop (mkF m 74 #[.val (.int p1), .val (.int p2), .val (.int p3), .val (.int p4), .val (.int p5), .val (.ref b1), .unset, .unset, .unset, .unset, .unset] []))
          refine Gl.st (fun t k => XS.iconst X9.here hx rfl (hb hby at_74) k) ?_
          show Gl _ _ _ _ _ _ _ (T9.setTop (mkF m 75 #[.val (.int p1), .val (.int p2), .val (.int p3), .val (.int p4), .val (.int p5), .val (.ref b1), .unset, .unset, .unset, .unset, .unset] [(.int (0 : Int32))]))
          obtain ⟨T10, h10, k10, X10, e10, E10, A10, st10⟩ := newP X9 hx hZ (hw _ (List.mem_of_getElem? (i := 0) rfl)) e9 (g := (mkF m 75 #[.val (.int p1), .val (.int p2), .val (.int p3), .val (.int p4), .val (.int p5), .val (.ref b1), .unset, .unset, .unset, .unset, .unset] [(.int (0 : Int32))])) rfl (hb hby at_75) rfl (by decide) (cap := 0) (by decide) (by decide) (by decide) (by decide)
          obtain ⟨b10, g10⟩ : ∃ z, z = h9.size := ⟨_, rfl⟩
          rw [← g10] at A10 st10
          refine Gl.st st10 ?_
          have ne_b1_b10 : b1 ≠ b10 := Nat.ne_of_lt (Nat.lt_of_lt_of_le V9.lt (Nat.le_of_eq g10.symm))
          have gzb10 : n0 ≤ b10 := Nat.le_trans Z9 (Nat.le_of_eq g10.symm)
          have Z10 : n0 ≤ h10.size := Nat.le_trans Z9 E10.1
          have V9'11 : Arv Z h10 b1 k1 .int (4 : Int32) [(.int z21s2), (.int z38s2), (.int z55s2), (.int z73s2)] (.int (0 : Int32)) := V9.ext E10
          have V10 : Arv Z h10 b10 k10 .int (0 : Int32) [] (.int (0 : Int32)) := Arv.new A10 (by decide)
          show Gl _ _ _ _ _ _ _ (T10.setTop (mkF m 77 #[.val (.int p1), .val (.int p2), .val (.int p3), .val (.int p4), .val (.int p5), .val (.ref b1), .unset, .unset, .unset, .unset, .unset] [(.ref b10)]))
          refine Gl.st (fun t k => XS.astore X10.here hx rfl (hb hby at_77) rfl rfl (l' := #[.val (.int p1), .val (.int p2), .val (.int p3), .val (.int p4), .val (.int p5), .val (.ref b1), .val (.ref b10), .unset, .unset, .unset, .unset]) rfl k) ?_
          show Gl _ _ _ _ _ _ _ (T10.setTop (mkF m 79 #[.val (.int p1), .val (.int p2), .val (.int p3), .val (.int p4), .val (.int p5), .val (.ref b1), .val (.ref b10), .unset, .unset, .unset, .unset] []))
          refine Gl.st (fun t k => XS.iload X10.here hx rfl (hb hby at_79) rfl  k) ?_
          show Gl _ _ _ _ _ _ _ (T10.setTop (mkF m 81 #[.val (.int p1), .val (.int p2), .val (.int p3), .val (.int p4), .val (.int p5), .val (.ref b1), .val (.ref b10), .unset, .unset, .unset, .unset] [(.int p5)]))
          refine Gl.st (fun t k => XS.bipush X10.here hx rfl (hb hby at_81) k) ?_
          show Gl _ _ _ _ _ _ _ (T10.setTop (mkF m 83 #[.val (.int p1), .val (.int p2), .val (.int p3), .val (.int p4), .val (.int p5), .val (.ref b1), .val (.ref b10), .unset, .unset, .unset, .unset] [(.int (16 : Int32)), (.int p5)]))
          refine Gl.st (fun t k => XS.iand X10.here hx rfl (hb hby at_83) rfl k) ?_
          show Gl _ _ _ _ _ _ _ (T10.setTop (mkF m 84 #[.val (.int p1), .val (.int p2), .val (.int p3), .val (.int p4), .val (.int p5), .val (.ref b1), .val (.ref b10), .unset, .unset, .unset, .unset] [(.int (p5 &&& (16 : Int32)))]))
          by_cases hc84 : (p5 &&& (16 : Int32)) = (0 : Int32)
          · refine Gl.st (fun t k => XS.ifYes X10.here hx rfl (pc0 := 84) (pc' := 91) rfl (hb hby at_84) rfl ((if0 _ _).trans (teq hc84).1) (by decide) (by decide) k) ?_
            show Gl _ _ _ _ _ _ _ (T10.setTop (mkF m 91 #[.val (.int p1), .val (.int p2), .val (.int p3), .val (.int p4), .val (.int p5), .val (.ref b1), .val (.ref b10), .unset, .unset, .unset, .unset] []))
            refine Gl.st (fun t k => XS.iconst X10.here hx rfl (hb hby at_91) k) ?_
            show Gl _ _ _ _ _ _ _ (T10.setTop (mkF m 92 #[.val (.int p1), .val (.int p2), .val (.int p3), .val (.int p4), .val (.int p5), .val (.ref b1), .val (.ref b10), .unset, .unset, .unset, .unset] [(.int (0 : Int32))]))
            refine Gl.st (fun t k => XS.istore X10.here hx rfl (hb hby at_92) rfl (l' := #[.val (.int p1), .val (.int p2), .val (.int p3), .val (.int p4), .val (.int p5), .val (.ref b1), .val (.ref b10), .val (.int (0 : Int32)), .unset, .unset, .unset]) rfl k) ?_
            show Gl _ _ _ _ _ _ _ (T10.setTop (mkF m 94 #[.val (.int p1), .val (.int p2), .val (.int p3), .val (.int p4), .val (.int p5), .val (.ref b1), .val (.ref b10), .val (.int (0 : Int32)), .unset, .unset, .unset] []))
            refine Gl.st (fun t k => XS.iload X10.here hx rfl (hb hby at_94) rfl  k) ?_
            show Gl _ _ _ _ _ _ _ (T10.setTop (mkF m 96 #[.val (.int p1), .val (.int p2), .val (.int p3), .val (.int p4), .val (.int p5), .val (.ref b1), .val (.ref b10), .val (.int (0 : Int32)), .unset, .unset, .unset] [(.int (0 : Int32))]))
            refine Gl.st (fun t k => XS.ifYes X10.here hx rfl (pc0 := 96) (pc' := 105) rfl (hb hby at_96) rfl ((if0 _ _).trans (teq (rfl : (0 : Int32) = (0 : Int32))).1) (by decide) (by decide) k) ?_
            show Gl _ _ _ _ _ _ _ (T10.setTop (mkF m 105 #[.val (.int p1), .val (.int p2), .val (.int p3), .val (.int p4), .val (.int p5), .val (.ref b1), .val (.ref b10), .val (.int (0 : Int32)), .unset, .unset, .unset] []))
            refine Gl.st (fun t k => XS.aload X10.here hx rfl (hb hby at_105) rfl rfl k) ?_
            show Gl _ _ _ _ _ _ _ (T10.setTop (mkF m 107 #[.val (.int p1), .val (.int p2), .val (.int p3), .val (.int p4), .val (.int p5), .val (.ref b1), .val (.ref b10), .val (.int (0 : Int32)), .unset, .unset, .unset] [(.ref b1)]))
            refine Gl.st (fun t k => XS.iconst X10.here hx rfl (hb hby at_107) k) ?_
            show Gl _ _ _ _ _ _ _ (T10.setTop (mkF m 108 #[.val (.int p1), .val (.int p2), .val (.int p3), .val (.int p4), .val (.int p5), .val (.ref b1), .val (.ref b10), .val (.int (0 : Int32)), .unset, .unset, .unset] [(.int (0 : Int32)), (.ref b1)]))
            have Vx12 := V9'11
            obtain ⟨cl12, Ar12, qk12, S12, M12, H12, G12⟩ := Vx12
            have hin12 : ¬ ((0 : Int32) < 0 ∨ cl12.slots.size ≤ ((0 : Int32)).toNatClampNeg) := inb_of S12 ⟨by decide, by decide⟩
            have hat12 : cl12.slots[((0 : Int32)).toNatClampNeg]? = some (.int z21s2) := H12.at hin12 rfl
            refine Gl.st (X10.iaload hx (j := (0 : Int32)) (v := (.int z21s2)) (by rw [e10]; exact Ar12.1) (State.isArrayOf_alike hZ.alike Ar12.2.1) Ar12.2.2 hin12 hat12 (g := (mkF m 108 #[.val (.int p1), .val (.int p2), .val (.int p3), .val (.int p4), .val (.int p5), .val (.ref b1), .val (.ref b10), .val (.int (0 : Int32)), .unset, .unset, .unset] [(.int (0 : Int32)), (.ref b1)])) rfl rfl (hb hby at_108)) ?_
            show Gl _ _ _ _ _ _ _ (T10.setTop (mkF m 109 #[.val (.int p1), .val (.int p2), .val (.int p3), .val (.int p4), .val (.int p5), .val (.ref b1), .val (.ref b10), .val (.int (0 : Int32)), .unset, .unset, .unset] [(.int z21s2)]))
            obtain ⟨_, _, ⟨T13, L13, k13, n13⟩, -, X13, ⟨Lc13, hQ13, l13, y13, z13⟩, st13⟩ := Jvm.LawKit.callS X10 hx (y := (⟨"com/example/enact/enact/engine/MarkingCountedPinLaw", "part", "(I)J"⟩ : MethodName)) hown (mvT hZ (hw _ (List.mem_of_getElem? (i := 1) rfl))) (mvT hZ (hw _ (List.mem_of_getElem? (i := 2) rfl))) (mvT hZ (hw _ (List.mem_of_getElem? (i := 3) rfl))) (mvT hZ (hw _ (List.mem_of_getElem? (i := 4) rfl))) (by decide) (backOf (W := 0) (rm1 l Z a0 hw [] z21s2 h10 n0) hZ (hw _ (List.mem_of_getElem? (i := 4) rfl)) (hw _ (List.mem_of_getElem? (i := 3) rfl)) (by decide) (by decide)) (g := (mkF m 109 #[.val (.int p1), .val (.int p2), .val (.int p3), .val (.int p4), .val (.int p5), .val (.ref b1), .val (.ref b10), .val (.int (0 : Int32)), .unset, .unset, .unset] [(.int z21s2)])) rfl (by rw [hml]; rfl) (argsL := [(.int z21s2)]) (rest := []) (lenOf pd_0 rfl) rfl (by show 2 * 0 + _ ≤ _; exact Nat.le_of_eq rfl) (hb hby at_109) (fun _ _ => ⟨rfl, e10, (by decide : 2 + 0 ≤ _), (by decide : 4 + 0 ≤ _)⟩)
            dsimp only [Pt.U, Pt.locs, Pt.cells, Pt.slots] at X13 l13 y13 z13 st13 hQ13
            subst l13 y13 z13
            obtain ⟨rfl, N13q, e13⟩ := hQ13
            have N13 := Fr.app N9 N13q
            refine Gl.st st13 ?_
            show Gl _ _ _ _ _ _ _ (T13.setTop (mkF m 112 #[.val (.int p1), .val (.int p2), .val (.int p3), .val (.int p4), .val (.int p5), .val (.ref b1), .val (.ref b10), .val (.int (0 : Int32)), .unset, .unset, .unset] [(.long (own_part z21s2))]))
            refine Gl.st (fun t k => XS.aload X13.here hx rfl (hb hby at_112) rfl rfl k) ?_
            show Gl _ _ _ _ _ _ _ (T13.setTop (mkF m 114 #[.val (.int p1), .val (.int p2), .val (.int p3), .val (.int p4), .val (.int p5), .val (.ref b1), .val (.ref b10), .val (.int (0 : Int32)), .unset, .unset, .unset] [(.ref b1), (.long (own_part z21s2))]))
            refine Gl.st (fun t k => XS.iconst X13.here hx rfl (hb hby at_114) k) ?_
            show Gl _ _ _ _ _ _ _ (T13.setTop (mkF m 115 #[.val (.int p1), .val (.int p2), .val (.int p3), .val (.int p4), .val (.int p5), .val (.ref b1), .val (.ref b10), .val (.int (0 : Int32)), .unset, .unset, .unset] [(.int (1 : Int32)), (.ref b1), (.long (own_part z21s2))]))
            have Vx14 := V9'11
            obtain ⟨cl14, Ar14, qk14, S14, M14, H14, G14⟩ := Vx14
            have hin14 : ¬ ((1 : Int32) < 0 ∨ cl14.slots.size ≤ ((1 : Int32)).toNatClampNeg) := inb_of S14 ⟨by decide, by decide⟩
            have hat14 : cl14.slots[((1 : Int32)).toNatClampNeg]? = some (.int z38s2) := H14.at hin14 rfl
            refine Gl.st (X13.iaload hx (j := (1 : Int32)) (v := (.int z38s2)) (by rw [e13]; exact Ar14.1) (State.isArrayOf_alike hZ.alike Ar14.2.1) Ar14.2.2 hin14 hat14 (g := (mkF m 115 #[.val (.int p1), .val (.int p2), .val (.int p3), .val (.int p4), .val (.int p5), .val (.ref b1), .val (.ref b10), .val (.int (0 : Int32)), .unset, .unset, .unset] [(.int (1 : Int32)), (.ref b1), (.long (own_part z21s2))])) rfl rfl (hb hby at_115)) ?_
            show Gl _ _ _ _ _ _ _ (T13.setTop (mkF m 116 #[.val (.int p1), .val (.int p2), .val (.int p3), .val (.int p4), .val (.int p5), .val (.ref b1), .val (.ref b10), .val (.int (0 : Int32)), .unset, .unset, .unset] [(.int z38s2), (.long (own_part z21s2))]))
            obtain ⟨_, _, ⟨T15, L15, k15, n15⟩, -, X15, ⟨Lc15, hQ15, l15, y15, z15⟩, st15⟩ := Jvm.LawKit.callS X13 hx (y := (⟨"com/example/enact/enact/engine/MarkingCountedPinLaw", "part", "(I)J"⟩ : MethodName)) hown (mvT hZ (hw _ (List.mem_of_getElem? (i := 1) rfl))) (mvT hZ (hw _ (List.mem_of_getElem? (i := 2) rfl))) (mvT hZ (hw _ (List.mem_of_getElem? (i := 3) rfl))) (mvT hZ (hw _ (List.mem_of_getElem? (i := 4) rfl))) (by decide) (backOf (W := 2) (rm1 l Z a0 hw [] z38s2 h10 n0) hZ (hw _ (List.mem_of_getElem? (i := 4) rfl)) (hw _ (List.mem_of_getElem? (i := 3) rfl)) (by decide) (by decide)) (g := (mkF m 116 #[.val (.int p1), .val (.int p2), .val (.int p3), .val (.int p4), .val (.int p5), .val (.ref b1), .val (.ref b10), .val (.int (0 : Int32)), .unset, .unset, .unset] [(.int z38s2), (.long (own_part z21s2))])) rfl (by rw [hml]; rfl) (argsL := [(.int z38s2)]) (rest := [(.long (own_part z21s2))]) (lenOf pd_0 rfl) rfl (by show 2 * 0 + _ ≤ _; exact Nat.le_of_eq rfl) (hb hby at_116) (fun _ _ => ⟨rfl, e13, (by decide : 2 + 0 ≤ _), (by decide : 4 + 0 ≤ _)⟩)
            dsimp only [Pt.U, Pt.locs, Pt.cells, Pt.slots] at X15 l15 y15 z15 st15 hQ15
            subst l15 y15 z15
            obtain ⟨rfl, N15q, e15⟩ := hQ15
            have N15 := Fr.app N13 N15q
            refine Gl.st st15 ?_
            show Gl _ _ _ _ _ _ _ (T15.setTop (mkF m 119 #[.val (.int p1), .val (.int p2), .val (.int p3), .val (.int p4), .val (.int p5), .val (.ref b1), .val (.ref b10), .val (.int (0 : Int32)), .unset, .unset, .unset] [(.long (own_part z38s2)), (.long (own_part z21s2))]))
            refine Gl.st (fun t k => XS.ladd X15.here hx rfl (hb hby at_119) rfl k) ?_
            show Gl _ _ _ _ _ _ _ (T15.setTop (mkF m 120 #[.val (.int p1), .val (.int p2), .val (.int p3), .val (.int p4), .val (.int p5), .val (.ref b1), .val (.ref b10), .val (.int (0 : Int32)), .unset, .unset, .unset] [(.long ((own_part z21s2) + (own_part z38s2)))]))
            refine Gl.st (fun t k => XS.aload X15.here hx rfl (hb hby at_120) rfl rfl k) ?_
            show Gl _ _ _ _ _ _ _ (T15.setTop (mkF m 122 #[.val (.int p1), .val (.int p2), .val (.int p3), .val (.int p4), .val (.int p5), .val (.ref b1), .val (.ref b10), .val (.int (0 : Int32)), .unset, .unset, .unset] [(.ref b1), (.long ((own_part z21s2) + (own_part z38s2)))]))
            refine Gl.st (fun t k => XS.iconst X15.here hx rfl (hb hby at_122) k) ?_
            show Gl _ _ _ _ _ _ _ (T15.setTop (mkF m 123 #[.val (.int p1), .val (.int p2), .val (.int p3), .val (.int p4), .val (.int p5), .val (.ref b1), .val (.ref b10), .val (.int (0 : Int32)), .unset, .unset, .unset] [(.int (2 : Int32)), (.ref b1), (.long ((own_part z21s2) + (own_part z38s2)))]))
            have Vx16 := V9'11
            obtain ⟨cl16, Ar16, qk16, S16, M16, H16, G16⟩ := Vx16
            have hin16 : ¬ ((2 : Int32) < 0 ∨ cl16.slots.size ≤ ((2 : Int32)).toNatClampNeg) := inb_of S16 ⟨by decide, by decide⟩
            have hat16 : cl16.slots[((2 : Int32)).toNatClampNeg]? = some (.int z55s2) := H16.at hin16 rfl
            refine Gl.st (X15.iaload hx (j := (2 : Int32)) (v := (.int z55s2)) (by rw [e15]; exact Ar16.1) (State.isArrayOf_alike hZ.alike Ar16.2.1) Ar16.2.2 hin16 hat16 (g := (mkF m 123 #[.val (.int p1), .val (.int p2), .val (.int p3), .val (.int p4), .val (.int p5), .val (.ref b1), .val (.ref b10), .val (.int (0 : Int32)), .unset, .unset, .unset] [(.int (2 : Int32)), (.ref b1), (.long ((own_part z21s2) + (own_part z38s2)))])) rfl rfl (hb hby at_123)) ?_
            show Gl _ _ _ _ _ _ _ (T15.setTop (mkF m 124 #[.val (.int p1), .val (.int p2), .val (.int p3), .val (.int p4), .val (.int p5), .val (.ref b1), .val (.ref b10), .val (.int (0 : Int32)), .unset, .unset, .unset] [(.int z55s2), (.long ((own_part z21s2) + (own_part z38s2)))]))
            obtain ⟨_, _, ⟨T17, L17, k17, n17⟩, -, X17, ⟨Lc17, hQ17, l17, y17, z17⟩, st17⟩ := Jvm.LawKit.callS X15 hx (y := (⟨"com/example/enact/enact/engine/MarkingCountedPinLaw", "part", "(I)J"⟩ : MethodName)) hown (mvT hZ (hw _ (List.mem_of_getElem? (i := 1) rfl))) (mvT hZ (hw _ (List.mem_of_getElem? (i := 2) rfl))) (mvT hZ (hw _ (List.mem_of_getElem? (i := 3) rfl))) (mvT hZ (hw _ (List.mem_of_getElem? (i := 4) rfl))) (by decide) (backOf (W := 2) (rm1 l Z a0 hw [] z55s2 h10 n0) hZ (hw _ (List.mem_of_getElem? (i := 4) rfl)) (hw _ (List.mem_of_getElem? (i := 3) rfl)) (by decide) (by decide)) (g := (mkF m 124 #[.val (.int p1), .val (.int p2), .val (.int p3), .val (.int p4), .val (.int p5), .val (.ref b1), .val (.ref b10), .val (.int (0 : Int32)), .unset, .unset, .unset] [(.int z55s2), (.long ((own_part z21s2) + (own_part z38s2)))])) rfl (by rw [hml]; rfl) (argsL := [(.int z55s2)]) (rest := [(.long ((own_part z21s2) + (own_part z38s2)))]) (lenOf pd_0 rfl) rfl (by show 2 * 0 + _ ≤ _; exact Nat.le_of_eq rfl) (hb hby at_124) (fun _ _ => ⟨rfl, e15, (by decide : 2 + 0 ≤ _), (by decide : 4 + 0 ≤ _)⟩)
            dsimp only [Pt.U, Pt.locs, Pt.cells, Pt.slots] at X17 l17 y17 z17 st17 hQ17
            subst l17 y17 z17
            obtain ⟨rfl, N17q, e17⟩ := hQ17
            have N17 := Fr.app N15 N17q
            refine Gl.st st17 ?_
            show Gl _ _ _ _ _ _ _ (T17.setTop (mkF m 127 #[.val (.int p1), .val (.int p2), .val (.int p3), .val (.int p4), .val (.int p5), .val (.ref b1), .val (.ref b10), .val (.int (0 : Int32)), .unset, .unset, .unset] [(.long (own_part z55s2)), (.long ((own_part z21s2) + (own_part z38s2)))]))
            refine Gl.st (fun t k => XS.ladd X17.here hx rfl (hb hby at_127) rfl k) ?_
            show Gl _ _ _ _ _ _ _ (T17.setTop (mkF m 128 #[.val (.int p1), .val (.int p2), .val (.int p3), .val (.int p4), .val (.int p5), .val (.ref b1), .val (.ref b10), .val (.int (0 : Int32)), .unset, .unset, .unset] [(.long (((own_part z21s2) + (own_part z38s2)) + (own_part z55s2)))]))
            refine Gl.st (fun t k => XS.aload X17.here hx rfl (hb hby at_128) rfl rfl k) ?_
            show Gl _ _ _ _ _ _ _ (T17.setTop (mkF m 130 #[.val (.int p1), .val (.int p2), .val (.int p3), .val (.int p4), .val (.int p5), .val (.ref b1), .val (.ref b10), .val (.int (0 : Int32)), .unset, .unset, .unset] [(.ref b1), (.long (((own_part z21s2) + (own_part z38s2)) + (own_part z55s2)))]))
            refine Gl.st (fun t k => XS.iconst X17.here hx rfl (hb hby at_130) k) ?_
            show Gl _ _ _ _ _ _ _ (T17.setTop (mkF m 131 #[.val (.int p1), .val (.int p2), .val (.int p3), .val (.int p4), .val (.int p5), .val (.ref b1), .val (.ref b10), .val (.int (0 : Int32)), .unset, .unset, .unset] [(.int (3 : Int32)), (.ref b1), (.long (((own_part z21s2) + (own_part z38s2)) + (own_part z55s2)))]))
            have Vx18 := V9'11
            obtain ⟨cl18, Ar18, qk18, S18, M18, H18, G18⟩ := Vx18
            have hin18 : ¬ ((3 : Int32) < 0 ∨ cl18.slots.size ≤ ((3 : Int32)).toNatClampNeg) := inb_of S18 ⟨by decide, by decide⟩
            have hat18 : cl18.slots[((3 : Int32)).toNatClampNeg]? = some (.int z73s2) := H18.at hin18 rfl
            refine Gl.st (X17.iaload hx (j := (3 : Int32)) (v := (.int z73s2)) (by rw [e17]; exact Ar18.1) (State.isArrayOf_alike hZ.alike Ar18.2.1) Ar18.2.2 hin18 hat18 (g := (mkF m 131 #[.val (.int p1), .val (.int p2), .val (.int p3), .val (.int p4), .val (.int p5), .val (.ref b1), .val (.ref b10), .val (.int (0 : Int32)), .unset, .unset, .unset] [(.int (3 : Int32)), (.ref b1), (.long (((own_part z21s2) + (own_part z38s2)) + (own_part z55s2)))])) rfl rfl (hb hby at_131)) ?_
            show Gl _ _ _ _ _ _ _ (T17.setTop (mkF m 132 #[.val (.int p1), .val (.int p2), .val (.int p3), .val (.int p4), .val (.int p5), .val (.ref b1), .val (.ref b10), .val (.int (0 : Int32)), .unset, .unset, .unset] [(.int z73s2), (.long (((own_part z21s2) + (own_part z38s2)) + (own_part z55s2)))]))
            obtain ⟨_, _, ⟨T19, L19, k19, n19⟩, -, X19, ⟨Lc19, hQ19, l19, y19, z19⟩, st19⟩ := Jvm.LawKit.callS X17 hx (y := (⟨"com/example/enact/enact/engine/MarkingCountedPinLaw", "part", "(I)J"⟩ : MethodName)) hown (mvT hZ (hw _ (List.mem_of_getElem? (i := 1) rfl))) (mvT hZ (hw _ (List.mem_of_getElem? (i := 2) rfl))) (mvT hZ (hw _ (List.mem_of_getElem? (i := 3) rfl))) (mvT hZ (hw _ (List.mem_of_getElem? (i := 4) rfl))) (by decide) (backOf (W := 2) (rm1 l Z a0 hw [] z73s2 h10 n0) hZ (hw _ (List.mem_of_getElem? (i := 4) rfl)) (hw _ (List.mem_of_getElem? (i := 3) rfl)) (by decide) (by decide)) (g := (mkF m 132 #[.val (.int p1), .val (.int p2), .val (.int p3), .val (.int p4), .val (.int p5), .val (.ref b1), .val (.ref b10), .val (.int (0 : Int32)), .unset, .unset, .unset] [(.int z73s2), (.long (((own_part z21s2) + (own_part z38s2)) + (own_part z55s2)))])) rfl (by rw [hml]; rfl) (argsL := [(.int z73s2)]) (rest := [(.long (((own_part z21s2) + (own_part z38s2)) + (own_part z55s2)))]) (lenOf pd_0 rfl) rfl (by show 2 * 0 + _ ≤ _; exact Nat.le_of_eq rfl) (hb hby at_132) (fun _ _ => ⟨rfl, e17, (by decide : 2 + 0 ≤ _), (by decide : 4 + 0 ≤ _)⟩)
            dsimp only [Pt.U, Pt.locs, Pt.cells, Pt.slots] at X19 l19 y19 z19 st19 hQ19
            subst l19 y19 z19
            obtain ⟨rfl, N19q, e19⟩ := hQ19
            have N19 := Fr.app N17 N19q
            refine Gl.st st19 ?_
            show Gl _ _ _ _ _ _ _ (T19.setTop (mkF m 135 #[.val (.int p1), .val (.int p2), .val (.int p3), .val (.int p4), .val (.int p5), .val (.ref b1), .val (.ref b10), .val (.int (0 : Int32)), .unset, .unset, .unset] [(.long (own_part z73s2)), (.long (((own_part z21s2) + (own_part z38s2)) + (own_part z55s2)))]))
            refine Gl.st (fun t k => XS.ladd X19.here hx rfl (hb hby at_135) rfl k) ?_
            show Gl _ _ _ _ _ _ _ (T19.setTop (mkF m 136 #[.val (.int p1), .val (.int p2), .val (.int p3), .val (.int p4), .val (.int p5), .val (.ref b1), .val (.ref b10), .val (.int (0 : Int32)), .unset, .unset, .unset] [(.long ((((own_part z21s2) + (own_part z38s2)) + (own_part z55s2)) + (own_part z73s2)))]))
            refine Gl.st (fun t k => XS.lstore X19.here hx rfl (hb hby at_136) rfl (l' := #[.val (.int p1), .val (.int p2), .val (.int p3), .val (.int p4), .val (.int p5), .val (.ref b1), .val (.ref b10), .val (.int (0 : Int32)), .val (.long ((((own_part z21s2) + (own_part z38s2)) + (own_part z55s2)) + (own_part z73s2))), .second, .unset]) rfl k) ?_
            show Gl _ _ _ _ _ _ _ (T19.setTop (mkF m 138 #[.val (.int p1), .val (.int p2), .val (.int p3), .val (.int p4), .val (.int p5), .val (.ref b1), .val (.ref b10), .val (.int (0 : Int32)), .val (.long ((((own_part z21s2) + (own_part z38s2)) + (own_part z55s2)) + (own_part z73s2))), .second, .unset] []))
            obtain ⟨T20, h20, X20, e20, E20, A20, D20, -, st20⟩ := newO X19 hx hZ hown (hw _ (List.mem_of_getElem? (i := 6) rfl)) (hw _ (List.mem_of_getElem? (i := 7) rfl)) (hw _ (List.mem_of_getElem? (i := 8) rfl)) e19 (g := (mkF m 138 #[.val (.int p1), .val (.int p2), .val (.int p3), .val (.int p4), .val (.int p5), .val (.ref b1), .val (.ref b10), .val (.int (0 : Int32)), .val (.long ((((own_part z21s2) + (own_part z38s2)) + (own_part z55s2)) + (own_part z73s2))), .second, .unset] [])) rfl (hb hby at_138) (by decide) (by decide)
            obtain ⟨b20, g20⟩ : ∃ z, z = h10.size := ⟨_, rfl⟩
            rw [← g20] at A20 D20 st20
            refine Gl.st st20 ?_
            have ne_b1_b20 : b1 ≠ b20 := Nat.ne_of_lt (Nat.lt_of_lt_of_le V9'11.lt (Nat.le_of_eq g20.symm))
            have ne_b10_b20 : b10 ≠ b20 := Nat.ne_of_lt (Nat.lt_of_lt_of_le V10.lt (Nat.le_of_eq g20.symm))
            have gzb20 : n0 ≤ b20 := Nat.le_trans Z10 (Nat.le_of_eq g20.symm)
            have Z20 : n0 ≤ h20.size := Nat.le_trans Z10 E20.1
            have V9'21 : Arv Z h20 b1 k1 .int (4 : Int32) [(.int z21s2), (.int z38s2), (.int z55s2), (.int z73s2)] (.int (0 : Int32)) := V9'11.ext E20
            have V10'22 : Arv Z h20 b10 k10 .int (0 : Int32) [] (.int (0 : Int32)) := V10.ext E20
            have F20_tokens : Fld Z h20 b20 "com/example/enact/enact/engine/Marking" "tokens" "[I" .null := D20 (Or.inr (hw _ (List.mem_of_getElem? (i := 16) rfl))) (ty := (.array .int)) (by decide)
            show Gl _ _ _ _ _ _ _ (T20.setTop (mkF m 141 #[.val (.int p1), .val (.int p2), .val (.int p3), .val (.int p4), .val (.int p5), .val (.ref b1), .val (.ref b10), .val (.int (0 : Int32)), .val (.long ((((own_part z21s2) + (own_part z38s2)) + (own_part z55s2)) + (own_part z73s2))), .second, .unset] [(.ref b20)]))
            refine Gl.st (fun t k => XS.dup X20.here hx rfl (hb hby at_141) rfl rfl k) ?_
            show Gl _ _ _ _ _ _ _ (T20.setTop (mkF m 142 #[.val (.int p1), .val (.int p2), .val (.int p3), .val (.int p4), .val (.int p5), .val (.ref b1), .val (.ref b10), .val (.int (0 : Int32)), .val (.long ((((own_part z21s2) + (own_part z38s2)) + (own_part z55s2)) + (own_part z73s2))), .second, .unset] [(.ref b20), (.ref b20)]))
            refine Gl.st (fun t k => XS.iload X20.here hx rfl (hb hby at_142) rfl  k) ?_
            show Gl _ _ _ _ _ _ _ (T20.setTop (mkF m 144 #[.val (.int p1), .val (.int p2), .val (.int p3), .val (.int p4), .val (.int p5), .val (.ref b1), .val (.ref b10), .val (.int (0 : Int32)), .val (.long ((((own_part z21s2) + (own_part z38s2)) + (own_part z55s2)) + (own_part z73s2))), .second, .unset] [(.int (0 : Int32)), (.ref b20), (.ref b20)]))
            refine Gl.st (fun t k => XS.ifYes X20.here hx rfl (pc0 := 144) (pc' := 152) rfl (hb hby at_144) rfl ((if0 _ _).trans (teq (rfl : (0 : Int32) = (0 : Int32))).1) (by decide) (by decide) k) ?_
            show Gl _ _ _ _ _ _ _ (T20.setTop (mkF m 152 #[.val (.int p1), .val (.int p2), .val (.int p3), .val (.int p4), .val (.int p5), .val (.ref b1), .val (.ref b10), .val (.int (0 : Int32)), .val (.long ((((own_part z21s2) + (own_part z38s2)) + (own_part z55s2)) + (own_part z73s2))), .second, .unset] [(.ref b20), (.ref b20)]))
            refine Gl.st (fun t k => XS.aload X20.here hx rfl (hb hby at_152) rfl rfl k) ?_
            show Gl _ _ _ _ _ _ _ (T20.setTop (mkF m 154 #[.val (.int p1), .val (.int p2), .val (.int p3), .val (.int p4), .val (.int p5), .val (.ref b1), .val (.ref b10), .val (.int (0 : Int32)), .val (.long ((((own_part z21s2) + (own_part z38s2)) + (own_part z55s2)) + (own_part z73s2))), .second, .unset] [(.ref b1), (.ref b20), (.ref b20)]))
            obtain ⟨_, _, ⟨T23, L23, k23, n23⟩, -, X23, ⟨Lc23, hQ23, l23, y23, z23⟩, st23⟩ := X20.specialBack hx (y := (⟨"com/example/enact/enact/engine/Marking", "<init>", "([I)V"⟩ : MethodName)) rfl hown (mvT hZ (hw _ (List.mem_of_getElem? (i := 9) rfl))) (mvT hZ (hw _ (List.mem_of_getElem? (i := 10) rfl))) (mvT hZ (hw _ (List.mem_of_getElem? (i := 11) rfl))) (by decide) (backOf (W := 1) (rm2 l Z a0 hw [] b20 b1 (.null) h20 n0 Z20 A20 F20_tokens gzb20) hZ (hw _ (List.mem_of_getElem? (i := 11) rfl)) (hw _ (List.mem_of_getElem? (i := 8) rfl)) (by decide) (by decide)) (g := (mkF m 154 #[.val (.int p1), .val (.int p2), .val (.int p3), .val (.int p4), .val (.int p5), .val (.ref b1), .val (.ref b10), .val (.int (0 : Int32)), .val (.long ((((own_part z21s2) + (own_part z38s2)) + (own_part z55s2)) + (own_part z73s2))), .second, .unset] [(.ref b1), (.ref b20), (.ref b20)])) rfl (by rw [hml]; rfl) (Steps.refl _) (a := b20) (argsL := [(.ref b1)]) (rest := [(.ref b20)]) (lenOf pd_1 rfl) rfl (by show 2 * 0 + _ ≤ _; exact Nat.le_of_eq rfl) (hb hby at_154) (fun _ _ => ⟨rfl, e20, (by decide : 3 + 0 ≤ _), (by decide : 6 + 0 ≤ _)⟩)
            dsimp only [Pt.U, Pt.locs, Pt.cells, Pt.slots] at X23 l23 y23 z23 st23 hQ23
            subst l23 y23 z23
            obtain ⟨rfl, N23q, Kq23, Fq23_0, Fq23_1⟩ := hQ23
            have N23 := Fr.app N19 N23q
            have Z23 : n0 ≤ T23.heap.size := Nat.le_trans Z20 Kq23.1
            have V9'24 : Arv Z T23.heap b1 k1 .int (4 : Int32) [(.int z21s2), (.int z38s2), (.int z55s2), (.int z73s2)] (.int (0 : Int32)) := V9'21.keep Kq23 (ninS ne_b1_b20 nin0)
            have V10'25 : Arv Z T23.heap b10 k10 .int (0 : Int32) [] (.int (0 : Int32)) := V10'22.keep Kq23 (ninS ne_b10_b20 nin0)
            refine Gl.to st23 ?_
            show Gl _ _ _ _ _ _ _ (T23.setTop (mkF m 157 #[.val (.int p1), .val (.int p2), .val (.int p3), .val (.int p4), .val (.int p5), .val (.ref b1), .val (.ref b10), .val (.int (0 : Int32)), .val (.long ((((own_part z21s2) + (own_part z38s2)) + (own_part z55s2)) + (own_part z73s2))), .second, .unset] [(.ref b20)]))
            refine Gl.st (fun t k => XS.astore X23.here hx rfl (hb hby at_157) rfl rfl (l' := #[.val (.int p1), .val (.int p2), .val (.int p3), .val (.int p4), .val (.int p5), .val (.ref b1), .val (.ref b10), .val (.int (0 : Int32)), .val (.long ((((own_part z21s2) + (own_part z38s2)) + (own_part z55s2)) + (own_part z73s2))), .second, .val (.ref b20)]) rfl k) ?_
            show Gl _ _ _ _ _ _ _ (T23.setTop (mkF m 159 #[.val (.int p1), .val (.int p2), .val (.int p3), .val (.int p4), .val (.int p5), .val (.ref b1), .val (.ref b10), .val (.int (0 : Int32)), .val (.long ((((own_part z21s2) + (own_part z38s2)) + (own_part z55s2)) + (own_part z73s2))), .second, .val (.ref b20)] []))
            refine Gl.st (fun t k => XS.aload X23.here hx rfl (hb hby at_159) rfl rfl k) ?_
            show Gl _ _ _ _ _ _ _ (T23.setTop (mkF m 161 #[.val (.int p1), .val (.int p2), .val (.int p3), .val (.int p4), .val (.int p5), .val (.ref b1), .val (.ref b10), .val (.int (0 : Int32)), .val (.long ((((own_part z21s2) + (own_part z38s2)) + (own_part z55s2)) + (own_part z73s2))), .second, .val (.ref b20)] [(.ref b20)]))
            obtain ⟨cq26, kq26, qa26, qb26, qc26⟩ := isOf hZ rfl Fq23_0
            obtain ⟨_, _, ⟨T26, L26, k26, n26⟩, -, X26, ⟨Lc26, hQ26, l26, y26, z26⟩, st26⟩ := X23.virtualBack hx (y := (⟨"com/example/enact/enact/engine/Marking", "counted", "()J"⟩ : MethodName)) (z := (⟨"com/example/enact/enact/engine/Marking", "counted", "()J"⟩ : MethodName)) hown (mvT hZ (hw _ (List.mem_of_getElem? (i := 17) rfl))) (mvT hZ (hw _ (List.mem_of_getElem? (i := 18) rfl))) (notFace_of_selects (args := #[]) (mvT hZ (hw _ (List.mem_of_getElem? (i := 20) rfl)))) (mvT hZ (hw _ (List.mem_of_getElem? (i := 20) rfl))) (mvT hZ (hw _ (List.mem_of_getElem? (i := 19) rfl))) (by decide) (backOf (W := 0) (rm4v4 l Z a0 hw [] b20 (b1) (k1) (z21s2) (z38s2) (z55s2) (z73s2) T23.heap n0  Fq23_1 V9'24) hZ (hw _ (List.mem_of_getElem? (i := 21) rfl)) (hw _ (List.mem_of_getElem? (i := 8) rfl)) (by decide) (by decide)) qa26 qc26 (g := (mkF m 161 #[.val (.int p1), .val (.int p2), .val (.int p3), .val (.int p4), .val (.int p5), .val (.ref b1), .val (.ref b10), .val (.int (0 : Int32)), .val (.long ((((own_part z21s2) + (own_part z38s2)) + (own_part z55s2)) + (own_part z73s2))), .second, .val (.ref b20)] [(.ref b20)])) rfl (by rw [hml]; rfl) (Steps.refl _) (argsL := []) (rest := []) (lenOf pd_2 rfl) rfl (by show 2 * 0 + _ ≤ _; exact Nat.le_of_eq rfl) (hb hby at_161) (fun _ _ => ⟨rfl, rfl, (by decide : 3 + 0 ≤ _), (by decide : 6 + 0 ≤ _)⟩)
            dsimp only [Pt.U, Pt.locs, Pt.cells, Pt.slots] at X26 l26 y26 z26 st26 hQ26
            subst l26 y26 z26
            obtain ⟨rfl, N26q, e26⟩ := hQ26
            have N26 := Fr.app N23 N26q
            refine Gl.to st26 ?_
            show Gl _ _ _ _ _ _ _ (T26.setTop (mkF m 164 #[.val (.int p1), .val (.int p2), .val (.int p3), .val (.int p4), .val (.int p5), .val (.ref b1), .val (.ref b10), .val (.int (0 : Int32)), .val (.long ((((own_part z21s2) + (own_part z38s2)) + (own_part z55s2)) + (own_part z73s2))), .second, .val (.ref b20)] [(.long (own_counted4 z21s2 z38s2 z55s2 z73s2))]))
            refine Gl.st (fun t k => XS.lload X26.here hx rfl (hb hby at_164) rfl  k) ?_
            show Gl _ _ _ _ _ _ _ (T26.setTop (mkF m 166 #[.val (.int p1), .val (.int p2), .val (.int p3), .val (.int p4), .val (.int p5), .val (.ref b1), .val (.ref b10), .val (.int (0 : Int32)), .val (.long ((((own_part z21s2) + (own_part z38s2)) + (own_part z55s2)) + (own_part z73s2))), .second, .val (.ref b20)] [(.long ((((own_part z21s2) + (own_part z38s2)) + (own_part z55s2)) + (own_part z73s2))), (.long (own_counted4 z21s2 z38s2 z55s2 z73s2))]))
            refine Gl.st (fun t k => XS.lcmp X26.here hx rfl (hb hby at_166) rfl k) ?_
            show Gl _ _ _ _ _ _ _ (T26.setTop (mkF m 167 #[.val (.int p1), .val (.int p2), .val (.int p3), .val (.int p4), .val (.int p5), .val (.ref b1), .val (.ref b10), .val (.int (0 : Int32)), .val (.long ((((own_part z21s2) + (own_part z38s2)) + (own_part z55s2)) + (own_part z73s2))), .second, .val (.ref b20)] [(.int (lcmpW (own_counted4 z21s2 z38s2 z55s2 z73s2) ((((own_part z21s2) + (own_part z38s2)) + (own_part z55s2)) + (own_part z73s2))))]))
            have hc167_27 : (own_counted4 z21s2 z38s2 z55s2 z73s2) = ((((own_part z21s2) + (own_part z38s2)) + (own_part z55s2)) + (own_part z73s2)) := by exact own_total _ _ _ _
            refine Gl.st (fun t k => XS.ifNo X26.here hx rfl (hb hby at_167) rfl (le_t hc167_27).2 k) ?_
            show Gl _ _ _ _ _ _ _ (T26.setTop (mkF m 170 #[.val (.int p1), .val (.int p2), .val (.int p3), .val (.int p4), .val (.int p5), .val (.ref b1), .val (.ref b10), .val (.int (0 : Int32)), .val (.long ((((own_part z21s2) + (own_part z38s2)) + (own_part z55s2)) + (own_part z73s2))), .second, .val (.ref b20)] []))
            refine Gl.st (fun t k => XS.iconst X26.here hx rfl (hb hby at_170) k) ?_
            show Gl _ _ _ _ _ _ _ (T26.setTop (mkF m 171 #[.val (.int p1), .val (.int p2), .val (.int p3), .val (.int p4), .val (.int p5), .val (.ref b1), .val (.ref b10), .val (.int (0 : Int32)), .val (.long ((((own_part z21s2) + (own_part z38s2)) + (own_part z55s2)) + (own_part z73s2))), .second, .val (.ref b20)] [(.int (1 : Int32))]))
            refine Gl.st (fun t k => XS.goto X26.here hx rfl (pc0 := 171) (pc' := 175) rfl (hb hby at_171) (by decide) (by decide) k) ?_
            show Gl _ _ _ _ _ _ _ (T26.setTop (mkF m 175 #[.val (.int p1), .val (.int p2), .val (.int p3), .val (.int p4), .val (.int p5), .val (.ref b1), .val (.ref b10), .val (.int (0 : Int32)), .val (.long ((((own_part z21s2) + (own_part z38s2)) + (own_part z55s2)) + (own_part z73s2))), .second, .val (.ref b20)] [(.int (1 : Int32))]))
            exact Gl.retN X26 hx hlk Bd.returns (by simp) (hb hby at_175) (⟨rfl, N26⟩) (by decide) (by decide)
          · refine Gl.st (fun t k => XS.ifNo X10.here hx rfl (hb hby at_84) rfl ((if0 _ _).trans (feq hc84).1) k) ?_
            show Gl _ _ _ _ _ _ _ (T10.setTop (mkF m 87 #[.val (.int p1), .val (.int p2), .val (.int p3), .val (.int p4), .val (.int p5), .val (.ref b1), .val (.ref b10), .unset, .unset, .unset, .unset] []))
            refine Gl.st (fun t k => XS.iconst X10.here hx rfl (hb hby at_87) k) ?_
            show Gl _ _ _ _ _ _ _ (T10.setTop (mkF m 88 #[.val (.int p1), .val (.int p2), .val (.int p3), .val (.int p4), .val (.int p5), .val (.ref b1), .val (.ref b10), .unset, .unset, .unset, .unset] [(.int (1 : Int32))]))
            refine Gl.st (fun t k => XS.goto X10.here hx rfl (pc0 := 88) (pc' := 92) rfl (hb hby at_88) (by decide) (by decide) k) ?_
            show Gl _ _ _ _ _ _ _ (T10.setTop (mkF m 92 #[.val (.int p1), .val (.int p2), .val (.int p3), .val (.int p4), .val (.int p5), .val (.ref b1), .val (.ref b10), .unset, .unset, .unset, .unset] [(.int (1 : Int32))]))
            refine Gl.st (fun t k => XS.istore X10.here hx rfl (hb hby at_92) rfl (l' := #[.val (.int p1), .val (.int p2), .val (.int p3), .val (.int p4), .val (.int p5), .val (.ref b1), .val (.ref b10), .val (.int (1 : Int32)), .unset, .unset, .unset]) rfl k) ?_
            show Gl _ _ _ _ _ _ _ (T10.setTop (mkF m 94 #[.val (.int p1), .val (.int p2), .val (.int p3), .val (.int p4), .val (.int p5), .val (.ref b1), .val (.ref b10), .val (.int (1 : Int32)), .unset, .unset, .unset] []))
            refine Gl.st (fun t k => XS.iload X10.here hx rfl (hb hby at_94) rfl  k) ?_
            show Gl _ _ _ _ _ _ _ (T10.setTop (mkF m 96 #[.val (.int p1), .val (.int p2), .val (.int p3), .val (.int p4), .val (.int p5), .val (.ref b1), .val (.ref b10), .val (.int (1 : Int32)), .unset, .unset, .unset] [(.int (1 : Int32))]))
            refine Gl.st (fun t k => XS.ifNo X10.here hx rfl (hb hby at_96) rfl ((if0 _ _).trans (feq (by decide : ¬ ((1 : Int32) = (0 : Int32)))).1) k) ?_
            show Gl _ _ _ _ _ _ _ (T10.setTop (mkF m 99 #[.val (.int p1), .val (.int p2), .val (.int p3), .val (.int p4), .val (.int p5), .val (.ref b1), .val (.ref b10), .val (.int (1 : Int32)), .unset, .unset, .unset] []))
            refine Gl.st (fun t k => XS.lconst X10.here hx rfl (hb hby at_99) k) ?_
            show Gl _ _ _ _ _ _ _ (T10.setTop (mkF m 100 #[.val (.int p1), .val (.int p2), .val (.int p3), .val (.int p4), .val (.int p5), .val (.ref b1), .val (.ref b10), .val (.int (1 : Int32)), .unset, .unset, .unset] [(.long (0 : Int64))]))
            refine Gl.st (fun t k => XS.lstore X10.here hx rfl (hb hby at_100) rfl (l' := #[.val (.int p1), .val (.int p2), .val (.int p3), .val (.int p4), .val (.int p5), .val (.ref b1), .val (.ref b10), .val (.int (1 : Int32)), .val (.long (0 : Int64)), .second, .unset]) rfl k) ?_
            show Gl _ _ _ _ _ _ _ (T10.setTop (mkF m 102 #[.val (.int p1), .val (.int p2), .val (.int p3), .val (.int p4), .val (.int p5), .val (.ref b1), .val (.ref b10), .val (.int (1 : Int32)), .val (.long (0 : Int64)), .second, .unset] []))
            refine Gl.st (fun t k => XS.goto X10.here hx rfl (pc0 := 102) (pc' := 138) rfl (hb hby at_102) (by decide) (by decide) k) ?_
            show Gl _ _ _ _ _ _ _ (T10.setTop (mkF m 138 #[.val (.int p1), .val (.int p2), .val (.int p3), .val (.int p4), .val (.int p5), .val (.ref b1), .val (.ref b10), .val (.int (1 : Int32)), .val (.long (0 : Int64)), .second, .unset] []))
            obtain ⟨T28, h28, X28, e28, E28, A28, D28, -, st28⟩ := newO X10 hx hZ hown (hw _ (List.mem_of_getElem? (i := 6) rfl)) (hw _ (List.mem_of_getElem? (i := 7) rfl)) (hw _ (List.mem_of_getElem? (i := 8) rfl)) e10 (g := (mkF m 138 #[.val (.int p1), .val (.int p2), .val (.int p3), .val (.int p4), .val (.int p5), .val (.ref b1), .val (.ref b10), .val (.int (1 : Int32)), .val (.long (0 : Int64)), .second, .unset] [])) rfl (hb hby at_138) (by decide) (by decide)
            obtain ⟨b28, g28⟩ : ∃ z, z = h10.size := ⟨_, rfl⟩
            rw [← g28] at A28 D28 st28
            refine Gl.st st28 ?_
            have ne_b1_b28 : b1 ≠ b28 := Nat.ne_of_lt (Nat.lt_of_lt_of_le V9'11.lt (Nat.le_of_eq g28.symm))
            have ne_b10_b28 : b10 ≠ b28 := Nat.ne_of_lt (Nat.lt_of_lt_of_le V10.lt (Nat.le_of_eq g28.symm))
            have gzb28 : n0 ≤ b28 := Nat.le_trans Z10 (Nat.le_of_eq g28.symm)
            have Z28 : n0 ≤ h28.size := Nat.le_trans Z10 E28.1
            have V9'29 : Arv Z h28 b1 k1 .int (4 : Int32) [(.int z21s2), (.int z38s2), (.int z55s2), (.int z73s2)] (.int (0 : Int32)) := V9'11.ext E28
            have V10'30 : Arv Z h28 b10 k10 .int (0 : Int32) [] (.int (0 : Int32)) := V10.ext E28
            have F28_tokens : Fld Z h28 b28 "com/example/enact/enact/engine/Marking" "tokens" "[I" .null := D28 (Or.inr (hw _ (List.mem_of_getElem? (i := 16) rfl))) (ty := (.array .int)) (by decide)
            show Gl _ _ _ _ _ _ _ (T28.setTop (mkF m 141 #[.val (.int p1), .val (.int p2), .val (.int p3), .val (.int p4), .val (.int p5), .val (.ref b1), .val (.ref b10), .val (.int (1 : Int32)), .val (.long (0 : Int64)), .second, .unset] [(.ref b28)]))
            refine Gl.st (fun t k => XS.dup X28.here hx rfl (hb hby at_141) rfl rfl k) ?_
            show Gl _ _ _ _ _ _ _ (T28.setTop (mkF m 142 #[.val (.int p1), .val (.int p2), .val (.int p3), .val (.int p4), .val (.int p5), .val (.ref b1), .val (.ref b10), .val (.int (1 : Int32)), .val (.long (0 : Int64)), .second, .unset] [(.ref b28), (.ref b28)]))
            refine Gl.st (fun t k => XS.iload X28.here hx rfl (hb hby at_142) rfl  k) ?_
            show Gl _ _ _ _ _ _ _ (T28.setTop (mkF m 144 #[.val (.int p1), .val (.int p2), .val (.int p3), .val (.int p4), .val (.int p5), .val (.ref b1), .val (.ref b10), .val (.int (1 : Int32)), .val (.long (0 : Int64)), .second, .unset] [(.int (1 : Int32)), (.ref b28), (.ref b28)]))
            refine Gl.st (fun t k => XS.ifNo X28.here hx rfl (hb hby at_144) rfl ((if0 _ _).trans (feq (by decide : ¬ ((1 : Int32) = (0 : Int32)))).1) k) ?_
            show Gl _ _ _ _ _ _ _ (T28.setTop (mkF m 147 #[.val (.int p1), .val (.int p2), .val (.int p3), .val (.int p4), .val (.int p5), .val (.ref b1), .val (.ref b10), .val (.int (1 : Int32)), .val (.long (0 : Int64)), .second, .unset] [(.ref b28), (.ref b28)]))
            refine Gl.st (fun t k => XS.aload X28.here hx rfl (hb hby at_147) rfl rfl k) ?_
            show Gl _ _ _ _ _ _ _ (T28.setTop (mkF m 149 #[.val (.int p1), .val (.int p2), .val (.int p3), .val (.int p4), .val (.int p5), .val (.ref b1), .val (.ref b10), .val (.int (1 : Int32)), .val (.long (0 : Int64)), .second, .unset] [(.ref b10), (.ref b28), (.ref b28)]))
            refine Gl.st (fun t k => XS.goto X28.here hx rfl (pc0 := 149) (pc' := 154) rfl (hb hby at_149) (by decide) (by decide) k) ?_
            show Gl _ _ _ _ _ _ _ (T28.setTop (mkF m 154 #[.val (.int p1), .val (.int p2), .val (.int p3), .val (.int p4), .val (.int p5), .val (.ref b1), .val (.ref b10), .val (.int (1 : Int32)), .val (.long (0 : Int64)), .second, .unset] [(.ref b10), (.ref b28), (.ref b28)]))
            obtain ⟨_, _, ⟨T31, L31, k31, n31⟩, -, X31, ⟨Lc31, hQ31, l31, y31, z31⟩, st31⟩ := X28.specialBack hx (y := (⟨"com/example/enact/enact/engine/Marking", "<init>", "([I)V"⟩ : MethodName)) rfl hown (mvT hZ (hw _ (List.mem_of_getElem? (i := 9) rfl))) (mvT hZ (hw _ (List.mem_of_getElem? (i := 10) rfl))) (mvT hZ (hw _ (List.mem_of_getElem? (i := 11) rfl))) (by decide) (backOf (W := 1) (rm2 l Z a0 hw [] b28 b10 (.null) h28 n0 Z28 A28 F28_tokens gzb28) hZ (hw _ (List.mem_of_getElem? (i := 11) rfl)) (hw _ (List.mem_of_getElem? (i := 8) rfl)) (by decide) (by decide)) (g := (mkF m 154 #[.val (.int p1), .val (.int p2), .val (.int p3), .val (.int p4), .val (.int p5), .val (.ref b1), .val (.ref b10), .val (.int (1 : Int32)), .val (.long (0 : Int64)), .second, .unset] [(.ref b10), (.ref b28), (.ref b28)])) rfl (by rw [hml]; rfl) (Steps.refl _) (a := b28) (argsL := [(.ref b10)]) (rest := [(.ref b28)]) (lenOf pd_1 rfl) rfl (by show 2 * 0 + _ ≤ _; exact Nat.le_of_eq rfl) (hb hby at_154) (fun _ _ => ⟨rfl, e28, (by decide : 3 + 0 ≤ _), (by decide : 6 + 0 ≤ _)⟩)
            dsimp only [Pt.U, Pt.locs, Pt.cells, Pt.slots] at X31 l31 y31 z31 st31 hQ31
            subst l31 y31 z31
            obtain ⟨rfl, N31q, Kq31, Fq31_0, Fq31_1⟩ := hQ31
            have N31 := Fr.app N9 N31q
            have Z31 : n0 ≤ T31.heap.size := Nat.le_trans Z28 Kq31.1
            have V9'32 : Arv Z T31.heap b1 k1 .int (4 : Int32) [(.int z21s2), (.int z38s2), (.int z55s2), (.int z73s2)] (.int (0 : Int32)) := V9'29.keep Kq31 (ninS ne_b1_b28 nin0)
            have V10'33 : Arv Z T31.heap b10 k10 .int (0 : Int32) [] (.int (0 : Int32)) := V10'30.keep Kq31 (ninS ne_b10_b28 nin0)
            refine Gl.to st31 ?_
            show Gl _ _ _ _ _ _ _ (T31.setTop (mkF m 157 #[.val (.int p1), .val (.int p2), .val (.int p3), .val (.int p4), .val (.int p5), .val (.ref b1), .val (.ref b10), .val (.int (1 : Int32)), .val (.long (0 : Int64)), .second, .unset] [(.ref b28)]))
            refine Gl.st (fun t k => XS.astore X31.here hx rfl (hb hby at_157) rfl rfl (l' := #[.val (.int p1), .val (.int p2), .val (.int p3), .val (.int p4), .val (.int p5), .val (.ref b1), .val (.ref b10), .val (.int (1 : Int32)), .val (.long (0 : Int64)), .second, .val (.ref b28)]) rfl k) ?_
            show Gl _ _ _ _ _ _ _ (T31.setTop (mkF m 159 #[.val (.int p1), .val (.int p2), .val (.int p3), .val (.int p4), .val (.int p5), .val (.ref b1), .val (.ref b10), .val (.int (1 : Int32)), .val (.long (0 : Int64)), .second, .val (.ref b28)] []))
            refine Gl.st (fun t k => XS.aload X31.here hx rfl (hb hby at_159) rfl rfl k) ?_
            show Gl _ _ _ _ _ _ _ (T31.setTop (mkF m 161 #[.val (.int p1), .val (.int p2), .val (.int p3), .val (.int p4), .val (.int p5), .val (.ref b1), .val (.ref b10), .val (.int (1 : Int32)), .val (.long (0 : Int64)), .second, .val (.ref b28)] [(.ref b28)]))
            obtain ⟨cq34, kq34, qa34, qb34, qc34⟩ := isOf hZ rfl Fq31_0
            obtain ⟨_, _, ⟨T34, L34, k34, n34⟩, -, X34, ⟨Lc34, hQ34, l34, y34, z34⟩, st34⟩ := X31.virtualBack hx (y := (⟨"com/example/enact/enact/engine/Marking", "counted", "()J"⟩ : MethodName)) (z := (⟨"com/example/enact/enact/engine/Marking", "counted", "()J"⟩ : MethodName)) hown (mvT hZ (hw _ (List.mem_of_getElem? (i := 17) rfl))) (mvT hZ (hw _ (List.mem_of_getElem? (i := 18) rfl))) (notFace_of_selects (args := #[]) (mvT hZ (hw _ (List.mem_of_getElem? (i := 20) rfl)))) (mvT hZ (hw _ (List.mem_of_getElem? (i := 20) rfl))) (mvT hZ (hw _ (List.mem_of_getElem? (i := 19) rfl))) (by decide) (backOf (W := 0) (rm4v0 l Z a0 hw [] b28 (b10) (k10) T31.heap n0  Fq31_1 V10'33) hZ (hw _ (List.mem_of_getElem? (i := 21) rfl)) (hw _ (List.mem_of_getElem? (i := 8) rfl)) (by decide) (by decide)) qa34 qc34 (g := (mkF m 161 #[.val (.int p1), .val (.int p2), .val (.int p3), .val (.int p4), .val (.int p5), .val (.ref b1), .val (.ref b10), .val (.int (1 : Int32)), .val (.long (0 : Int64)), .second, .val (.ref b28)] [(.ref b28)])) rfl (by rw [hml]; rfl) (Steps.refl _) (argsL := []) (rest := []) (lenOf pd_2 rfl) rfl (by show 2 * 0 + _ ≤ _; exact Nat.le_of_eq rfl) (hb hby at_161) (fun _ _ => ⟨rfl, rfl, (by decide : 3 + 0 ≤ _), (by decide : 6 + 0 ≤ _)⟩)
            dsimp only [Pt.U, Pt.locs, Pt.cells, Pt.slots] at X34 l34 y34 z34 st34 hQ34
            subst l34 y34 z34
            obtain ⟨rfl, N34q, e34⟩ := hQ34
            have N34 := Fr.app N31 N34q
            refine Gl.to st34 ?_
            show Gl _ _ _ _ _ _ _ (T34.setTop (mkF m 164 #[.val (.int p1), .val (.int p2), .val (.int p3), .val (.int p4), .val (.int p5), .val (.ref b1), .val (.ref b10), .val (.int (1 : Int32)), .val (.long (0 : Int64)), .second, .val (.ref b28)] [(.long own_counted0)]))
            refine Gl.st (fun t k => XS.lload X34.here hx rfl (hb hby at_164) rfl  k) ?_
            show Gl _ _ _ _ _ _ _ (T34.setTop (mkF m 166 #[.val (.int p1), .val (.int p2), .val (.int p3), .val (.int p4), .val (.int p5), .val (.ref b1), .val (.ref b10), .val (.int (1 : Int32)), .val (.long (0 : Int64)), .second, .val (.ref b28)] [(.long (0 : Int64)), (.long own_counted0)]))
            refine Gl.st (fun t k => XS.lcmp X34.here hx rfl (hb hby at_166) rfl k) ?_
            show Gl _ _ _ _ _ _ _ (T34.setTop (mkF m 167 #[.val (.int p1), .val (.int p2), .val (.int p3), .val (.int p4), .val (.int p5), .val (.ref b1), .val (.ref b10), .val (.int (1 : Int32)), .val (.long (0 : Int64)), .second, .val (.ref b28)] [(.int (lcmpW own_counted0 (0 : Int64)))]))
            have hc167_35 : own_counted0 = (0 : Int64) := by rfl
            refine Gl.st (fun t k => XS.ifNo X34.here hx rfl (hb hby at_167) rfl (le_t hc167_35).2 k) ?_
            show Gl _ _ _ _ _ _ _ (T34.setTop (mkF m 170 #[.val (.int p1), .val (.int p2), .val (.int p3), .val (.int p4), .val (.int p5), .val (.ref b1), .val (.ref b10), .val (.int (1 : Int32)), .val (.long (0 : Int64)), .second, .val (.ref b28)] []))
            refine Gl.st (fun t k => XS.iconst X34.here hx rfl (hb hby at_170) k) ?_
            show Gl _ _ _ _ _ _ _ (T34.setTop (mkF m 171 #[.val (.int p1), .val (.int p2), .val (.int p3), .val (.int p4), .val (.int p5), .val (.ref b1), .val (.ref b10), .val (.int (1 : Int32)), .val (.long (0 : Int64)), .second, .val (.ref b28)] [(.int (1 : Int32))]))
            refine Gl.st (fun t k => XS.goto X34.here hx rfl (pc0 := 171) (pc' := 175) rfl (hb hby at_171) (by decide) (by decide) k) ?_
            show Gl _ _ _ _ _ _ _ (T34.setTop (mkF m 175 #[.val (.int p1), .val (.int p2), .val (.int p3), .val (.int p4), .val (.int p5), .val (.ref b1), .val (.ref b10), .val (.int (1 : Int32)), .val (.long (0 : Int64)), .second, .val (.ref b28)] [(.int (1 : Int32))]))
            exact Gl.retN X34 hx hlk Bd.returns (by simp) (hb hby at_175) (⟨rfl, N34⟩) (by decide) (by decide)
        by_cases hc64 : (p5 &&& (8 : Int32)) = (0 : Int32)
        · refine Gl.st (fun t k => XS.ifYes X7.here hx rfl (pc0 := 64) (pc' := 72) rfl (hb hby at_64) rfl ((if0 _ _).trans (teq hc64).1) (by decide) (by decide) k) ?_
          show Gl _ _ _ _ _ _ _ (T7.setTop (mkF m 72 #[.val (.int p1), .val (.int p2), .val (.int p3), .val (.int p4), .val (.int p5), .val (.ref b1), .unset, .unset, .unset, .unset, .unset] [(.int (3 : Int32)), (.ref b1)]))
          refine Gl.st (fun t k => XS.iloadN X7.here hx rfl (hb hby at_72) rfl  k) ?_
          show Gl _ _ _ _ _ _ _ (T7.setTop (mkF m 73 #[.val (.int p1), .val (.int p2), .val (.int p3), .val (.int p4), .val (.int p5), .val (.ref b1), .unset, .unset, .unset, .unset, .unset] [(.int p4), (.int (3 : Int32)), (.ref b1)]))
          exact J8 _ _ X7 e7 N7 _ (by simp only [if_pos hc64])
        · refine Gl.st (fun t k => XS.ifNo X7.here hx rfl (hb hby at_64) rfl ((if0 _ _).trans (feq hc64).1) k) ?_
          show Gl _ _ _ _ _ _ _ (T7.setTop (mkF m 67 #[.val (.int p1), .val (.int p2), .val (.int p3), .val (.int p4), .val (.int p5), .val (.ref b1), .unset, .unset, .unset, .unset, .unset] [(.int (3 : Int32)), (.ref b1)]))
          refine Gl.st (X7.ldcInt hx hown (mvT hZ (hw _ (List.mem_of_getElem? (i := 5) rfl))) (g := (mkF m 67 #[.val (.int p1), .val (.int p2), .val (.int p3), .val (.int p4), .val (.int p5), .val (.ref b1), .unset, .unset, .unset, .unset, .unset] [(.int (3 : Int32)), (.ref b1)])) rfl (hb hby at_67)) ?_
          show Gl _ _ _ _ _ _ _ (T7.setTop (mkF m 69 #[.val (.int p1), .val (.int p2), .val (.int p3), .val (.int p4), .val (.int p5), .val (.ref b1), .unset, .unset, .unset, .unset, .unset] [(.int (2147483647 : Int32)), (.int (3 : Int32)), (.ref b1)]))
          refine Gl.st (fun t k => XS.goto X7.here hx rfl (pc0 := 69) (pc' := 73) rfl (hb hby at_69) (by decide) (by decide) k) ?_
          show Gl _ _ _ _ _ _ _ (T7.setTop (mkF m 73 #[.val (.int p1), .val (.int p2), .val (.int p3), .val (.int p4), .val (.int p5), .val (.ref b1), .unset, .unset, .unset, .unset, .unset] [(.int (2147483647 : Int32)), (.int (3 : Int32)), (.ref b1)]))
          exact J8 _ _ X7 e7 N7 _ (by simp only [if_neg hc64])
      by_cases hc46 : (p5 &&& (4 : Int32)) = (0 : Int32)
      · refine Gl.st (fun t k => XS.ifYes X5.here hx rfl (pc0 := 46) (pc' := 54) rfl (hb hby at_46) rfl ((if0 _ _).trans (teq hc46).1) (by decide) (by decide) k) ?_
        show Gl _ _ _ _ _ _ _ (T5.setTop (mkF m 54 #[.val (.int p1), .val (.int p2), .val (.int p3), .val (.int p4), .val (.int p5), .val (.ref b1), .unset, .unset, .unset, .unset, .unset] [(.int (2 : Int32)), (.ref b1)]))
        refine Gl.st (fun t k => XS.iloadN X5.here hx rfl (hb hby at_54) rfl  k) ?_
        show Gl _ _ _ _ _ _ _ (T5.setTop (mkF m 55 #[.val (.int p1), .val (.int p2), .val (.int p3), .val (.int p4), .val (.int p5), .val (.ref b1), .unset, .unset, .unset, .unset, .unset] [(.int p3), (.int (2 : Int32)), (.ref b1)]))
        exact J6 _ _ X5 e5 N5 _ (by simp only [if_pos hc46])
      · refine Gl.st (fun t k => XS.ifNo X5.here hx rfl (hb hby at_46) rfl ((if0 _ _).trans (feq hc46).1) k) ?_
        show Gl _ _ _ _ _ _ _ (T5.setTop (mkF m 49 #[.val (.int p1), .val (.int p2), .val (.int p3), .val (.int p4), .val (.int p5), .val (.ref b1), .unset, .unset, .unset, .unset, .unset] [(.int (2 : Int32)), (.ref b1)]))
        refine Gl.st (X5.ldcInt hx hown (mvT hZ (hw _ (List.mem_of_getElem? (i := 5) rfl))) (g := (mkF m 49 #[.val (.int p1), .val (.int p2), .val (.int p3), .val (.int p4), .val (.int p5), .val (.ref b1), .unset, .unset, .unset, .unset, .unset] [(.int (2 : Int32)), (.ref b1)])) rfl (hb hby at_49)) ?_
        show Gl _ _ _ _ _ _ _ (T5.setTop (mkF m 51 #[.val (.int p1), .val (.int p2), .val (.int p3), .val (.int p4), .val (.int p5), .val (.ref b1), .unset, .unset, .unset, .unset, .unset] [(.int (2147483647 : Int32)), (.int (2 : Int32)), (.ref b1)]))
        refine Gl.st (fun t k => XS.goto X5.here hx rfl (pc0 := 51) (pc' := 55) rfl (hb hby at_51) (by decide) (by decide) k) ?_
        show Gl _ _ _ _ _ _ _ (T5.setTop (mkF m 55 #[.val (.int p1), .val (.int p2), .val (.int p3), .val (.int p4), .val (.int p5), .val (.ref b1), .unset, .unset, .unset, .unset, .unset] [(.int (2147483647 : Int32)), (.int (2 : Int32)), (.ref b1)]))
        exact J6 _ _ X5 e5 N5 _ (by simp only [if_neg hc46])
    by_cases hc29 : (p5 &&& (2 : Int32)) = (0 : Int32)
    · refine Gl.st (fun t k => XS.ifYes X3.here hx rfl (pc0 := 29) (pc' := 37) rfl (hb hby at_29) rfl ((if0 _ _).trans (teq hc29).1) (by decide) (by decide) k) ?_
      show Gl _ _ _ _ _ _ _ (T3.setTop (mkF m 37 #[.val (.int p1), .val (.int p2), .val (.int p3), .val (.int p4), .val (.int p5), .val (.ref b1), .unset, .unset, .unset, .unset, .unset] [(.int (1 : Int32)), (.ref b1)]))
      refine Gl.st (fun t k => XS.iloadN X3.here hx rfl (hb hby at_37) rfl  k) ?_
      show Gl _ _ _ _ _ _ _ (T3.setTop (mkF m 38 #[.val (.int p1), .val (.int p2), .val (.int p3), .val (.int p4), .val (.int p5), .val (.ref b1), .unset, .unset, .unset, .unset, .unset] [(.int p2), (.int (1 : Int32)), (.ref b1)]))
      exact J4 _ _ X3 e3 N3 _ (by simp only [if_pos hc29])
    · refine Gl.st (fun t k => XS.ifNo X3.here hx rfl (hb hby at_29) rfl ((if0 _ _).trans (feq hc29).1) k) ?_
      show Gl _ _ _ _ _ _ _ (T3.setTop (mkF m 32 #[.val (.int p1), .val (.int p2), .val (.int p3), .val (.int p4), .val (.int p5), .val (.ref b1), .unset, .unset, .unset, .unset, .unset] [(.int (1 : Int32)), (.ref b1)]))
      refine Gl.st (X3.ldcInt hx hown (mvT hZ (hw _ (List.mem_of_getElem? (i := 5) rfl))) (g := (mkF m 32 #[.val (.int p1), .val (.int p2), .val (.int p3), .val (.int p4), .val (.int p5), .val (.ref b1), .unset, .unset, .unset, .unset, .unset] [(.int (1 : Int32)), (.ref b1)])) rfl (hb hby at_32)) ?_
      show Gl _ _ _ _ _ _ _ (T3.setTop (mkF m 34 #[.val (.int p1), .val (.int p2), .val (.int p3), .val (.int p4), .val (.int p5), .val (.ref b1), .unset, .unset, .unset, .unset, .unset] [(.int (2147483647 : Int32)), (.int (1 : Int32)), (.ref b1)]))
      refine Gl.st (fun t k => XS.goto X3.here hx rfl (pc0 := 34) (pc' := 38) rfl (hb hby at_34) (by decide) (by decide) k) ?_
      show Gl _ _ _ _ _ _ _ (T3.setTop (mkF m 38 #[.val (.int p1), .val (.int p2), .val (.int p3), .val (.int p4), .val (.int p5), .val (.ref b1), .unset, .unset, .unset, .unset, .unset] [(.int (2147483647 : Int32)), (.int (1 : Int32)), (.ref b1)]))
      exact J4 _ _ X3 e3 N3 _ (by simp only [if_neg hc29])
  by_cases hc12 : (p5 &&& (1 : Int32)) = (0 : Int32)
  · refine Gl.st (fun t k => XS.ifYes X1.here hx rfl (pc0 := 12) (pc' := 20) rfl (hb hby at_12) rfl ((if0 _ _).trans (teq hc12).1) (by decide) (by decide) k) ?_
    show Gl _ _ _ _ _ _ _ (T1.setTop (mkF m 20 #[.val (.int p1), .val (.int p2), .val (.int p3), .val (.int p4), .val (.int p5), .val (.ref b1), .unset, .unset, .unset, .unset, .unset] [(.int (0 : Int32)), (.ref b1)]))
    refine Gl.st (fun t k => XS.iloadN X1.here hx rfl (hb hby at_20) rfl  k) ?_
    show Gl _ _ _ _ _ _ _ (T1.setTop (mkF m 21 #[.val (.int p1), .val (.int p2), .val (.int p3), .val (.int p4), .val (.int p5), .val (.ref b1), .unset, .unset, .unset, .unset, .unset] [(.int p1), (.int (0 : Int32)), (.ref b1)]))
    exact J2 _ _ X1 e1 N0 _ (by simp only [if_pos hc12])
  · refine Gl.st (fun t k => XS.ifNo X1.here hx rfl (hb hby at_12) rfl ((if0 _ _).trans (feq hc12).1) k) ?_
    show Gl _ _ _ _ _ _ _ (T1.setTop (mkF m 15 #[.val (.int p1), .val (.int p2), .val (.int p3), .val (.int p4), .val (.int p5), .val (.ref b1), .unset, .unset, .unset, .unset, .unset] [(.int (0 : Int32)), (.ref b1)]))
    refine Gl.st (X1.ldcInt hx hown (mvT hZ (hw _ (List.mem_of_getElem? (i := 5) rfl))) (g := (mkF m 15 #[.val (.int p1), .val (.int p2), .val (.int p3), .val (.int p4), .val (.int p5), .val (.ref b1), .unset, .unset, .unset, .unset, .unset] [(.int (0 : Int32)), (.ref b1)])) rfl (hb hby at_15)) ?_
    show Gl _ _ _ _ _ _ _ (T1.setTop (mkF m 17 #[.val (.int p1), .val (.int p2), .val (.int p3), .val (.int p4), .val (.int p5), .val (.ref b1), .unset, .unset, .unset, .unset, .unset] [(.int (2147483647 : Int32)), (.int (0 : Int32)), (.ref b1)]))
    refine Gl.st (fun t k => XS.goto X1.here hx rfl (pc0 := 17) (pc' := 21) rfl (hb hby at_17) (by decide) (by decide) k) ?_
    show Gl _ _ _ _ _ _ _ (T1.setTop (mkF m 21 #[.val (.int p1), .val (.int p2), .val (.int p3), .val (.int p4), .val (.int p5), .val (.ref b1), .unset, .unset, .unset, .unset, .unset] [(.int (2147483647 : Int32)), (.int (0 : Int32)), (.ref b1)]))
    exact J2 _ _ X1 e1 N0 _ (by simp only [if_neg hc12])
set_option maxRecDepth 65536 in
set_option maxHeartbeats 40000000 in
theorem comes_1 {Post : Tables → Env → Array Value → State → Outcome → State → Prop} (hpost : ∀ tb e args s v u, (limb_1_1.after args s (.returned v) u = true ∧ limb_1_2.after args s (.returned v) u = true ∧ True) → FrameEnd s (.returned v) u (Jvm.fieldLocs frame_1_writes args s ++ Jvm.arrayLocs frame_1_arrays args s ++ Jvm.staticLocs frame_1_statics s) 16 128 → Post tb e args s (.returned v) u) :
    ArmFor flags0 classFile x code maxLocals ret World_1 tables_1 room_1 Calls_1 rest_1 Pre_1 Post := by
  intro l hfl _ _ p e ha hc hk s m args below hf hA hF happ hP
  obtain ⟨hcalls, hrest, hpre⟩ := hP
  obtain ⟨-, -, -, hnamed, -, -, -, hat⟩ := (Spec.applies_iff hf).mp happ
  obtain ⟨hg, hn⟩ := and_e (Cond.before_iff.mp (show (Jvm.Cond.and given_1 narrow_1).before args s = true from hpre))
  obtain ⟨hcnt, hr0⟩ := and_e hg
  obtain ⟨ha0, hr1⟩ := and_e hr0
  obtain ⟨ha1, hr2⟩ := and_e hr1
  obtain ⟨ha2, hr3⟩ := and_e hr2
  obtain ⟨ha3, hr4⟩ := and_e hr3
  have ha4 := hr4
  obtain ⟨w0, w1, w2, w3, w4, rfl⟩ : ∃ w0 w1 w2 w3 w4 : Value, args = #[w0, w1, w2, w3, w4] := by
    have hs : args.size = 5 := by simpa [Cond.value, given_1] using hcnt
    obtain ⟨L⟩ := args
    match L, hs with
    | [w0, w1, w2, w3, w4], _ => exact ⟨w0, w1, w2, w3, w4, rfl⟩
  have hw := fun d (hd : d ∈ tables_1) => atoms_spec (ws := Jvm.Cond.code x code maxLocals ret :: tables_1) hat d (List.mem_cons_of_mem _ hd)
  obtain ⟨i0, ei0⟩ := is_v ha0
  obtain rfl : w0 = (.int i0) := Option.some.inj ei0
  obtain ⟨i1, ei1⟩ := is_v ha1
  obtain rfl : w1 = (.int i1) := Option.some.inj ei1
  obtain ⟨i2, ei2⟩ := is_v ha2
  obtain rfl : w2 = (.int i2) := Option.some.inj ei2
  obtain ⟨i3, ei3⟩ := is_v ha3
  obtain rfl : w3 = (.int i3) := Option.some.inj ei3
  obtain ⟨i4, ei4⟩ := is_v ha4
  obtain rfl : w4 = (.int i4) := Option.some.inj ei4
  obtain ⟨n, o, h1, h2, h3, _, L, rfl, ⟨rfl, N⟩, hq⟩ := rm0 l s _ hw tables_1 i0 i1 i2 i3 i4 s.heap s.heap.size (Nat.le_refl _) p e ha hc hk s m _ below hf ((Spec.applies_iff_loose hf).mp happ).1 ⟨rfl, State.Warmed39.refl s, rfl⟩ trivial
  refine ⟨n, _, h1, h2, h3, hpost _ _ _ _ _ _ ⟨Cond.after_iff.mpr rfl, Cond.after_iff.mpr (eq_i res_at (Term.int_eval (1)) rfl), trivial⟩ ⟨hq.1, hq.2.1, (hq.2.2.sift fun y hy => Or.inr (N y hy)).mono (by decide) (by decide)⟩⟩
theorem main_1_1 : Claimed_1_1 := comes_1 fun _ _ _ _ _ _ h hF => ⟨h.1, hF⟩
theorem main_1_2 : Claimed_1_2 := comes_1 fun _ _ _ _ _ _ h hF => ⟨h.2.1, hF⟩
end Jvm.Pilot.@@N@@
namespace Jvm.Pilot.@@N@@
open Jvm Jvm.ClassFile Sem Op Lib Jvm.Free Jvm.Stand Jvm.Pilot.@@N@@.Jvm.D
/-! MADE BY PROGRAM (witnessworld.py) out of the Statement's table words and the real class files: 9 classes; the members and pool entries that the words name. The judged class is class 1, her method 1. -/
namespace start1
open Jvm.ClassFile
def u (s : String) : CpInfo := .utf8 (stringToUtf16 s)
/-- a pool by its gaps: so many unusable entries, then the entry; so many at the end -/
def gap : Nat → List CpInfo → List CpInfo
  | 0, r => r
  | n + 1, r => .unusable :: gap n r
def poolList (es : List (Nat × CpInfo)) (last : Nat) : List CpInfo := es.foldr (fun e r => gap e.1 (e.2 :: r)) (gap last [])
def pool (es : List (Nat × CpInfo)) (last : Nat) : Array CpInfo := ⟨poolList es last⟩
def fileOf (pool : Array CpInfo) (this : Nat) (attrs : Array Attribute := #[]) (ms : Array MethodInfo := #[]) (fl : Nat := 33) (sup : Nat := 0) (ifs : Array Nat := #[]) (fds : Array FieldInfo := #[]) : ClassFile where
  minorVersion := 0
  majorVersion := 65
  constantPool := pool
  accessFlags := fl
  thisClass := this
  superClass := sup
  interfaces := ifs
  fields := fds
  methods := ms
  attributes := attrs
def plain (name : String) (sup : Option ClassId) : Class where
  name := name
  kind := .ordinary
  loader := none
  accessFlags := 33
  super := sup
  interfaces := #[]
  cf := none
  fields := #[]
  methods := #[]
  instanceTypes := #[]
  staticTypes := #[]
  resolved := #[]
  callSites := []
  init := .initialized
  statics := none
  mirror := none

def pool0 : Array CpInfo := pool [(5, u "<init>"), (0, u "()V"), (1, .class_ 10), (1, u "java/lang/Object")] 113

def k0c0 : Code := { maxStack := 0, maxLocals := 1, code := object_method_1_code, exceptionTable := #[], attributes := #[] }
def k0m0 : Method := { name := "<init>", desc := "()V", sig := { parameters := [], returnType := none }, accessFlags := 1, code := some k0c0 }
/-- java/lang/Object -/
def k0 : Class := { plain "java/lang/Object" none with
  accessFlags := 33
  interfaces := #[]
  cf := some (fileOf pool0 8 #[] #[{ accessFlags := 1, nameIndex := 5, descriptorIndex := 6, attributes := #[] }] 33 0 #[] #[])
  fields := #[]
  methods := #[k0m0]
  instanceTypes := #[]
  staticTypes := #[]
  resolved := Array.replicate 124 none
  statics := none }

def pool1 : Array CpInfo := pool [(2, .class_ 4), (1, u "java/lang/Object"), (0, u "<init>"), (0, u "()V"), (2, .integer 2147483647), (0, .methodref 11 12), (0, .class_ 13), (0, .nameAndType 14 15), (0, u "com/example/enact/enact/engine/MarkingCountedPinLaw"), (0, u "part"), (0, u "(I)J"), (0, .class_ 17), (0, u "com/example/enact/enact/engine/Marking"), (0, .methodref 16 19), (0, .nameAndType 5 20), (0, u "([I)V"), (0, .methodref 16 22), (0, .nameAndType 23 24), (0, u "counted"), (0, u "()J"), (2, u "law"), (0, u "(IIIII)Z")] 5

def k1m0 : Method := { name := "<init>", desc := "()V", sig := { parameters := [], returnType := none }, accessFlags := 1, code := none }
def k1c1 : Code := { maxStack := 4, maxLocals := 11, code := code, exceptionTable := #[], attributes := #[] }
def k1m1 : Method := { name := "law", desc := "(IIIII)Z", sig := { parameters := [.int, .int, .int, .int, .int], returnType := some .boolean }, accessFlags := 9, code := some k1c1 }
def k1c2 : Code := { maxStack := 2, maxLocals := 1, code := method_3_code, exceptionTable := #[], attributes := #[] }
def k1m2 : Method := { name := "part", desc := "(I)J", sig := { parameters := [.int], returnType := some .long }, accessFlags := 10, code := some k1c2 }
/-- com/example/enact/enact/engine/MarkingCountedPinLaw -/
def k1 : Class := { plain "com/example/enact/enact/engine/MarkingCountedPinLaw" (some 0) with
  accessFlags := 49
  interfaces := #[]
  cf := some (fileOf pool1 11 #[] #[{ accessFlags := 1, nameIndex := 5, descriptorIndex := 6, attributes := #[] }, { accessFlags := 9, nameIndex := 27, descriptorIndex := 28, attributes := #[] }, { accessFlags := 10, nameIndex := 14, descriptorIndex := 15, attributes := #[] }] 49 2 #[] #[])
  fields := #[]
  methods := #[k1m0, k1m1, k1m2]
  instanceTypes := #[]
  staticTypes := #[]
  resolved := Array.replicate 34 none
  statics := none }

def pool2 : Array CpInfo := pool [(3, .methodref 4 5), (0, .class_ 6), (0, .nameAndType 7 8), (0, u "java/lang/Object"), (0, u "<init>"), (0, u "()V"), (0, .fieldref 10 11), (0, .class_ 12), (0, .nameAndType 13 14), (0, u "com/example/enact/enact/engine/Marking"), (0, u "tokens"), (0, u "[I"), (85, .integer 2147483647), (2, u "([I)V"), (20, u "hash"), (0, u "I"), (4, u "ANY_NUMBER"), (16, u "counted"), (0, u "()J")] 15

def k2c0 : Code := { maxStack := 2, maxLocals := 2, code := prog_27_method_1_code, exceptionTable := #[], attributes := #[] }
def k2m0 : Method := { name := "<init>", desc := "([I)V", sig := { parameters := [(.array .int)], returnType := none }, accessFlags := 0, code := some k2c0 }
def k2c1 : Code := { maxStack := 4, maxLocals := 7, code := prog_27_method_11_code, exceptionTable := #[], attributes := #[] }
def k2m1 : Method := { name := "counted", desc := "()J", sig := { parameters := [], returnType := some .long }, accessFlags := 0, code := some k2c1 }
/-- com/example/enact/enact/engine/Marking -/
def k2 : Class := { plain "com/example/enact/enact/engine/Marking" (some 0) with
  accessFlags := 48
  interfaces := #[]
  cf := some (fileOf pool2 10 #[] #[{ accessFlags := 0, nameIndex := 7, descriptorIndex := 103, attributes := #[] }, { accessFlags := 0, nameIndex := 147, descriptorIndex := 148, attributes := #[] }] 48 4 #[] #[{ accessFlags := 24, nameIndex := 130, descriptorIndex := 125, attributes := #[] }, { accessFlags := 18, nameIndex := 13, descriptorIndex := 14, attributes := #[] }, { accessFlags := 2, nameIndex := 124, descriptorIndex := 125, attributes := #[] }])
  fields := #[{ name := "ANY_NUMBER", type := .int, accessFlags := 24, slot := 0, constantValue := 0 }, { name := "tokens", type := (.array .int), accessFlags := 18, slot := 0, constantValue := 0 }, { name := "hash", type := .int, accessFlags := 2, slot := 1, constantValue := 0 }]
  methods := #[k2m0, k2m1]
  instanceTypes := #[(.array .int), .int]
  staticTypes := #[.int]
  resolved := Array.replicate 164 none
  statics := none }

def pool3 : Array CpInfo := pool [(1, u "java/lang/Cloneable"), (0, .class_ 1), (0, u "java/lang/Object"), (0, .class_ 3)] 3

/-- java/lang/Cloneable -/
def k3 : Class := { plain "java/lang/Cloneable" (some 0) with
  accessFlags := 1537
  interfaces := #[]
  cf := some (fileOf pool3 2 #[] #[] 1537 4 #[] #[])
  fields := #[]
  methods := #[]
  instanceTypes := #[]
  staticTypes := #[]
  resolved := Array.replicate 8 none
  statics := none }

def pool4 : Array CpInfo := pool [(1, u "java/io/Serializable"), (0, .class_ 1), (0, u "java/lang/Object"), (0, .class_ 3)] 3

/-- java/io/Serializable -/
def k4 : Class := { plain "java/io/Serializable" (some 0) with
  accessFlags := 1537
  interfaces := #[]
  cf := some (fileOf pool4 2 #[] #[] 1537 4 #[] #[])
  fields := #[]
  methods := #[]
  instanceTypes := #[]
  staticTypes := #[]
  resolved := Array.replicate 8 none
  statics := none }

/-- the primitive byte -/
def k5 : Class := { plain "byte" none with kind := .primitive 'B', accessFlags := 0x411 }
/-- [B -/
def k6 : Class := { plain "[B" (some 0) with kind := .array 5 .byte, interfaces := #[3, 4], accessFlags := 1041 }

/-- the primitive int -/
def k7 : Class := { plain "int" none with kind := .primitive 'I', accessFlags := 0x411 }
/-- [I -/
def k8 : Class := { plain "[I" (some 0) with kind := .array 7 .int, interfaces := #[3, 4], accessFlags := 1041 }

def heap : Heap := #[]
def classes : Array Class := #[k0, k1, k2, k3, k4, k5, k6, k7, k8]
def interned : List (Array UInt16 × Addr) := []
def slotsUsed : Nat := 0
def theMethod : MethodId := ⟨1, 1⟩
def args0 : Array Value := #[.int 5, .int 3, .int 0, .int (-7), .int 2]
def aboutOver (below : List Frame) : State where
  vm := { classes := classes, interned := interned.toArray }
  heap := heap
  slotsUsed := slotsUsed
  threads := #[{ frames := .invoking theMethod args0 :: below }]
def below0 : List Frame := [.native { method := ⟨0, 0⟩, args := #[] }]
def about1 : State := aboutOver below0
def p0 : Program := .bare "" "" ""
def e0 : Env := launch0.env 0 0 0
theorem w_frames : about1.frames = Frame.invoking theMethod args0 :: below0 := rfl
set_option maxRecDepth 65536 in
theorem w_args : argsFit about1.vm theMethod args0 = true := by decide +kernel
set_option maxRecDepth 65536 in
theorem w_heap : heapFits about1 = true := by decide +kernel
set_option maxRecDepth 65536 in
theorem w_runnable : about1.curStatus? = some .runnable := by decide +kernel
set_option maxRecDepth 65536 in
theorem w_alone : about1.alone = true := by decide +kernel
set_option maxRecDepth 65536 in
theorem w_named : about1.methodNamed? x = some theMethod := by decide +kernel
set_option maxRecDepth 65536 in
theorem w_hears : about1.hears theMethod below0 = true := by decide +kernel
set_option maxRecDepth 65536 in
theorem w_ripe : about1.ripe theMethod args0 below0 = true := by decide +kernel
theorem w_running : about1.status = .running := rfl
set_option maxRecDepth 65536 in
theorem w_room : about1.hasRoom e0.platform room_1 = true :=
  launch0.hasRoom_least _ room_1 (by decide +kernel) (by decide +kernel) (by decide +kernel) (by decide +kernel) (by decide +kernel) (by decide +kernel)
theorem allAtoms_all (ts : List Jvm.Cond) (a : Array Jvm.Value) (st : Jvm.State) : (allAtoms ts).before a st = ts.all (fun c => c.before a st) := by
  induction ts with
  | nil => rfl
  | cons c t ih =>
    show (Jvm.Cond.and c (allAtoms t)).before a st = _
    rw [Jvm.Cond.before_and, ih, List.all_cons]
def words1 : List Jvm.Cond := Jvm.Cond.code x code maxLocals ret :: tables_1
/-- a 'code' word, met by the world's own term for the bytes: nothing is compared byte by byte -/
theorem code_word {y : MethodName} {bytes : ByteArray} {mx : Nat} {rt : Option FieldType} {a : Array Value} {s : State} {m : MethodId} {meth : Method} {c : Code} (h1 : s.methodNamed? y = some m) (h2 : s.vm.method? m = some meth) (h3 : meth.code = some c) (h4 : c.code = bytes)
    (h5 : (c.maxLocals == mx && c.exceptionTable.isEmpty && decide (c.maxStack ≤ mostOperands) && decide (meth.sig.returnType = rt) && !meth.locks && decide (parseMethodDescriptor y.desc = some meth.sig)) = true) : (Jvm.Cond.code y bytes mx rt).before a s = true := by
  simp only [Bool.and_eq_true, beq_iff_eq, Bool.not_eq_true', decide_eq_true_eq] at h5
  obtain ⟨⟨⟨⟨⟨g1, g2⟩, g3⟩, g4⟩, g5⟩, g6⟩ := h5
  simp [Cond.before, Cond.holds, Cond.value, h1, h2, h3, h4, g1, g2, g3, g4, g5, g6]
def isCode : Jvm.Cond → Bool
  | .code _ _ _ _ => true
  | _ => false
theorem all_split {L : List Jvm.Cond} {P : Jvm.Cond → Bool} (h1 : L.all (fun c => isCode c || P c) = true) (h2 : ∀ c ∈ L.filter isCode, P c = true) : L.all P = true := by
  refine List.all_eq_true.mpr fun c hc => ?_
  have h := List.all_eq_true.mp h1 c hc
  rcases Bool.eq_false_or_eq_true (isCode c) with hi | hi
  · exact h2 c (List.mem_filter.mpr ⟨hc, hi⟩)
  · simpa [hi] using h
set_option maxRecDepth 65536 in
theorem w_c0 : (Jvm.Cond.code x code maxLocals ret).before args0 about1 = true := code_word (m := ⟨1, 1⟩) (meth := k1m1) (c := k1c1) (by decide +kernel) rfl rfl rfl (by decide +kernel)
set_option maxRecDepth 65536 in
theorem w_c1 : (Jvm.Cond.code ({ cls := "com/example/enact/enact/engine/MarkingCountedPinLaw", name := "part", desc := "(I)J" } : Jvm.MethodName) method_3_code (1 : Nat) (Option.some Jvm.ClassFile.FieldType.long)).before args0 about1 = true := code_word (m := ⟨1, 2⟩) (meth := k1m2) (c := k1c2) (by decide +kernel) rfl rfl rfl (by decide +kernel)
set_option maxRecDepth 65536 in
theorem w_c2 : (Jvm.Cond.code ({ cls := "com/example/enact/enact/engine/Marking", name := "<init>", desc := "([I)V" } : Jvm.MethodName) prog_27_method_1_code (2 : Nat) (Option.none : Option Jvm.ClassFile.FieldType)).before args0 about1 = true := code_word (m := ⟨2, 0⟩) (meth := k2m0) (c := k2c0) (by decide +kernel) rfl rfl rfl (by decide +kernel)
set_option maxRecDepth 65536 in
theorem w_c3 : (Jvm.Cond.code ({ cls := "java/lang/Object", name := "<init>", desc := "()V" } : Jvm.MethodName) object_method_1_code (1 : Nat) (Option.none : Option Jvm.ClassFile.FieldType)).before args0 about1 = true := code_word (m := ⟨0, 0⟩) (meth := k0m0) (c := k0c0) (by decide +kernel) rfl rfl rfl (by decide +kernel)
set_option maxRecDepth 65536 in
theorem w_c4 : (Jvm.Cond.code ({ cls := "com/example/enact/enact/engine/Marking", name := "counted", desc := "()J" } : Jvm.MethodName) prog_27_method_11_code (7 : Nat) (Option.some Jvm.ClassFile.FieldType.long)).before args0 about1 = true := code_word (m := ⟨2, 1⟩) (meth := k2m1) (c := k2c1) (by decide +kernel) rfl rfl rfl (by decide +kernel)
def codes1 : List Jvm.Cond := [Jvm.Cond.code x code maxLocals ret, Jvm.Cond.code ({ cls := "com/example/enact/enact/engine/MarkingCountedPinLaw", name := "part", desc := "(I)J" } : Jvm.MethodName) method_3_code (1 : Nat) (Option.some Jvm.ClassFile.FieldType.long), Jvm.Cond.code ({ cls := "com/example/enact/enact/engine/Marking", name := "<init>", desc := "([I)V" } : Jvm.MethodName) prog_27_method_1_code (2 : Nat) (Option.none : Option Jvm.ClassFile.FieldType), Jvm.Cond.code ({ cls := "java/lang/Object", name := "<init>", desc := "()V" } : Jvm.MethodName) object_method_1_code (1 : Nat) (Option.none : Option Jvm.ClassFile.FieldType), Jvm.Cond.code ({ cls := "com/example/enact/enact/engine/Marking", name := "counted", desc := "()J" } : Jvm.MethodName) prog_27_method_11_code (7 : Nat) (Option.some Jvm.ClassFile.FieldType.long)]
set_option maxRecDepth 65536 in
theorem codes_eq : words1.filter isCode = codes1 := rfl
theorem w_codes : ∀ c ∈ words1.filter isCode, c.before args0 about1 = true := by
  rw [codes_eq]
  intro c hc
  simp only [codes1, List.mem_cons, List.not_mem_nil, or_false] at hc
  rcases hc with rfl | rfl | rfl | rfl | rfl
  · exact w_c0
  · exact w_c1
  · exact w_c2
  · exact w_c3
  · exact w_c4
set_option maxRecDepth 65536 in
theorem w_t1 : words1.all (fun c => isCode c || c.before args0 about1) = true := by decide +kernel
theorem w_tables : (allAtoms (Jvm.Cond.code x code maxLocals ret :: tables_1)).before args0 about1 = true := by
  rw [allAtoms_all]
  show words1.all (fun c => c.before args0 about1) = true
  refine all_split ?_ w_codes
  rw [w_t1]
set_option maxRecDepth 65536 in
theorem w_case : (Jvm.Cond.and given_1 narrow_1).before args0 about1 = true := by decide +kernel
theorem w_applies : (headSpec (Jvm.Cond.code x code maxLocals ret :: tables_1) room_1).applies x e0.platform about1 = true :=
  (Spec.applies_iff w_frames).mpr ⟨w_running, w_runnable, w_alone, w_named, w_hears, w_ripe, w_room, w_tables⟩
theorem atStart : AtStart classFile x code maxLocals ret World_1 tables_1 room_1 Calls_1 rest_1 Pre_1 launch0 p0 e0 about1 theMethod args0 below0 :=
  ⟨lists_1, trivial, launch0.admits_env _ _ _, launch0.least_env, fairChoices_fair.cas, fairChoices_fair.clock, w_frames, w_args, w_heap, w_applies, trivial, trivial, w_case⟩
end start1
theorem witness_1 : WitnessClaimed_1 := ⟨start1.p0, start1.e0, start1.about1, start1.theMethod, start1.args0, start1.below0, start1.atStart⟩
end Jvm.Pilot.@@N@@
