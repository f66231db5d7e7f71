import JvmDerived
import JvmDerived.Pilot.@@N@@Statement
import JvmDerived.Pilot.@@N@@Code
set_option linter.unusedVariables false
set_option linter.unusedSimpArgs false
namespace Jvm.RoadKit
open Sem ClassFile Op Lib Jvm.Stand Jvm.Free Jvm.LawKit
section New
variable {p : Program} {l : Launch} {e : Env} {R : Room} {s : State} {m : MethodId} {args : Array Value} {below : List Frame} {meth : Method} {c : Code} {T T' : State} {locs : List Loc} {cells slots cs sl : Nat} {Q : Option Value → Heap → List Loc → Prop}
/-- from T the run ends, and Q holds at the end -/
def Gl (p : Program) (e : Env) (below : List Frame) (s : State) (Q : Option Value → Heap → List Loc → Prop) (cs sl : Nat) (T : State) : Prop :=
  ∃ s₂ o, Steps p.tables e below T s₂ ∧ s₂.status = .running ∧ Ended s₂ below o ∧ ∃ v L, o = .returned v ∧ Q v s₂.heap L ∧ FrameEnd s o s₂ L cs sl
theorem Gl.st (k : ∀ t, Steps p.tables e below T' t → Steps p.tables e below T t) (h : Gl p e below s Q cs sl T') : Gl p e below s Q cs sl T := by
  obtain ⟨a, o, h1, r⟩ := h
  exact ⟨a, o, k _ h1, r⟩
theorem Gl.to (k : Steps p.tables e below T T') (h : Gl p e below s Q cs sl T') : Gl p e below s Q cs sl T := Gl.st (fun _ q => k.trans q) h
theorem Gl.fin (X : Stand p l e R s m args below meth c T locs cells slots) {v : Option Value} (hv : meth.sig.returnType = none → v = none) (hlk : meth.locks = false) (hQ : Q v T.heap locs) (hc : cells ≤ cs) (hs : slots ≤ sl) {S0 : State}
    (k : ∀ fs, (∀ (f : JFrame) (acts : List Action), f.method = m → f.locked = none → f.entered = [] → (doReturn e (T.setTop f) acts v).1 = T.setFrames fs) → Steps p.tables e below S0 (T.setFrames fs)) : Gl p e below s Q cs sl S0 := by
  obtain ⟨fs, hr, hrun, hended, hW, hsame⟩ := X.leave hv hlk
  exact ⟨_, _, k fs hr, hrun, hended, v, locs, rfl, hQ, ⟨_, rfl⟩, hW, hsame.mono hc hs⟩
theorem Gl.retN (X : Stand p l e R s m args below meth c T locs cells slots) (hx : p.tables.exec = Jvm.exec) (hlk : meth.locks = false) {pc : Nat} {Ls : Array Slot} {z : Int32} {t : FieldType} {rest : List Value} (hret : meth.sig.returnType = some t) (ht : t = .boolean ∨ t = .byte ∨ t = .char ∨ t = .short)
    (hd : decode c.code pc = .ok (.ireturn, 1)) (hQ : Q (some (.int (nar t z))) T.heap locs) (hc : cells ≤ cs) (hs : slots ≤ sl) : Gl p e below s Q cs sl (T.setTop (mkF m pc Ls (.int z :: rest))) :=
  Gl.fin X (fun h => by rw [hret] at h; cases h) hlk hQ hc hs fun _ hr => Jvm.RoadKit.retN X hx hret ht hd hr
theorem Gl.retI (X : Stand p l e R s m args below meth c T locs cells slots) (hx : p.tables.exec = Jvm.exec) (hlk : meth.locks = false) {pc : Nat} {Ls : Array Slot} {z : Int32} {rest : List Value} (hret : meth.sig.returnType = some .int)
    (hd : decode c.code pc = .ok (.ireturn, 1)) (hQ : Q (some (.int z)) T.heap locs) (hc : cells ≤ cs) (hs : slots ≤ sl) : Gl p e below s Q cs sl (T.setTop (mkF m pc Ls (.int z :: rest))) :=
  Gl.fin X (fun h => by rw [hret] at h; cases h) hlk hQ hc hs fun _ hr => retOut X hx hret rfl (Or.inl ⟨rfl, Or.inl rfl, z, rfl⟩) hd hr
theorem Gl.retJ (X : Stand p l e R s m args below meth c T locs cells slots) (hx : p.tables.exec = Jvm.exec) (hlk : meth.locks = false) {pc : Nat} {Ls : Array Slot} {z : Int64} {rest : List Value} (hret : meth.sig.returnType = some .long)
    (hd : decode c.code pc = .ok (.lreturn, 1)) (hQ : Q (some (.long z)) T.heap locs) (hc : cells ≤ cs) (hs : slots ≤ sl) : Gl p e below s Q cs sl (T.setTop (mkF m pc Ls (.long z :: rest))) :=
  Gl.fin X (fun h => by rw [hret] at h; cases h) hlk hQ hc hs fun _ hr => retOut X hx hret rfl (Or.inr (Or.inl ⟨rfl, rfl, z, rfl⟩)) hd hr
theorem Gl.retV (X : Stand p l e R s m args below meth c T locs cells slots) (hx : p.tables.exec = Jvm.exec) (hlk : meth.locks = false) {pc : Nat} {Ls : Array Slot} (hret : meth.sig.returnType = none)
    (hd : decode c.code pc = .ok (.return_, 1)) (hQ : Q none T.heap locs) (hc : cells ≤ cs) (hs : slots ≤ sl) : Gl p e below s Q cs sl (T.setTop (mkF m pc Ls [])) :=
  Gl.fin X (fun _ => rfl) hlk hQ hc hs fun _ hr => X.returnOut hx hret hd hr
/-- .. where String constants may have been interned -/
def GlW (p : Program) (e : Env) (below : List Frame) (s : State) (Q : Option Value → Heap → List Loc → Prop) (cs sl : Nat) (T : State) : Prop :=
  ∃ s₂ o, Steps p.tables e below T s₂ ∧ s₂.status = .running ∧ Ended s₂ below o ∧ ∃ v L, o = .returned v ∧ Q v s₂.heap L ∧ ReturnedEndW s o s₂ L cs sl
theorem GlW.st (k : ∀ t, Steps p.tables e below T' t → Steps p.tables e below T t) (h : GlW p e below s Q cs sl T') : GlW p e below s Q cs sl T := by
  obtain ⟨a, o, h1, r⟩ := h
  exact ⟨a, o, k _ h1, r⟩
theorem GlW.to (k : Steps p.tables e below T T') (h : GlW p e below s Q cs sl T') : GlW p e below s Q cs sl T := GlW.st (fun _ q => k.trans q) h
theorem GlW.retN {vm₁ : Vm} (X : Stand p l e R (s.setVm vm₁) m args below meth c T locs cells slots) (hx : p.tables.exec = Jvm.exec) {n : Nat} (hS : s.Since vm₁ n) (hn : n ≤ T.heap.size) (hlk : meth.locks = false) {pc : Nat} {Ls : Array Slot} {z : Int32} {t : FieldType} {rest : List Value} (hret : meth.sig.returnType = some t) (ht : t = .boolean ∨ t = .byte ∨ t = .char ∨ t = .short)
    (hd : decode c.code pc = .ok (.ireturn, 1)) (hQ : Q (some (.int (nar t z))) T.heap locs) (hc : cells ≤ cs) (hs : slots ≤ sl) : GlW p e below s Q cs sl (T.setTop (mkF m pc Ls (.int z :: rest))) := by
  obtain ⟨fs, hr, hrun, hended, h1, h2, h3, h4⟩ := X.leaveW hS hn (v := some (.int (nar t z))) (fun h => by rw [hret] at h; cases h) hlk
  exact ⟨_, _, Jvm.RoadKit.retN X hx hret ht hd hr, hrun, hended, _, locs, rfl, hQ, h1, h2, h3, h4.mono hc hs⟩
theorem lc_t {x y : Int64} (h : x < y) : ifCond.holds .lt (lcmpW x y) = true ∧ ifCond.holds .ge (lcmpW x y) = false ∧ ifCond.holds .gt (lcmpW y x) = true ∧ ifCond.holds .le (lcmpW y x) = false :=
  have a := tlt ((lw_lt x y).mpr h)
  have b := tlt ((lw_gt y x).mpr h)
  ⟨(if0 _ _).trans a.1, (if0 _ _).trans a.2.1, (if0 _ _).trans b.2.2.1, (if0 _ _).trans b.2.2.2⟩
theorem lc_f {x y : Int64} (h : ¬ x < y) : ifCond.holds .lt (lcmpW x y) = false ∧ ifCond.holds .ge (lcmpW x y) = true ∧ ifCond.holds .gt (lcmpW y x) = false ∧ ifCond.holds .le (lcmpW y x) = true :=
  have a := flt (fun q => h ((lw_lt x y).mp q))
  have b := flt (fun q => h ((lw_gt y x).mp q))
  ⟨(if0 _ _).trans a.1, (if0 _ _).trans a.2.1, (if0 _ _).trans b.2.2.1, (if0 _ _).trans b.2.2.2⟩
theorem le_t {x y : Int64} (h : x = y) : ifCond.holds .eq (lcmpW x y) = true ∧ ifCond.holds .ne (lcmpW x y) = false :=
  have a := teq ((lw_eq x y).mpr h)
  ⟨(if0 _ _).trans a.1, (if0 _ _).trans a.2⟩
theorem le_f {x y : Int64} (h : ¬ x = y) : ifCond.holds .eq (lcmpW x y) = false ∧ ifCond.holds .ne (lcmpW x y) = true :=
  have a := feq (fun q => h ((lw_eq x y).mp q))
  ⟨(if0 _ _).trans a.1, (if0 _ _).trans a.2⟩
end New
end Jvm.RoadKit
namespace Jvm.Pilot.@@N@@
open Jvm Jvm.ClassFile Sem Op Lib Jvm.Free Jvm.Stand Jvm.LawKit Jvm.RoadKit Bundle Jvm.Pilot.@@N@@.Jvm.D
def own_pick (p1 : Int32) (p2 : Int32) (p3 : Int32) : Int32 := (if ((p1 >>> (p2 &&& 31)) &&& (1 : Int32)) = (0 : Int32) then (p3 &&& (2147483647 : Int32)) else (0 : Int32))
theorem d1_0 : decode method_2_code 0 = .ok (.iload_n 2, 1) := by decide +kernel
theorem d1_1 : decode method_2_code 1 = .ok (.ldc 7, 2) := by decide +kernel
theorem d1_3 : decode method_2_code 3 = .ok (.iand, 1) := by decide +kernel
theorem d1_4 : decode method_2_code 4 = .ok (.istore_n 3, 1) := by decide +kernel
theorem d1_5 : decode method_2_code 5 = .ok (.iload_n 0, 1) := by decide +kernel
theorem d1_6 : decode method_2_code 6 = .ok (.iload_n 1, 1) := by decide +kernel
theorem d1_7 : decode method_2_code 7 = .ok (.ishr, 1) := by decide +kernel
theorem d1_8 : decode method_2_code 8 = .ok (.iconst 1, 1) := by decide +kernel
theorem d1_9 : decode method_2_code 9 = .ok (.iand, 1) := by decide +kernel
theorem d1_10 : decode method_2_code 10 = .ok (.ifCond .eq 5, 3) := by decide +kernel
theorem d1_13 : decode method_2_code 13 = .ok (.iconst 0, 1) := by decide +kernel
theorem d1_14 : decode method_2_code 14 = .ok (.istore_n 3, 1) := by decide +kernel
theorem d1_15 : decode method_2_code 15 = .ok (.iload_n 3, 1) := by decide +kernel
theorem d1_16 : decode method_2_code 16 = .ok (.ireturn, 1) := by decide +kernel
theorem pf_0 : plainFor (⟨"com/example/enact/enact/engine/MarkingIsEmptyPinLaw", "pick", "(III)I"⟩ : MethodName) = true := by decide +kernel
def Q1 (Z : State) (p1 : Int32) (p2 : Int32) (p3 : Int32) (h0 : Heap) (n0 : Nat) (v : Option Value) (h : Heap) (L : List Loc) : Prop := v = some (.int (own_pick p1 p2 p3)) ∧ Fr n0 L ∧ h = h0
theorem ef_1 (m : MethodId) (p1 : Int32) (p2 : Int32) (p3 : Int32) : entryFrame m #[(.int p1), (.int p2), (.int p3)] 4 = mkF m 0 #[.val (.int p1), .val (.int p2), .val (.int p3), .unset] [] := by first | (simp [entryFrame, mkF, argsToLocals, Value.category]; done) | rfl
set_option maxRecDepth 65536 in
set_option maxHeartbeats 40000000 in
theorem rm1 (l : Launch) (Z : State) (a0 : Array Value) (hw : ∀ d ∈ tables_1, d.before a0 Z = true) (ws : List Jvm.Cond) (p1 : Int32) (p2 : Int32) (p3 : Int32) (h0 : Heap) (n0 : Nat) :
    MetFree l (⟨"com/example/enact/enact/engine/MarkingIsEmptyPinLaw", "pick", "(III)I"⟩ : MethodName) (head1 (Jvm.Cond.code (⟨"com/example/enact/enact/engine/MarkingIsEmptyPinLaw", "pick", "(III)I"⟩ : MethodName) method_2_code 4 (some .int) :: ws) ({ frames := 0, cells := 0, slots := 0, locals := 0 } : Room)) (fun a U => a = #[(.int p1), (.int p2), (.int p3)] ∧ Z.Warmed39 U.vm ∧ U.heap = h0) (fun _ _ _ _ _ => True) (fun _ U o U' => ∃ v L, o = .returned v ∧ Q1 Z p1 p2 p3 h0 n0 v U'.heap L ∧ FrameEnd U o U' L ({ frames := 0, cells := 0, slots := 0, locals := 0 } : Room).cells ({ frames := 0, cells := 0, slots := 0, locals := 0 } : Room).slots) := by
  refine MetFree.of_bodySF pf_0 hisR ?_
  intro p e s m args below meth c s₁ Bd hml0 hP hK
  obtain ⟨rfl, hZ, hh⟩ := hP
  have hx := Bd.exec
  have hby := Bd.bytes
  have hlk : meth.locks = false := BodyLoose.notSynchronized Bd
  have hml : c.maxLocals = 4 := hml0
  have hown : s.vm.findClass "com/example/enact/enact/engine/MarkingIsEmptyPinLaw" = some m.cls := findClass_of_methodNamed Bd.named
  have hnm := (name_of_methodNamed Bd.named Bd.method).1
  have X0 : Stand p l e ({ frames := 0, cells := 0, slots := 0, locals := 0 } : Room) s m #[(.int p1), (.int p2), (.int p3)] below meth c s₁ [] 0 0 := Stand.of_body Bd
  have e0 : s₁.heap = h0 := by rw [← hh, Bd.state]; rfl
  have N0 := Fr.nil n0
  show Gl p e below s (Q1 Z p1 p2 p3 h0 n0) ({ frames := 0, cells := 0, slots := 0, locals := 0 } : Room).cells ({ frames := 0, cells := 0, slots := 0, locals := 0 } : Room).slots (s₁.setTop (entryFrame m #[(.int p1), (.int p2), (.int p3)] 4))
  rw [ef_1]
  show Gl _ _ _ _ _ _ _ (s₁.setTop (mkF m 0 #[.val (.int p1), .val (.int p2), .val (.int p3), .unset] []))
  refine Gl.st (fun t k => XS.iloadN X0.here hx rfl (hb hby d1_0) rfl  k) ?_
  show Gl _ _ _ _ _ _ _ (s₁.setTop (mkF m 1 #[.val (.int p1), .val (.int p2), .val (.int p3), .unset] [(.int p3)]))
  refine Gl.st (X0.ldcInt hx hown (mvT hZ (hw _ (List.mem_of_getElem? (i := 4) rfl))) (g := (mkF m 1 #[.val (.int p1), .val (.int p2), .val (.int p3), .unset] [(.int p3)])) rfl (hb hby d1_1)) ?_
  show Gl _ _ _ _ _ _ _ (s₁.setTop (mkF m 3 #[.val (.int p1), .val (.int p2), .val (.int p3), .unset] [(.int (2147483647 : Int32)), (.int p3)]))
  refine Gl.st (fun t k => XS.iand X0.here hx rfl (hb hby d1_3) rfl k) ?_
  show Gl _ _ _ _ _ _ _ (s₁.setTop (mkF m 4 #[.val (.int p1), .val (.int p2), .val (.int p3), .unset] [(.int (p3 &&& (2147483647 : Int32)))]))
  refine Gl.st (fun t k => XS.istoreN X0.here hx rfl (hb hby d1_4) rfl (l' := #[.val (.int p1), .val (.int p2), .val (.int p3), .val (.int (p3 &&& (2147483647 : Int32)))]) rfl k) ?_
  show Gl _ _ _ _ _ _ _ (s₁.setTop (mkF m 5 #[.val (.int p1), .val (.int p2), .val (.int p3), .val (.int (p3 &&& (2147483647 : Int32)))] []))
  refine Gl.st (fun t k => XS.iloadN X0.here hx rfl (hb hby d1_5) rfl  k) ?_
  show Gl _ _ _ _ _ _ _ (s₁.setTop (mkF m 6 #[.val (.int p1), .val (.int p2), .val (.int p3), .val (.int (p3 &&& (2147483647 : Int32)))] [(.int p1)]))
  refine Gl.st (fun t k => XS.iloadN X0.here hx rfl (hb hby d1_6) rfl  k) ?_
  show Gl _ _ _ _ _ _ _ (s₁.setTop (mkF m 7 #[.val (.int p1), .val (.int p2), .val (.int p3), .val (.int (p3 &&& (2147483647 : Int32)))] [(.int p2), (.int p1)]))
  refine Gl.st (fun t k => XS.ishr X0.here hx rfl (hb hby d1_7) rfl k) ?_
  show Gl _ _ _ _ _ _ _ (s₁.setTop (mkF m 8 #[.val (.int p1), .val (.int p2), .val (.int p3), .val (.int (p3 &&& (2147483647 : Int32)))] [(.int (p1 >>> (p2 &&& 31)))]))
  refine Gl.st (fun t k => XS.iconst X0.here hx rfl (hb hby d1_8) k) ?_
  show Gl _ _ _ _ _ _ _ (s₁.setTop (mkF m 9 #[.val (.int p1), .val (.int p2), .val (.int p3), .val (.int (p3 &&& (2147483647 : Int32)))] [(.int (1 : Int32)), (.int (p1 >>> (p2 &&& 31)))]))
  refine Gl.st (fun t k => XS.iand X0.here hx rfl (hb hby d1_9) rfl k) ?_
  show Gl _ _ _ _ _ _ _ (s₁.setTop (mkF m 10 #[.val (.int p1), .val (.int p2), .val (.int p3), .val (.int (p3 &&& (2147483647 : Int32)))] [(.int ((p1 >>> (p2 &&& 31)) &&& (1 : Int32)))]))
  by_cases hc10 : ((p1 >>> (p2 &&& 31)) &&& (1 : Int32)) = (0 : Int32)
  · refine Gl.st (fun t k => XS.ifYes X0.here hx rfl (pc0 := 10) (pc' := 15) rfl (hb hby d1_10) rfl ((if0 _ _).trans (teq hc10).1) (by decide) (by decide) k) ?_
    show Gl _ _ _ _ _ _ _ (s₁.setTop (mkF m 15 #[.val (.int p1), .val (.int p2), .val (.int p3), .val (.int (p3 &&& (2147483647 : Int32)))] []))
    refine Gl.st (fun t k => XS.iloadN X0.here hx rfl (hb hby d1_15) rfl  k) ?_
    show Gl _ _ _ _ _ _ _ (s₁.setTop (mkF m 16 #[.val (.int p1), .val (.int p2), .val (.int p3), .val (.int (p3 &&& (2147483647 : Int32)))] [(.int (p3 &&& (2147483647 : Int32)))]))
    exact Gl.retI X0 hx hlk Bd.returns (hb hby d1_16) (⟨congrArg (fun z => some (Value.int z)) (show (p3 &&& (2147483647 : Int32)) = own_pick p1 p2 p3 from by simp only [own_pick, if_pos hc10]), N0, e0⟩) (by decide) (by decide)
  · refine Gl.st (fun t k => XS.ifNo X0.here hx rfl (hb hby d1_10) rfl ((if0 _ _).trans (feq hc10).1) k) ?_
    show Gl _ _ _ _ _ _ _ (s₁.setTop (mkF m 13 #[.val (.int p1), .val (.int p2), .val (.int p3), .val (.int (p3 &&& (2147483647 : Int32)))] []))
    refine Gl.st (fun t k => XS.iconst X0.here hx rfl (hb hby d1_13) k) ?_
    show Gl _ _ _ _ _ _ _ (s₁.setTop (mkF m 14 #[.val (.int p1), .val (.int p2), .val (.int p3), .val (.int (p3 &&& (2147483647 : Int32)))] [(.int (0 : Int32))]))
    refine Gl.st (fun t k => XS.istoreN X0.here hx rfl (hb hby d1_14) rfl (l' := #[.val (.int p1), .val (.int p2), .val (.int p3), .val (.int (0 : Int32))]) rfl k) ?_
    show Gl _ _ _ _ _ _ _ (s₁.setTop (mkF m 15 #[.val (.int p1), .val (.int p2), .val (.int p3), .val (.int (0 : Int32))] []))
    refine Gl.st (fun t k => XS.iloadN X0.here hx rfl (hb hby d1_15) rfl  k) ?_
    show Gl _ _ _ _ _ _ _ (s₁.setTop (mkF m 16 #[.val (.int p1), .val (.int p2), .val (.int p3), .val (.int (0 : Int32))] [(.int (0 : Int32))]))
    exact Gl.retI X0 hx hlk Bd.returns (hb hby d1_16) (⟨congrArg (fun z => some (Value.int z)) (show (0 : Int32) = own_pick p1 p2 p3 from by simp only [own_pick, if_neg hc10]), N0, e0⟩) (by decide) (by decide)
theorem d2_0 : decode prog_27_method_1_code 0 = .ok (.aload_n 0, 1) := by decide +kernel
theorem d2_1 : decode prog_27_method_1_code 1 = .ok (.invokespecial 3, 3) := by decide +kernel
theorem d2_4 : decode prog_27_method_1_code 4 = .ok (.aload_n 0, 1) := by decide +kernel
theorem d2_5 : decode prog_27_method_1_code 5 = .ok (.aload_n 1, 1) := by decide +kernel
theorem d2_6 : decode prog_27_method_1_code 6 = .ok (.putfield 9, 3) := by decide +kernel
theorem d2_9 : decode prog_27_method_1_code 9 = .ok (.return_, 1) := by decide +kernel
theorem pf_1 : plainFor (⟨"com/example/enact/enact/engine/Marking", "<init>", "([I)V"⟩ : MethodName) = true := by decide +kernel
def Q2 (Z : State) (a1 : Addr) (a2 : Addr) (u_tokens : Value) (h0 : Heap) (n0 : Nat) (v : Option Value) (h : Heap) (L : List Loc) : Prop := v = none ∧ Fr n0 L ∧ Keep h0 h [a1] ∧ Exa Z h a1 "com/example/enact/enact/engine/Marking" ∧ Fld Z h a1 "com/example/enact/enact/engine/Marking" "tokens" "[I" (.ref a2)
theorem ef_2 (m : MethodId) (a1 : Addr) (a2 : Addr) : entryFrame m #[(.ref a1), (.ref a2)] 2 = mkF m 0 #[.val (.ref a1), .val (.ref a2)] [] := by first | (simp [entryFrame, mkF, argsToLocals, Value.category]; done) | rfl
set_option maxRecDepth 65536 in
set_option maxHeartbeats 40000000 in
theorem rm2 (l : Launch) (Z : State) (a0 : Array Value) (hw : ∀ d ∈ tables_1, d.before a0 Z = true) (ws : List Jvm.Cond) (a1 : Addr) (a2 : Addr) (u_tokens : Value) (h0 : Heap) (n0 : Nat) (Z0 : n0 ≤ h0.size) (E_a1 : Exa Z h0 a1 "com/example/enact/enact/engine/Marking") (F_tokens : Fld Z h0 a1 "com/example/enact/enact/engine/Marking" "tokens" "[I" u_tokens) (g_a1 : n0 ≤ a1) :
    MetFree l (⟨"com/example/enact/enact/engine/Marking", "<init>", "([I)V"⟩ : MethodName) (head1 (Jvm.Cond.code (⟨"com/example/enact/enact/engine/Marking", "<init>", "([I)V"⟩ : MethodName) prog_27_method_1_code 2 none :: ws) ({ frames := 1, cells := 0, slots := 0, locals := 12 } : Room)) (fun a U => a = #[(.ref a1), (.ref a2)] ∧ Z.Warmed39 U.vm ∧ U.heap = h0) (fun _ _ _ _ _ => True) (fun _ U o U' => ∃ v L, o = .returned v ∧ Q2 Z a1 a2 u_tokens h0 n0 v U'.heap L ∧ FrameEnd U o U' L ({ frames := 1, cells := 0, slots := 0, locals := 12 } : Room).cells ({ frames := 1, cells := 0, slots := 0, locals := 12 } : Room).slots) := by
  refine MetFree.of_bodySF pf_1 hisR ?_
  intro p e s m args below meth c s₁ Bd hml0 hP hK
  obtain ⟨rfl, hZ, hh⟩ := hP
  have hx := Bd.exec
  have hby := Bd.bytes
  have hlk : meth.locks = false := BodyLoose.notSynchronized Bd
  have hml : c.maxLocals = 2 := hml0
  have hown : s.vm.findClass "com/example/enact/enact/engine/Marking" = some m.cls := findClass_of_methodNamed Bd.named
  have hnm := (name_of_methodNamed Bd.named Bd.method).1
  have X0 : Stand p l e ({ frames := 1, cells := 0, slots := 0, locals := 12 } : Room) s m #[(.ref a1), (.ref a2)] below meth c s₁ [] 0 0 := Stand.of_body Bd
  have e0 : s₁.heap = h0 := by rw [← hh, Bd.state]; rfl
  have N0 := Fr.nil n0
  have K0 : Keep h0 h0 [a1] := Keep.refl h0 _
  show Gl p e below s (Q2 Z a1 a2 u_tokens h0 n0) ({ frames := 1, cells := 0, slots := 0, locals := 12 } : Room).cells ({ frames := 1, cells := 0, slots := 0, locals := 12 } : Room).slots (s₁.setTop (entryFrame m #[(.ref a1), (.ref a2)] 2))
  rw [ef_2]
  show Gl _ _ _ _ _ _ _ (s₁.setTop (mkF m 0 #[.val (.ref a1), .val (.ref a2)] []))
  refine Gl.st (fun t k => XS.aloadN X0.here hx rfl (hb hby d2_0) rfl rfl k) ?_
  show Gl _ _ _ _ _ _ _ (s₁.setTop (mkF m 1 #[.val (.ref a1), .val (.ref a2)] [(.ref a1)]))
  obtain ⟨T1, X1, e1, st1⟩ := initO X0 hx hZ hown (hw _ (List.mem_of_getElem? (i := 12) rfl)) (hw _ (List.mem_of_getElem? (i := 13) rfl)) (hw _ (List.mem_of_getElem? (i := 14) rfl)) e0 (g := (mkF m 1 #[.val (.ref a1), .val (.ref a2)] [(.ref a1)])) rfl (by rw [hml]; rfl) rfl (hb hby d2_1) (by decide) (W := 0) (by show 2 * 0 + _ ≤ _; exact Nat.le_of_eq rfl) (by decide)
  refine Gl.st st1 ?_
  show Gl _ _ _ _ _ _ _ (T1.setTop (mkF m 4 #[.val (.ref a1), .val (.ref a2)] []))
  refine Gl.st (fun t k => XS.aloadN X1.here hx rfl (hb hby d2_4) rfl rfl k) ?_
  show Gl _ _ _ _ _ _ _ (T1.setTop (mkF m 5 #[.val (.ref a1), .val (.ref a2)] [(.ref a1)]))
  refine Gl.st (fun t k => XS.aloadN X1.here hx rfl (hb hby d2_5) rfl rfl k) ?_
  show Gl _ _ _ _ _ _ _ (T1.setTop (mkF m 6 #[.val (.ref a1), .val (.ref a2)] [(.ref a2), (.ref a1)]))
  obtain ⟨T2, h2, X2, e2, W2, st2⟩ := putF X1 hx hZ hown (host := "") (Or.inl (hw _ (List.mem_of_getElem? (i := 15) rfl))) Via.refl e1 F_tokens E_a1 (Or.inr ⟨(hw _ (List.mem_of_getElem? (i := 16) rfl)), rfl, hnm⟩) (hw _ (List.mem_of_getElem? (i := 7) rfl)) (ty := (.array .int)) (by decide) rfl rfl (g := (mkF m 6 #[.val (.ref a1), .val (.ref a2)] [(.ref a2), (.ref a1)])) rfl rfl (hb hby d2_6)
  refine Gl.st st2 ?_
  have Z2 : n0 ≤ h2.size := Nat.le_trans Z0 (Keep.of_wr W2).1
  have N2 := Fr.snoc X2 N0 g_a1
  have K2 : Keep h0 h2 [a1] := K0.wr W2 (Or.inl (List.mem_of_getElem? (i := 0) rfl))
  have E_a1'3 : Exa Z h2 a1 "com/example/enact/enact/engine/Marking" := E_a1.wr W2
  have Fw2 : Fld Z h2 a1 "com/example/enact/enact/engine/Marking" "tokens" "[I" (.ref a2) := F_tokens.same W2
  show Gl _ _ _ _ _ _ _ (T2.setTop (mkF m 9 #[.val (.ref a1), .val (.ref a2)] []))
  exact Gl.retV X2 hx hlk Bd.returns (hb hby d2_9) (by
        rw [e2]
        exact ⟨rfl, N2, K2, E_a1'3, Fw2⟩) (by decide) (by decide)
def own_empty0 : Int32 := (nar .boolean (1 : Int32))
theorem d4_0 : decode prog_27_method_16_code 0 = .ok (.iconst 1, 1) := by decide +kernel
theorem d4_1 : decode prog_27_method_16_code 1 = .ok (.istore_n 1, 1) := by decide +kernel
theorem d4_2 : decode prog_27_method_16_code 2 = .ok (.iconst 0, 1) := by decide +kernel
theorem d4_3 : decode prog_27_method_16_code 3 = .ok (.istore_n 2, 1) := by decide +kernel
theorem d4_4 : decode prog_27_method_16_code 4 = .ok (.iload_n 2, 1) := by decide +kernel
theorem d4_5 : decode prog_27_method_16_code 5 = .ok (.aload_n 0, 1) := by decide +kernel
theorem d4_6 : decode prog_27_method_16_code 6 = .ok (.getfield 9, 3) := by decide +kernel
theorem d4_9 : decode prog_27_method_16_code 9 = .ok (.arraylength, 1) := by decide +kernel
theorem d4_10 : decode prog_27_method_16_code 10 = .ok (.if_icmp .ge 28, 3) := by decide +kernel
theorem d4_13 : decode prog_27_method_16_code 13 = .ok (.iload_n 1, 1) := by decide +kernel
theorem d4_14 : decode prog_27_method_16_code 14 = .ok (.ifCond .eq 24, 3) := by decide +kernel
theorem d4_17 : decode prog_27_method_16_code 17 = .ok (.aload_n 0, 1) := by decide +kernel
theorem d4_18 : decode prog_27_method_16_code 18 = .ok (.getfield 9, 3) := by decide +kernel
theorem d4_21 : decode prog_27_method_16_code 21 = .ok (.iload_n 2, 1) := by decide +kernel
theorem d4_22 : decode prog_27_method_16_code 22 = .ok (.iaload, 1) := by decide +kernel
theorem d4_23 : decode prog_27_method_16_code 23 = .ok (.ifCond .ne 7, 3) := by decide +kernel
theorem d4_26 : decode prog_27_method_16_code 26 = .ok (.iconst 1, 1) := by decide +kernel
theorem d4_27 : decode prog_27_method_16_code 27 = .ok (.goto 4, 3) := by decide +kernel
theorem d4_30 : decode prog_27_method_16_code 30 = .ok (.iconst 0, 1) := by decide +kernel
theorem d4_31 : decode prog_27_method_16_code 31 = .ok (.istore_n 1, 1) := by decide +kernel
theorem d4_32 : decode prog_27_method_16_code 32 = .ok (.iinc 2 1, 3) := by decide +kernel
theorem d4_35 : decode prog_27_method_16_code 35 = .ok (.goto (-31), 3) := by decide +kernel
theorem d4_38 : decode prog_27_method_16_code 38 = .ok (.iload_n 1, 1) := by decide +kernel
theorem d4_39 : decode prog_27_method_16_code 39 = .ok (.ireturn, 1) := by decide +kernel
theorem pf_2 : plainFor (⟨"com/example/enact/enact/engine/Marking", "isEmpty", "()Z"⟩ : MethodName) = true := by decide +kernel
def Q4v0 (Z : State) (a1 : Addr) (ca : Addr) (ck : ClassId) (h0 : Heap) (n0 : Nat) (v : Option Value) (h : Heap) (L : List Loc) : Prop := v = some (.int (own_empty0 )) ∧ Fr n0 L ∧ h = h0
theorem ef_4v0 (m : MethodId) (a1 : Addr) : entryFrame m #[(.ref a1)] 3 = mkF m 0 #[.val (.ref a1), .unset, .unset] [] := by first | (simp [entryFrame, mkF, argsToLocals, Value.category]; done) | rfl
set_option maxRecDepth 65536 in
set_option maxHeartbeats 40000000 in
theorem rm4v0 (l : Launch) (Z : State) (a0 : Array Value) (hw : ∀ d ∈ tables_1, d.before a0 Z = true) (ws : List Jvm.Cond) (a1 : Addr) (ca : Addr) (ck : ClassId) (h0 : Heap) (n0 : Nat) (Fc : Fld Z h0 a1 "com/example/enact/enact/engine/Marking" "tokens" "[I" (.ref ca)) (Vc : Arv Z h0 ca ck .int (0 : Int32) [] (.int (0 : Int32))) :
    MetFree l (⟨"com/example/enact/enact/engine/Marking", "isEmpty", "()Z"⟩ : MethodName) (head1 (Jvm.Cond.code (⟨"com/example/enact/enact/engine/Marking", "isEmpty", "()Z"⟩ : MethodName) prog_27_method_16_code 3 (some .boolean) :: ws) ({ frames := 0, cells := 0, slots := 0, locals := 0 } : Room)) (fun a U => a = #[(.ref a1)] ∧ Z.Warmed39 U.vm ∧ U.heap = h0) (fun _ _ _ _ _ => True) (fun _ U o U' => ∃ v L, o = .returned v ∧ Q4v0 Z a1 ca ck h0 n0 v U'.heap L ∧ FrameEnd U o U' L ({ frames := 0, cells := 0, slots := 0, locals := 0 } : Room).cells ({ frames := 0, cells := 0, slots := 0, locals := 0 } : Room).slots) := by
  refine MetFree.of_bodySF pf_2 hisR ?_
  intro p e s m args below meth c s₁ Bd hml0 hP hK
  obtain ⟨rfl, hZ, hh⟩ := hP
  have hx := Bd.exec
  have hby := Bd.bytes
  have hlk : meth.locks = false := BodyLoose.notSynchronized Bd
  have hml : c.maxLocals = 3 := hml0
  have hown : s.vm.findClass "com/example/enact/enact/engine/Marking" = some m.cls := findClass_of_methodNamed Bd.named
  have hnm := (name_of_methodNamed Bd.named Bd.method).1
  have X0 : Stand p l e ({ frames := 0, cells := 0, slots := 0, locals := 0 } : Room) s m #[(.ref a1)] below meth c s₁ [] 0 0 := Stand.of_body Bd
  have e0 : s₁.heap = h0 := by rw [← hh, Bd.state]; rfl
  have N0 := Fr.nil n0
  show Gl p e below s (Q4v0 Z a1 ca ck h0 n0) ({ frames := 0, cells := 0, slots := 0, locals := 0 } : Room).cells ({ frames := 0, cells := 0, slots := 0, locals := 0 } : Room).slots (s₁.setTop (entryFrame m #[(.ref a1)] 3))
  rw [ef_4v0]
  show Gl _ _ _ _ _ _ _ (s₁.setTop (mkF m 0 #[.val (.ref a1), .unset, .unset] []))
  refine Gl.st (fun t k => XS.iconst X0.here hx rfl (hb hby d4_0) k) ?_
  show Gl _ _ _ _ _ _ _ (s₁.setTop (mkF m 1 #[.val (.ref a1), .unset, .unset] [(.int (1 : Int32))]))
  refine Gl.st (fun t k => XS.istoreN X0.here hx rfl (hb hby d4_1) rfl (l' := #[.val (.ref a1), .val (.int (1 : Int32)), .unset]) rfl k) ?_
  show Gl _ _ _ _ _ _ _ (s₁.setTop (mkF m 2 #[.val (.ref a1), .val (.int (1 : Int32)), .unset] []))
  refine Gl.st (fun t k => XS.iconst X0.here hx rfl (hb hby d4_2) k) ?_
  show Gl _ _ _ _ _ _ _ (s₁.setTop (mkF m 3 #[.val (.ref a1), .val (.int (1 : Int32)), .unset] [(.int (0 : Int32))]))
  refine Gl.st (fun t k => XS.istoreN X0.here hx rfl (hb hby d4_3) rfl (l' := #[.val (.ref a1), .val (.int (1 : Int32)), .val (.int (0 : Int32))]) rfl k) ?_
  show Gl _ _ _ _ _ _ _ (s₁.setTop (mkF m 4 #[.val (.ref a1), .val (.int (1 : Int32)), .val (.int (0 : Int32))] []))
  refine Gl.st (fun t k => XS.iloadN X0.here hx rfl (hb hby d4_4) rfl  k) ?_
  show Gl _ _ _ _ _ _ _ (s₁.setTop (mkF m 5 #[.val (.ref a1), .val (.int (1 : Int32)), .val (.int (0 : Int32))] [(.int (0 : Int32))]))
  refine Gl.st (fun t k => XS.aloadN X0.here hx rfl (hb hby d4_5) rfl rfl k) ?_
  show Gl _ _ _ _ _ _ _ (s₁.setTop (mkF m 6 #[.val (.ref a1), .val (.int (1 : Int32)), .val (.int (0 : Int32))] [(.ref a1), (.int (0 : Int32))]))
  obtain ⟨T1, X1, e1, st1⟩ := getF X0 hx hZ hown (host := "") (Or.inl (hw _ (List.mem_of_getElem? (i := 15) rfl))) Via.refl e0 Fc (g := (mkF m 6 #[.val (.ref a1), .val (.int (1 : Int32)), .val (.int (0 : Int32))] [(.ref a1), (.int (0 : Int32))])) rfl rfl (hb hby d4_6)
  refine Gl.st st1 ?_
  show Gl _ _ _ _ _ _ _ (T1.setTop (mkF m 9 #[.val (.ref a1), .val (.int (1 : Int32)), .val (.int (0 : Int32))] [(.ref ca), (.int (0 : Int32))]))
  have Vx2 := Vc
  obtain ⟨cl2, Ar2, qk2, S2, M2, H2, G2⟩ := Vx2
  refine Gl.st (X1.arraylength hx (by rw [e1]; exact Ar2.1) (State.isArrayOf_alike hZ.alike Ar2.2.1) (g := (mkF m 9 #[.val (.ref a1), .val (.int (1 : Int32)), .val (.int (0 : Int32))] [(.ref ca), (.int (0 : Int32))])) rfl rfl (hb hby d4_9)) ?_
  rw [len_of S2 M2]
  show Gl _ _ _ _ _ _ _ (T1.setTop (mkF m 10 #[.val (.ref a1), .val (.int (1 : Int32)), .val (.int (0 : Int32))] [(.int (0 : Int32)), (.int (0 : Int32))]))
  refine Gl.st (fun t k => XS.icmpYes X1.here hx rfl (pc0 := 10) (pc' := 38) rfl (hb hby d4_10) rfl (flt (by decide : ¬ ((0 : Int32) < (0 : Int32)))).2.1 (by decide) (by decide) k) ?_
  show Gl _ _ _ _ _ _ _ (T1.setTop (mkF m 38 #[.val (.ref a1), .val (.int (1 : Int32)), .val (.int (0 : Int32))] []))
  refine Gl.st (fun t k => XS.iloadN X1.here hx rfl (hb hby d4_38) rfl  k) ?_
  show Gl _ _ _ _ _ _ _ (T1.setTop (mkF m 39 #[.val (.ref a1), .val (.int (1 : Int32)), .val (.int (0 : Int32))] [(.int (1 : Int32))]))
  exact Gl.retN X1 hx hlk Bd.returns (by simp) (hb hby d4_39) (⟨congrArg (fun z => some (Value.int z)) (show (nar .boolean (1 : Int32)) = (own_empty0 ) from by simp only [own_empty0]), N0, e1⟩) (by decide) (by decide)
def own_empty1 (w0 : Int32) : Int32 := (if w0 = (0 : Int32) then (nar .boolean (1 : Int32)) else (nar .boolean (0 : Int32)))
def Q4v1 (Z : State) (a1 : Addr) (ca : Addr) (ck : ClassId) (w0 : Int32) (h0 : Heap) (n0 : Nat) (v : Option Value) (h : Heap) (L : List Loc) : Prop := v = some (.int (own_empty1 w0)) ∧ Fr n0 L ∧ h = h0
theorem ef_4v1 (m : MethodId) (a1 : Addr) : entryFrame m #[(.ref a1)] 3 = mkF m 0 #[.val (.ref a1), .unset, .unset] [] := by first | (simp [entryFrame, mkF, argsToLocals, Value.category]; done) | rfl
set_option maxRecDepth 65536 in
set_option maxHeartbeats 40000000 in
theorem rm4v1 (l : Launch) (Z : State) (a0 : Array Value) (hw : ∀ d ∈ tables_1, d.before a0 Z = true) (ws : List Jvm.Cond) (a1 : Addr) (ca : Addr) (ck : ClassId) (w0 : Int32) (h0 : Heap) (n0 : Nat) (Fc : Fld Z h0 a1 "com/example/enact/enact/engine/Marking" "tokens" "[I" (.ref ca)) (Vc : Arv Z h0 ca ck .int (1 : Int32) [(.int w0)] (.int (0 : Int32))) :
    MetFree l (⟨"com/example/enact/enact/engine/Marking", "isEmpty", "()Z"⟩ : MethodName) (head1 (Jvm.Cond.code (⟨"com/example/enact/enact/engine/Marking", "isEmpty", "()Z"⟩ : MethodName) prog_27_method_16_code 3 (some .boolean) :: ws) ({ frames := 0, cells := 0, slots := 0, locals := 0 } : Room)) (fun a U => a = #[(.ref a1)] ∧ Z.Warmed39 U.vm ∧ U.heap = h0) (fun _ _ _ _ _ => True) (fun _ U o U' => ∃ v L, o = .returned v ∧ Q4v1 Z a1 ca ck w0 h0 n0 v U'.heap L ∧ FrameEnd U o U' L ({ frames := 0, cells := 0, slots := 0, locals := 0 } : Room).cells ({ frames := 0, cells := 0, slots := 0, locals := 0 } : Room).slots) := by
  refine MetFree.of_bodySF pf_2 hisR ?_
  intro p e s m args below meth c s₁ Bd hml0 hP hK
  obtain ⟨rfl, hZ, hh⟩ := hP
  have hx := Bd.exec
  have hby := Bd.bytes
  have hlk : meth.locks = false := BodyLoose.notSynchronized Bd
  have hml : c.maxLocals = 3 := hml0
  have hown : s.vm.findClass "com/example/enact/enact/engine/Marking" = some m.cls := findClass_of_methodNamed Bd.named
  have hnm := (name_of_methodNamed Bd.named Bd.method).1
  have X0 : Stand p l e ({ frames := 0, cells := 0, slots := 0, locals := 0 } : Room) s m #[(.ref a1)] below meth c s₁ [] 0 0 := Stand.of_body Bd
  have e0 : s₁.heap = h0 := by rw [← hh, Bd.state]; rfl
  have N0 := Fr.nil n0
  show Gl p e below s (Q4v1 Z a1 ca ck w0 h0 n0) ({ frames := 0, cells := 0, slots := 0, locals := 0 } : Room).cells ({ frames := 0, cells := 0, slots := 0, locals := 0 } : Room).slots (s₁.setTop (entryFrame m #[(.ref a1)] 3))
  rw [ef_4v1]
  show Gl _ _ _ _ _ _ _ (s₁.setTop (mkF m 0 #[.val (.ref a1), .unset, .unset] []))
  refine Gl.st (fun t k => XS.iconst X0.here hx rfl (hb hby d4_0) k) ?_
  show Gl _ _ _ _ _ _ _ (s₁.setTop (mkF m 1 #[.val (.ref a1), .unset, .unset] [(.int (1 : Int32))]))
  refine Gl.st (fun t k => XS.istoreN X0.here hx rfl (hb hby d4_1) rfl (l' := #[.val (.ref a1), .val (.int (1 : Int32)), .unset]) rfl k) ?_
  show Gl _ _ _ _ _ _ _ (s₁.setTop (mkF m 2 #[.val (.ref a1), .val (.int (1 : Int32)), .unset] []))
  refine Gl.st (fun t k => XS.iconst X0.here hx rfl (hb hby d4_2) k) ?_
  show Gl _ _ _ _ _ _ _ (s₁.setTop (mkF m 3 #[.val (.ref a1), .val (.int (1 : Int32)), .unset] [(.int (0 : Int32))]))
  refine Gl.st (fun t k => XS.istoreN X0.here hx rfl (hb hby d4_3) rfl (l' := #[.val (.ref a1), .val (.int (1 : Int32)), .val (.int (0 : Int32))]) rfl k) ?_
  show Gl _ _ _ _ _ _ _ (s₁.setTop (mkF m 4 #[.val (.ref a1), .val (.int (1 : Int32)), .val (.int (0 : Int32))] []))
  refine Gl.st (fun t k => XS.iloadN X0.here hx rfl (hb hby d4_4) rfl  k) ?_
  show Gl _ _ _ _ _ _ _ (s₁.setTop (mkF m 5 #[.val (.ref a1), .val (.int (1 : Int32)), .val (.int (0 : Int32))] [(.int (0 : Int32))]))
  refine Gl.st (fun t k => XS.aloadN X0.here hx rfl (hb hby d4_5) rfl rfl k) ?_
  show Gl _ _ _ _ _ _ _ (s₁.setTop (mkF m 6 #[.val (.ref a1), .val (.int (1 : Int32)), .val (.int (0 : Int32))] [(.ref a1), (.int (0 : Int32))]))
  obtain ⟨T1, X1, e1, st1⟩ := getF X0 hx hZ hown (host := "") (Or.inl (hw _ (List.mem_of_getElem? (i := 15) rfl))) Via.refl e0 Fc (g := (mkF m 6 #[.val (.ref a1), .val (.int (1 : Int32)), .val (.int (0 : Int32))] [(.ref a1), (.int (0 : Int32))])) rfl rfl (hb hby d4_6)
  refine Gl.st st1 ?_
  show Gl _ _ _ _ _ _ _ (T1.setTop (mkF m 9 #[.val (.ref a1), .val (.int (1 : Int32)), .val (.int (0 : Int32))] [(.ref ca), (.int (0 : Int32))]))
  have Vx2 := Vc
  obtain ⟨cl2, Ar2, qk2, S2, M2, H2, G2⟩ := Vx2
  refine Gl.st (X1.arraylength hx (by rw [e1]; exact Ar2.1) (State.isArrayOf_alike hZ.alike Ar2.2.1) (g := (mkF m 9 #[.val (.ref a1), .val (.int (1 : Int32)), .val (.int (0 : Int32))] [(.ref ca), (.int (0 : Int32))])) rfl rfl (hb hby d4_9)) ?_
  rw [len_of S2 M2]
  show Gl _ _ _ _ _ _ _ (T1.setTop (mkF m 10 #[.val (.ref a1), .val (.int (1 : Int32)), .val (.int (0 : Int32))] [(.int (1 : Int32)), (.int (0 : Int32))]))
  refine Gl.st (fun t k => XS.icmpNo X1.here hx rfl (hb hby d4_10) rfl (tlt (by decide : (0 : Int32) < (1 : Int32))).2.1 k) ?_
  show Gl _ _ _ _ _ _ _ (T1.setTop (mkF m 13 #[.val (.ref a1), .val (.int (1 : Int32)), .val (.int (0 : Int32))] []))
  refine Gl.st (fun t k => XS.iloadN X1.here hx rfl (hb hby d4_13) rfl  k) ?_
  show Gl _ _ _ _ _ _ _ (T1.setTop (mkF m 14 #[.val (.ref a1), .val (.int (1 : Int32)), .val (.int (0 : Int32))] [(.int (1 : Int32))]))
  refine Gl.st (fun t k => XS.ifNo X1.here hx rfl (hb hby d4_14) rfl ((if0 _ _).trans (feq (by decide : ¬ ((1 : Int32) = (0 : Int32)))).1) k) ?_
  show Gl _ _ _ _ _ _ _ (T1.setTop (mkF m 17 #[.val (.ref a1), .val (.int (1 : Int32)), .val (.int (0 : Int32))] []))
  refine Gl.st (fun t k => XS.aloadN X1.here hx rfl (hb hby d4_17) rfl rfl k) ?_
  show Gl _ _ _ _ _ _ _ (T1.setTop (mkF m 18 #[.val (.ref a1), .val (.int (1 : Int32)), .val (.int (0 : Int32))] [(.ref a1)]))
  obtain ⟨T3, X3, e3, st3⟩ := getF X1 hx hZ hown (host := "") (Or.inl (hw _ (List.mem_of_getElem? (i := 15) rfl))) Via.refl e1 Fc (g := (mkF m 18 #[.val (.ref a1), .val (.int (1 : Int32)), .val (.int (0 : Int32))] [(.ref a1)])) rfl rfl (hb hby d4_18)
  refine Gl.st st3 ?_
  show Gl _ _ _ _ _ _ _ (T3.setTop (mkF m 21 #[.val (.ref a1), .val (.int (1 : Int32)), .val (.int (0 : Int32))] [(.ref ca)]))
  refine Gl.st (fun t k => XS.iloadN X3.here hx rfl (hb hby d4_21) rfl  k) ?_
  show Gl _ _ _ _ _ _ _ (T3.setTop (mkF m 22 #[.val (.ref a1), .val (.int (1 : Int32)), .val (.int (0 : Int32))] [(.int (0 : Int32)), (.ref ca)]))
  have Vx4 := Vc
  obtain ⟨cl4, Ar4, qk4, S4, M4, H4, G4⟩ := Vx4
  have hin4 : ¬ ((0 : Int32) < 0 ∨ cl4.slots.size ≤ ((0 : Int32)).toNatClampNeg) := inb_of S4 ⟨by decide, by decide⟩
  have hat4 : cl4.slots[((0 : Int32)).toNatClampNeg]? = some (.int w0) := H4.at hin4 rfl
  refine Gl.st (X3.iaload hx (j := (0 : Int32)) (v := (.int w0)) (by rw [e3]; exact Ar4.1) (State.isArrayOf_alike hZ.alike Ar4.2.1) Ar4.2.2 hin4 hat4 (g := (mkF m 22 #[.val (.ref a1), .val (.int (1 : Int32)), .val (.int (0 : Int32))] [(.int (0 : Int32)), (.ref ca)])) rfl rfl (hb hby d4_22)) ?_
  show Gl _ _ _ _ _ _ _ (T3.setTop (mkF m 23 #[.val (.ref a1), .val (.int (1 : Int32)), .val (.int (0 : Int32))] [(.int w0)]))
  by_cases hc23 : w0 = (0 : Int32)
  · refine Gl.st (fun t k => XS.ifNo X3.here hx rfl (hb hby d4_23) rfl ((if0 _ _).trans (teq hc23).2) k) ?_
    show Gl _ _ _ _ _ _ _ (T3.setTop (mkF m 26 #[.val (.ref a1), .val (.int (1 : Int32)), .val (.int (0 : Int32))] []))
    refine Gl.st (fun t k => XS.iconst X3.here hx rfl (hb hby d4_26) k) ?_
    show Gl _ _ _ _ _ _ _ (T3.setTop (mkF m 27 #[.val (.ref a1), .val (.int (1 : Int32)), .val (.int (0 : Int32))] [(.int (1 : Int32))]))
    refine Gl.st (fun t k => XS.goto X3.here hx rfl (pc0 := 27) (pc' := 31) rfl (hb hby d4_27) (by decide) (by decide) k) ?_
    show Gl _ _ _ _ _ _ _ (T3.setTop (mkF m 31 #[.val (.ref a1), .val (.int (1 : Int32)), .val (.int (0 : Int32))] [(.int (1 : Int32))]))
    refine Gl.st (fun t k => XS.istoreN X3.here hx rfl (hb hby d4_31) rfl (l' := #[.val (.ref a1), .val (.int (1 : Int32)), .val (.int (0 : Int32))]) rfl k) ?_
    show Gl _ _ _ _ _ _ _ (T3.setTop (mkF m 32 #[.val (.ref a1), .val (.int (1 : Int32)), .val (.int (0 : Int32))] []))
    refine Gl.st (fun t k => XS.iinc X3.here hx rfl (hb hby d4_32) rfl (l' := #[.val (.ref a1), .val (.int (1 : Int32)), .val (.int (1 : Int32))]) rfl k) ?_
    show Gl _ _ _ _ _ _ _ (T3.setTop (mkF m 35 #[.val (.ref a1), .val (.int (1 : Int32)), .val (.int (1 : Int32))] []))
    refine Gl.st (fun t k => XS.goto X3.here hx rfl (pc0 := 35) (pc' := 4) rfl (hb hby d4_35) (by decide) (by decide) k) ?_
    show Gl _ _ _ _ _ _ _ (T3.setTop (mkF m 4 #[.val (.ref a1), .val (.int (1 : Int32)), .val (.int (1 : Int32))] []))
    refine Gl.st (fun t k => XS.iloadN X3.here hx rfl (hb hby d4_4) rfl  k) ?_
    show Gl _ _ _ _ _ _ _ (T3.setTop (mkF m 5 #[.val (.ref a1), .val (.int (1 : Int32)), .val (.int (1 : Int32))] [(.int (1 : Int32))]))
    refine Gl.st (fun t k => XS.aloadN X3.here hx rfl (hb hby d4_5) rfl rfl k) ?_
    show Gl _ _ _ _ _ _ _ (T3.setTop (mkF m 6 #[.val (.ref a1), .val (.int (1 : Int32)), .val (.int (1 : Int32))] [(.ref a1), (.int (1 : Int32))]))
    obtain ⟨T5, X5, e5, st5⟩ := getF X3 hx hZ hown (host := "") (Or.inl (hw _ (List.mem_of_getElem? (i := 15) rfl))) Via.refl e3 Fc (g := (mkF m 6 #[.val (.ref a1), .val (.int (1 : Int32)), .val (.int (1 : Int32))] [(.ref a1), (.int (1 : Int32))])) rfl rfl (hb hby d4_6)
    refine Gl.st st5 ?_
    show Gl _ _ _ _ _ _ _ (T5.setTop (mkF m 9 #[.val (.ref a1), .val (.int (1 : Int32)), .val (.int (1 : Int32))] [(.ref ca), (.int (1 : Int32))]))
    have Vx6 := Vc
    obtain ⟨cl6, Ar6, qk6, S6, M6, H6, G6⟩ := Vx6
    refine Gl.st (X5.arraylength hx (by rw [e5]; exact Ar6.1) (State.isArrayOf_alike hZ.alike Ar6.2.1) (g := (mkF m 9 #[.val (.ref a1), .val (.int (1 : Int32)), .val (.int (1 : Int32))] [(.ref ca), (.int (1 : Int32))])) rfl rfl (hb hby d4_9)) ?_
    rw [len_of S6 M6]
    show Gl _ _ _ _ _ _ _ (T5.setTop (mkF m 10 #[.val (.ref a1), .val (.int (1 : Int32)), .val (.int (1 : Int32))] [(.int (1 : Int32)), (.int (1 : Int32))]))
    refine Gl.st (fun t k => XS.icmpYes X5.here hx rfl (pc0 := 10) (pc' := 38) rfl (hb hby d4_10) rfl (flt (by decide : ¬ ((1 : Int32) < (1 : Int32)))).2.1 (by decide) (by decide) k) ?_
    show Gl _ _ _ _ _ _ _ (T5.setTop (mkF m 38 #[.val (.ref a1), .val (.int (1 : Int32)), .val (.int (1 : Int32))] []))
    refine Gl.st (fun t k => XS.iloadN X5.here hx rfl (hb hby d4_38) rfl  k) ?_
    show Gl _ _ _ _ _ _ _ (T5.setTop (mkF m 39 #[.val (.ref a1), .val (.int (1 : Int32)), .val (.int (1 : Int32))] [(.int (1 : Int32))]))
    exact Gl.retN X5 hx hlk Bd.returns (by simp) (hb hby d4_39) (⟨congrArg (fun z => some (Value.int z)) (show (nar .boolean (1 : Int32)) = (own_empty1 w0) from by simp only [own_empty1, if_pos hc23]), N0, e5⟩) (by decide) (by decide)
  · refine Gl.st (fun t k => XS.ifYes X3.here hx rfl (pc0 := 23) (pc' := 30) rfl (hb hby d4_23) rfl ((if0 _ _).trans (feq hc23).2) (by decide) (by decide) k) ?_
    show Gl _ _ _ _ _ _ _ (T3.setTop (mkF m 30 #[.val (.ref a1), .val (.int (1 : Int32)), .val (.int (0 : Int32))] []))
    refine Gl.st (fun t k => XS.iconst X3.here hx rfl (hb hby d4_30) k) ?_
    show Gl _ _ _ _ _ _ _ (T3.setTop (mkF m 31 #[.val (.ref a1), .val (.int (1 : Int32)), .val (.int (0 : Int32))] [(.int (0 : Int32))]))
    refine Gl.st (fun t k => XS.istoreN X3.here hx rfl (hb hby d4_31) rfl (l' := #[.val (.ref a1), .val (.int (0 : Int32)), .val (.int (0 : Int32))]) rfl k) ?_
    show Gl _ _ _ _ _ _ _ (T3.setTop (mkF m 32 #[.val (.ref a1), .val (.int (0 : Int32)), .val (.int (0 : Int32))] []))
    refine Gl.st (fun t k => XS.iinc X3.here hx rfl (hb hby d4_32) rfl (l' := #[.val (.ref a1), .val (.int (0 : Int32)), .val (.int (1 : Int32))]) rfl k) ?_
    show Gl _ _ _ _ _ _ _ (T3.setTop (mkF m 35 #[.val (.ref a1), .val (.int (0 : Int32)), .val (.int (1 : Int32))] []))
    refine Gl.st (fun t k => XS.goto X3.here hx rfl (pc0 := 35) (pc' := 4) rfl (hb hby d4_35) (by decide) (by decide) k) ?_
    show Gl _ _ _ _ _ _ _ (T3.setTop (mkF m 4 #[.val (.ref a1), .val (.int (0 : Int32)), .val (.int (1 : Int32))] []))
    refine Gl.st (fun t k => XS.iloadN X3.here hx rfl (hb hby d4_4) rfl  k) ?_
    show Gl _ _ _ _ _ _ _ (T3.setTop (mkF m 5 #[.val (.ref a1), .val (.int (0 : Int32)), .val (.int (1 : Int32))] [(.int (1 : Int32))]))
    refine Gl.st (fun t k => XS.aloadN X3.here hx rfl (hb hby d4_5) rfl rfl k) ?_
    show Gl _ _ _ _ _ _ _ (T3.setTop (mkF m 6 #[.val (.ref a1), .val (.int (0 : Int32)), .val (.int (1 : Int32))] [(.ref a1), (.int (1 : Int32))]))
    obtain ⟨T7, X7, e7, st7⟩ := getF X3 hx hZ hown (host := "") (Or.inl (hw _ (List.mem_of_getElem? (i := 15) rfl))) Via.refl e3 Fc (g := (mkF m 6 #[.val (.ref a1), .val (.int (0 : Int32)), .val (.int (1 : Int32))] [(.ref a1), (.int (1 : Int32))])) rfl rfl (hb hby d4_6)
    refine Gl.st st7 ?_
    show Gl _ _ _ _ _ _ _ (T7.setTop (mkF m 9 #[.val (.ref a1), .val (.int (0 : Int32)), .val (.int (1 : Int32))] [(.ref ca), (.int (1 : Int32))]))
    have Vx8 := Vc
    obtain ⟨cl8, Ar8, qk8, S8, M8, H8, G8⟩ := Vx8
    refine Gl.st (X7.arraylength hx (by rw [e7]; exact Ar8.1) (State.isArrayOf_alike hZ.alike Ar8.2.1) (g := (mkF m 9 #[.val (.ref a1), .val (.int (0 : Int32)), .val (.int (1 : Int32))] [(.ref ca), (.int (1 : Int32))])) rfl rfl (hb hby d4_9)) ?_
    rw [len_of S8 M8]
    show Gl _ _ _ _ _ _ _ (T7.setTop (mkF m 10 #[.val (.ref a1), .val (.int (0 : Int32)), .val (.int (1 : Int32))] [(.int (1 : Int32)), (.int (1 : Int32))]))
    refine Gl.st (fun t k => XS.icmpYes X7.here hx rfl (pc0 := 10) (pc' := 38) rfl (hb hby d4_10) rfl (flt (by decide : ¬ ((1 : Int32) < (1 : Int32)))).2.1 (by decide) (by decide) k) ?_
    show Gl _ _ _ _ _ _ _ (T7.setTop (mkF m 38 #[.val (.ref a1), .val (.int (0 : Int32)), .val (.int (1 : Int32))] []))
    refine Gl.st (fun t k => XS.iloadN X7.here hx rfl (hb hby d4_38) rfl  k) ?_
    show Gl _ _ _ _ _ _ _ (T7.setTop (mkF m 39 #[.val (.ref a1), .val (.int (0 : Int32)), .val (.int (1 : Int32))] [(.int (0 : Int32))]))
    exact Gl.retN X7 hx hlk Bd.returns (by simp) (hb hby d4_39) (⟨congrArg (fun z => some (Value.int z)) (show (nar .boolean (0 : Int32)) = (own_empty1 w0) from by simp only [own_empty1, if_neg hc23]), N0, e7⟩) (by decide) (by decide)
def own_empty2 (w0 : Int32) (w1 : Int32) : Int32 := (if w0 = (0 : Int32) then (if w1 = (0 : Int32) then (nar .boolean (1 : Int32)) else (nar .boolean (0 : Int32))) else (nar .boolean (0 : Int32)))
def Q4v2 (Z : State) (a1 : Addr) (ca : Addr) (ck : ClassId) (w0 : Int32) (w1 : Int32) (h0 : Heap) (n0 : Nat) (v : Option Value) (h : Heap) (L : List Loc) : Prop := v = some (.int (own_empty2 w0 w1)) ∧ Fr n0 L ∧ h = h0
theorem ef_4v2 (m : MethodId) (a1 : Addr) : entryFrame m #[(.ref a1)] 3 = mkF m 0 #[.val (.ref a1), .unset, .unset] [] := by first | (simp [entryFrame, mkF, argsToLocals, Value.category]; done) | rfl
set_option maxRecDepth 65536 in
set_option maxHeartbeats 40000000 in
theorem rm4v2 (l : Launch) (Z : State) (a0 : Array Value) (hw : ∀ d ∈ tables_1, d.before a0 Z = true) (ws : List Jvm.Cond) (a1 : Addr) (ca : Addr) (ck : ClassId) (w0 : Int32) (w1 : Int32) (h0 : Heap) (n0 : Nat) (Fc : Fld Z h0 a1 "com/example/enact/enact/engine/Marking" "tokens" "[I" (.ref ca)) (Vc : Arv Z h0 ca ck .int (2 : Int32) [(.int w0), (.int w1)] (.int (0 : Int32))) :
    MetFree l (⟨"com/example/enact/enact/engine/Marking", "isEmpty", "()Z"⟩ : MethodName) (head1 (Jvm.Cond.code (⟨"com/example/enact/enact/engine/Marking", "isEmpty", "()Z"⟩ : MethodName) prog_27_method_16_code 3 (some .boolean) :: ws) ({ frames := 0, cells := 0, slots := 0, locals := 0 } : Room)) (fun a U => a = #[(.ref a1)] ∧ Z.Warmed39 U.vm ∧ U.heap = h0) (fun _ _ _ _ _ => True) (fun _ U o U' => ∃ v L, o = .returned v ∧ Q4v2 Z a1 ca ck w0 w1 h0 n0 v U'.heap L ∧ FrameEnd U o U' L ({ frames := 0, cells := 0, slots := 0, locals := 0 } : Room).cells ({ frames := 0, cells := 0, slots := 0, locals := 0 } : Room).slots) := by
  refine MetFree.of_bodySF pf_2 hisR ?_
  intro p e s m args below meth c s₁ Bd hml0 hP hK
  obtain ⟨rfl, hZ, hh⟩ := hP
  have hx := Bd.exec
  have hby := Bd.bytes
  have hlk : meth.locks = false := BodyLoose.notSynchronized Bd
  have hml : c.maxLocals = 3 := hml0
  have hown : s.vm.findClass "com/example/enact/enact/engine/Marking" = some m.cls := findClass_of_methodNamed Bd.named
  have hnm := (name_of_methodNamed Bd.named Bd.method).1
  have X0 : Stand p l e ({ frames := 0, cells := 0, slots := 0, locals := 0 } : Room) s m #[(.ref a1)] below meth c s₁ [] 0 0 := Stand.of_body Bd
  have e0 : s₁.heap = h0 := by rw [← hh, Bd.state]; rfl
  have N0 := Fr.nil n0
  show Gl p e below s (Q4v2 Z a1 ca ck w0 w1 h0 n0) ({ frames := 0, cells := 0, slots := 0, locals := 0 } : Room).cells ({ frames := 0, cells := 0, slots := 0, locals := 0 } : Room).slots (s₁.setTop (entryFrame m #[(.ref a1)] 3))
  rw [ef_4v2]
  show Gl _ _ _ _ _ _ _ (s₁.setTop (mkF m 0 #[.val (.ref a1), .unset, .unset] []))
  refine Gl.st (fun t k => XS.iconst X0.here hx rfl (hb hby d4_0) k) ?_
  show Gl _ _ _ _ _ _ _ (s₁.setTop (mkF m 1 #[.val (.ref a1), .unset, .unset] [(.int (1 : Int32))]))
  refine Gl.st (fun t k => XS.istoreN X0.here hx rfl (hb hby d4_1) rfl (l' := #[.val (.ref a1), .val (.int (1 : Int32)), .unset]) rfl k) ?_
  show Gl _ _ _ _ _ _ _ (s₁.setTop (mkF m 2 #[.val (.ref a1), .val (.int (1 : Int32)), .unset] []))
  refine Gl.st (fun t k => XS.iconst X0.here hx rfl (hb hby d4_2) k) ?_
  show Gl _ _ _ _ _ _ _ (s₁.setTop (mkF m 3 #[.val (.ref a1), .val (.int (1 : Int32)), .unset] [(.int (0 : Int32))]))
  refine Gl.st (fun t k => XS.istoreN X0.here hx rfl (hb hby d4_3) rfl (l' := #[.val (.ref a1), .val (.int (1 : Int32)), .val (.int (0 : Int32))]) rfl k) ?_
  show Gl _ _ _ _ _ _ _ (s₁.setTop (mkF m 4 #[.val (.ref a1), .val (.int (1 : Int32)), .val (.int (0 : Int32))] []))
  refine Gl.st (fun t k => XS.iloadN X0.here hx rfl (hb hby d4_4) rfl  k) ?_
  show Gl _ _ _ _ _ _ _ (s₁.setTop (mkF m 5 #[.val (.ref a1), .val (.int (1 : Int32)), .val (.int (0 : Int32))] [(.int (0 : Int32))]))
  refine Gl.st (fun t k => XS.aloadN X0.here hx rfl (hb hby d4_5) rfl rfl k) ?_
  show Gl _ _ _ _ _ _ _ (s₁.setTop (mkF m 6 #[.val (.ref a1), .val (.int (1 : Int32)), .val (.int (0 : Int32))] [(.ref a1), (.int (0 : Int32))]))
  obtain ⟨T1, X1, e1, st1⟩ := getF X0 hx hZ hown (host := "") (Or.inl (hw _ (List.mem_of_getElem? (i := 15) rfl))) Via.refl e0 Fc (g := (mkF m 6 #[.val (.ref a1), .val (.int (1 : Int32)), .val (.int (0 : Int32))] [(.ref a1), (.int (0 : Int32))])) rfl rfl (hb hby d4_6)
  refine Gl.st st1 ?_
  show Gl _ _ _ _ _ _ _ (T1.setTop (mkF m 9 #[.val (.ref a1), .val (.int (1 : Int32)), .val (.int (0 : Int32))] [(.ref ca), (.int (0 : Int32))]))
  have Vx2 := Vc
  obtain ⟨cl2, Ar2, qk2, S2, M2, H2, G2⟩ := Vx2
  refine Gl.st (X1.arraylength hx (by rw [e1]; exact Ar2.1) (State.isArrayOf_alike hZ.alike Ar2.2.1) (g := (mkF m 9 #[.val (.ref a1), .val (.int (1 : Int32)), .val (.int (0 : Int32))] [(.ref ca), (.int (0 : Int32))])) rfl rfl (hb hby d4_9)) ?_
  rw [len_of S2 M2]
  show Gl _ _ _ _ _ _ _ (T1.setTop (mkF m 10 #[.val (.ref a1), .val (.int (1 : Int32)), .val (.int (0 : Int32))] [(.int (2 : Int32)), (.int (0 : Int32))]))
  refine Gl.st (fun t k => XS.icmpNo X1.here hx rfl (hb hby d4_10) rfl (tlt (by decide : (0 : Int32) < (2 : Int32))).2.1 k) ?_
  show Gl _ _ _ _ _ _ _ (T1.setTop (mkF m 13 #[.val (.ref a1), .val (.int (1 : Int32)), .val (.int (0 : Int32))] []))
  refine Gl.st (fun t k => XS.iloadN X1.here hx rfl (hb hby d4_13) rfl  k) ?_
  show Gl _ _ _ _ _ _ _ (T1.setTop (mkF m 14 #[.val (.ref a1), .val (.int (1 : Int32)), .val (.int (0 : Int32))] [(.int (1 : Int32))]))
  refine Gl.st (fun t k => XS.ifNo X1.here hx rfl (hb hby d4_14) rfl ((if0 _ _).trans (feq (by decide : ¬ ((1 : Int32) = (0 : Int32)))).1) k) ?_
  show Gl _ _ _ _ _ _ _ (T1.setTop (mkF m 17 #[.val (.ref a1), .val (.int (1 : Int32)), .val (.int (0 : Int32))] []))
  refine Gl.st (fun t k => XS.aloadN X1.here hx rfl (hb hby d4_17) rfl rfl k) ?_
  show Gl _ _ _ _ _ _ _ (T1.setTop (mkF m 18 #[.val (.ref a1), .val (.int (1 : Int32)), .val (.int (0 : Int32))] [(.ref a1)]))
  obtain ⟨T3, X3, e3, st3⟩ := getF X1 hx hZ hown (host := "") (Or.inl (hw _ (List.mem_of_getElem? (i := 15) rfl))) Via.refl e1 Fc (g := (mkF m 18 #[.val (.ref a1), .val (.int (1 : Int32)), .val (.int (0 : Int32))] [(.ref a1)])) rfl rfl (hb hby d4_18)
  refine Gl.st st3 ?_
  show Gl _ _ _ _ _ _ _ (T3.setTop (mkF m 21 #[.val (.ref a1), .val (.int (1 : Int32)), .val (.int (0 : Int32))] [(.ref ca)]))
  refine Gl.st (fun t k => XS.iloadN X3.here hx rfl (hb hby d4_21) rfl  k) ?_
  show Gl _ _ _ _ _ _ _ (T3.setTop (mkF m 22 #[.val (.ref a1), .val (.int (1 : Int32)), .val (.int (0 : Int32))] [(.int (0 : Int32)), (.ref ca)]))
  have Vx4 := Vc
  obtain ⟨cl4, Ar4, qk4, S4, M4, H4, G4⟩ := Vx4
  have hin4 : ¬ ((0 : Int32) < 0 ∨ cl4.slots.size ≤ ((0 : Int32)).toNatClampNeg) := inb_of S4 ⟨by decide, by decide⟩
  have hat4 : cl4.slots[((0 : Int32)).toNatClampNeg]? = some (.int w0) := H4.at hin4 rfl
  refine Gl.st (X3.iaload hx (j := (0 : Int32)) (v := (.int w0)) (by rw [e3]; exact Ar4.1) (State.isArrayOf_alike hZ.alike Ar4.2.1) Ar4.2.2 hin4 hat4 (g := (mkF m 22 #[.val (.ref a1), .val (.int (1 : Int32)), .val (.int (0 : Int32))] [(.int (0 : Int32)), (.ref ca)])) rfl rfl (hb hby d4_22)) ?_
  show Gl _ _ _ _ _ _ _ (T3.setTop (mkF m 23 #[.val (.ref a1), .val (.int (1 : Int32)), .val (.int (0 : Int32))] [(.int w0)]))
  by_cases hc23 : w0 = (0 : Int32)
  · refine Gl.st (fun t k => XS.ifNo X3.here hx rfl (hb hby d4_23) rfl ((if0 _ _).trans (teq hc23).2) k) ?_
    show Gl _ _ _ _ _ _ _ (T3.setTop (mkF m 26 #[.val (.ref a1), .val (.int (1 : Int32)), .val (.int (0 : Int32))] []))
    refine Gl.st (fun t k => XS.iconst X3.here hx rfl (hb hby d4_26) k) ?_
    show Gl _ _ _ _ _ _ _ (T3.setTop (mkF m 27 #[.val (.ref a1), .val (.int (1 : Int32)), .val (.int (0 : Int32))] [(.int (1 : Int32))]))
    refine Gl.st (fun t k => XS.goto X3.here hx rfl (pc0 := 27) (pc' := 31) rfl (hb hby d4_27) (by decide) (by decide) k) ?_
    show Gl _ _ _ _ _ _ _ (T3.setTop (mkF m 31 #[.val (.ref a1), .val (.int (1 : Int32)), .val (.int (0 : Int32))] [(.int (1 : Int32))]))
    refine Gl.st (fun t k => XS.istoreN X3.here hx rfl (hb hby d4_31) rfl (l' := #[.val (.ref a1), .val (.int (1 : Int32)), .val (.int (0 : Int32))]) rfl k) ?_
    show Gl _ _ _ _ _ _ _ (T3.setTop (mkF m 32 #[.val (.ref a1), .val (.int (1 : Int32)), .val (.int (0 : Int32))] []))
    refine Gl.st (fun t k => XS.iinc X3.here hx rfl (hb hby d4_32) rfl (l' := #[.val (.ref a1), .val (.int (1 : Int32)), .val (.int (1 : Int32))]) rfl k) ?_
    show Gl _ _ _ _ _ _ _ (T3.setTop (mkF m 35 #[.val (.ref a1), .val (.int (1 : Int32)), .val (.int (1 : Int32))] []))
    refine Gl.st (fun t k => XS.goto X3.here hx rfl (pc0 := 35) (pc' := 4) rfl (hb hby d4_35) (by decide) (by decide) k) ?_
    show Gl _ _ _ _ _ _ _ (T3.setTop (mkF m 4 #[.val (.ref a1), .val (.int (1 : Int32)), .val (.int (1 : Int32))] []))
    refine Gl.st (fun t k => XS.iloadN X3.here hx rfl (hb hby d4_4) rfl  k) ?_
    show Gl _ _ _ _ _ _ _ (T3.setTop (mkF m 5 #[.val (.ref a1), .val (.int (1 : Int32)), .val (.int (1 : Int32))] [(.int (1 : Int32))]))
    refine Gl.st (fun t k => XS.aloadN X3.here hx rfl (hb hby d4_5) rfl rfl k) ?_
    show Gl _ _ _ _ _ _ _ (T3.setTop (mkF m 6 #[.val (.ref a1), .val (.int (1 : Int32)), .val (.int (1 : Int32))] [(.ref a1), (.int (1 : Int32))]))
    obtain ⟨T5, X5, e5, st5⟩ := getF X3 hx hZ hown (host := "") (Or.inl (hw _ (List.mem_of_getElem? (i := 15) rfl))) Via.refl e3 Fc (g := (mkF m 6 #[.val (.ref a1), .val (.int (1 : Int32)), .val (.int (1 : Int32))] [(.ref a1), (.int (1 : Int32))])) rfl rfl (hb hby d4_6)
    refine Gl.st st5 ?_
    show Gl _ _ _ _ _ _ _ (T5.setTop (mkF m 9 #[.val (.ref a1), .val (.int (1 : Int32)), .val (.int (1 : Int32))] [(.ref ca), (.int (1 : Int32))]))
    have Vx6 := Vc
    obtain ⟨cl6, Ar6, qk6, S6, M6, H6, G6⟩ := Vx6
    refine Gl.st (X5.arraylength hx (by rw [e5]; exact Ar6.1) (State.isArrayOf_alike hZ.alike Ar6.2.1) (g := (mkF m 9 #[.val (.ref a1), .val (.int (1 : Int32)), .val (.int (1 : Int32))] [(.ref ca), (.int (1 : Int32))])) rfl rfl (hb hby d4_9)) ?_
    rw [len_of S6 M6]
    show Gl _ _ _ _ _ _ _ (T5.setTop (mkF m 10 #[.val (.ref a1), .val (.int (1 : Int32)), .val (.int (1 : Int32))] [(.int (2 : Int32)), (.int (1 : Int32))]))
    refine Gl.st (fun t k => XS.icmpNo X5.here hx rfl (hb hby d4_10) rfl (tlt (by decide : (1 : Int32) < (2 : Int32))).2.1 k) ?_
    show Gl _ _ _ _ _ _ _ (T5.setTop (mkF m 13 #[.val (.ref a1), .val (.int (1 : Int32)), .val (.int (1 : Int32))] []))
    refine Gl.st (fun t k => XS.iloadN X5.here hx rfl (hb hby d4_13) rfl  k) ?_
    show Gl _ _ _ _ _ _ _ (T5.setTop (mkF m 14 #[.val (.ref a1), .val (.int (1 : Int32)), .val (.int (1 : Int32))] [(.int (1 : Int32))]))
    refine Gl.st (fun t k => XS.ifNo X5.here hx rfl (hb hby d4_14) rfl ((if0 _ _).trans (feq (by decide : ¬ ((1 : Int32) = (0 : Int32)))).1) k) ?_
    show Gl _ _ _ _ _ _ _ (T5.setTop (mkF m 17 #[.val (.ref a1), .val (.int (1 : Int32)), .val (.int (1 : Int32))] []))
    refine Gl.st (fun t k => XS.aloadN X5.here hx rfl (hb hby d4_17) rfl rfl k) ?_
    show Gl _ _ _ _ _ _ _ (T5.setTop (mkF m 18 #[.val (.ref a1), .val (.int (1 : Int32)), .val (.int (1 : Int32))] [(.ref a1)]))
    obtain ⟨T7, X7, e7, st7⟩ := getF X5 hx hZ hown (host := "") (Or.inl (hw _ (List.mem_of_getElem? (i := 15) rfl))) Via.refl e5 Fc (g := (mkF m 18 #[.val (.ref a1), .val (.int (1 : Int32)), .val (.int (1 : Int32))] [(.ref a1)])) rfl rfl (hb hby d4_18)
    refine Gl.st st7 ?_
    show Gl _ _ _ _ _ _ _ (T7.setTop (mkF m 21 #[.val (.ref a1), .val (.int (1 : Int32)), .val (.int (1 : Int32))] [(.ref ca)]))
    refine Gl.st (fun t k => XS.iloadN X7.here hx rfl (hb hby d4_21) rfl  k) ?_
    show Gl _ _ _ _ _ _ _ (T7.setTop (mkF m 22 #[.val (.ref a1), .val (.int (1 : Int32)), .val (.int (1 : Int32))] [(.int (1 : Int32)), (.ref ca)]))
    have Vx8 := Vc
    obtain ⟨cl8, Ar8, qk8, S8, M8, H8, G8⟩ := Vx8
    have hin8 : ¬ ((1 : Int32) < 0 ∨ cl8.slots.size ≤ ((1 : Int32)).toNatClampNeg) := inb_of S8 ⟨by decide, by decide⟩
    have hat8 : cl8.slots[((1 : Int32)).toNatClampNeg]? = some (.int w1) := H8.at hin8 rfl
    refine Gl.st (X7.iaload hx (j := (1 : Int32)) (v := (.int w1)) (by rw [e7]; exact Ar8.1) (State.isArrayOf_alike hZ.alike Ar8.2.1) Ar8.2.2 hin8 hat8 (g := (mkF m 22 #[.val (.ref a1), .val (.int (1 : Int32)), .val (.int (1 : Int32))] [(.int (1 : Int32)), (.ref ca)])) rfl rfl (hb hby d4_22)) ?_
    show Gl _ _ _ _ _ _ _ (T7.setTop (mkF m 23 #[.val (.ref a1), .val (.int (1 : Int32)), .val (.int (1 : Int32))] [(.int w1)]))
    by_cases hc23_2 : w1 = (0 : Int32)
    · refine Gl.st (fun t k => XS.ifNo X7.here hx rfl (hb hby d4_23) rfl ((if0 _ _).trans (teq hc23_2).2) k) ?_
      show Gl _ _ _ _ _ _ _ (T7.setTop (mkF m 26 #[.val (.ref a1), .val (.int (1 : Int32)), .val (.int (1 : Int32))] []))
      refine Gl.st (fun t k => XS.iconst X7.here hx rfl (hb hby d4_26) k) ?_
      show Gl _ _ _ _ _ _ _ (T7.setTop (mkF m 27 #[.val (.ref a1), .val (.int (1 : Int32)), .val (.int (1 : Int32))] [(.int (1 : Int32))]))
      refine Gl.st (fun t k => XS.goto X7.here hx rfl (pc0 := 27) (pc' := 31) rfl (hb hby d4_27) (by decide) (by decide) k) ?_
      show Gl _ _ _ _ _ _ _ (T7.setTop (mkF m 31 #[.val (.ref a1), .val (.int (1 : Int32)), .val (.int (1 : Int32))] [(.int (1 : Int32))]))
      refine Gl.st (fun t k => XS.istoreN X7.here hx rfl (hb hby d4_31) rfl (l' := #[.val (.ref a1), .val (.int (1 : Int32)), .val (.int (1 : Int32))]) rfl k) ?_
      show Gl _ _ _ _ _ _ _ (T7.setTop (mkF m 32 #[.val (.ref a1), .val (.int (1 : Int32)), .val (.int (1 : Int32))] []))
      refine Gl.st (fun t k => XS.iinc X7.here hx rfl (hb hby d4_32) rfl (l' := #[.val (.ref a1), .val (.int (1 : Int32)), .val (.int (2 : Int32))]) rfl k) ?_
      show Gl _ _ _ _ _ _ _ (T7.setTop (mkF m 35 #[.val (.ref a1), .val (.int (1 : Int32)), .val (.int (2 : Int32))] []))
      refine Gl.st (fun t k => XS.goto X7.here hx rfl (pc0 := 35) (pc' := 4) rfl (hb hby d4_35) (by decide) (by decide) k) ?_
      show Gl _ _ _ _ _ _ _ (T7.setTop (mkF m 4 #[.val (.ref a1), .val (.int (1 : Int32)), .val (.int (2 : Int32))] []))
      refine Gl.st (fun t k => XS.iloadN X7.here hx rfl (hb hby d4_4) rfl  k) ?_
      show Gl _ _ _ _ _ _ _ (T7.setTop (mkF m 5 #[.val (.ref a1), .val (.int (1 : Int32)), .val (.int (2 : Int32))] [(.int (2 : Int32))]))
      refine Gl.st (fun t k => XS.aloadN X7.here hx rfl (hb hby d4_5) rfl rfl k) ?_
      show Gl _ _ _ _ _ _ _ (T7.setTop (mkF m 6 #[.val (.ref a1), .val (.int (1 : Int32)), .val (.int (2 : Int32))] [(.ref a1), (.int (2 : Int32))]))
      obtain ⟨T9, X9, e9, st9⟩ := getF X7 hx hZ hown (host := "") (Or.inl (hw _ (List.mem_of_getElem? (i := 15) rfl))) Via.refl e7 Fc (g := (mkF m 6 #[.val (.ref a1), .val (.int (1 : Int32)), .val (.int (2 : Int32))] [(.ref a1), (.int (2 : Int32))])) rfl rfl (hb hby d4_6)
      refine Gl.st st9 ?_
      show Gl _ _ _ _ _ _ _ (T9.setTop (mkF m 9 #[.val (.ref a1), .val (.int (1 : Int32)), .val (.int (2 : Int32))] [(.ref ca), (.int (2 : Int32))]))
      have Vx10 := Vc
      obtain ⟨cl10, Ar10, qk10, S10, M10, H10, G10⟩ := Vx10
      refine Gl.st (X9.arraylength hx (by rw [e9]; exact Ar10.1) (State.isArrayOf_alike hZ.alike Ar10.2.1) (g := (mkF m 9 #[.val (.ref a1), .val (.int (1 : Int32)), .val (.int (2 : Int32))] [(.ref ca), (.int (2 : Int32))])) rfl rfl (hb hby d4_9)) ?_
      rw [len_of S10 M10]
      show Gl _ _ _ _ _ _ _ (T9.setTop (mkF m 10 #[.val (.ref a1), .val (.int (1 : Int32)), .val (.int (2 : Int32))] [(.int (2 : Int32)), (.int (2 : Int32))]))
      refine Gl.st (fun t k => XS.icmpYes X9.here hx rfl (pc0 := 10) (pc' := 38) rfl (hb hby d4_10) rfl (flt (by decide : ¬ ((2 : Int32) < (2 : Int32)))).2.1 (by decide) (by decide) k) ?_
      show Gl _ _ _ _ _ _ _ (T9.setTop (mkF m 38 #[.val (.ref a1), .val (.int (1 : Int32)), .val (.int (2 : Int32))] []))
      refine Gl.st (fun t k => XS.iloadN X9.here hx rfl (hb hby d4_38) rfl  k) ?_
      show Gl _ _ _ _ _ _ _ (T9.setTop (mkF m 39 #[.val (.ref a1), .val (.int (1 : Int32)), .val (.int (2 : Int32))] [(.int (1 : Int32))]))
      exact Gl.retN X9 hx hlk Bd.returns (by simp) (hb hby d4_39) (⟨congrArg (fun z => some (Value.int z)) (show (nar .boolean (1 : Int32)) = (own_empty2 w0 w1) from by simp only [own_empty2, if_pos hc23, if_pos hc23_2]), N0, e9⟩) (by decide) (by decide)
    · refine Gl.st (fun t k => XS.ifYes X7.here hx rfl (pc0 := 23) (pc' := 30) rfl (hb hby d4_23) rfl ((if0 _ _).trans (feq hc23_2).2) (by decide) (by decide) k) ?_
      show Gl _ _ _ _ _ _ _ (T7.setTop (mkF m 30 #[.val (.ref a1), .val (.int (1 : Int32)), .val (.int (1 : Int32))] []))
      refine Gl.st (fun t k => XS.iconst X7.here hx rfl (hb hby d4_30) k) ?_
      show Gl _ _ _ _ _ _ _ (T7.setTop (mkF m 31 #[.val (.ref a1), .val (.int (1 : Int32)), .val (.int (1 : Int32))] [(.int (0 : Int32))]))
      refine Gl.st (fun t k => XS.istoreN X7.here hx rfl (hb hby d4_31) rfl (l' := #[.val (.ref a1), .val (.int (0 : Int32)), .val (.int (1 : Int32))]) rfl k) ?_
      show Gl _ _ _ _ _ _ _ (T7.setTop (mkF m 32 #[.val (.ref a1), .val (.int (0 : Int32)), .val (.int (1 : Int32))] []))
      refine Gl.st (fun t k => XS.iinc X7.here hx rfl (hb hby d4_32) rfl (l' := #[.val (.ref a1), .val (.int (0 : Int32)), .val (.int (2 : Int32))]) rfl k) ?_
      show Gl _ _ _ _ _ _ _ (T7.setTop (mkF m 35 #[.val (.ref a1), .val (.int (0 : Int32)), .val (.int (2 : Int32))] []))
      refine Gl.st (fun t k => XS.goto X7.here hx rfl (pc0 := 35) (pc' := 4) rfl (hb hby d4_35) (by decide) (by decide) k) ?_
      show Gl _ _ _ _ _ _ _ (T7.setTop (mkF m 4 #[.val (.ref a1), .val (.int (0 : Int32)), .val (.int (2 : Int32))] []))
      refine Gl.st (fun t k => XS.iloadN X7.here hx rfl (hb hby d4_4) rfl  k) ?_
      show Gl _ _ _ _ _ _ _ (T7.setTop (mkF m 5 #[.val (.ref a1), .val (.int (0 : Int32)), .val (.int (2 : Int32))] [(.int (2 : Int32))]))
      refine Gl.st (fun t k => XS.aloadN X7.here hx rfl (hb hby d4_5) rfl rfl k) ?_
      show Gl _ _ _ _ _ _ _ (T7.setTop (mkF m 6 #[.val (.ref a1), .val (.int (0 : Int32)), .val (.int (2 : Int32))] [(.ref a1), (.int (2 : Int32))]))
      obtain ⟨T11, X11, e11, st11⟩ := getF X7 hx hZ hown (host := "") (Or.inl (hw _ (List.mem_of_getElem? (i := 15) rfl))) Via.refl e7 Fc (g := (mkF m 6 #[.val (.ref a1), .val (.int (0 : Int32)), .val (.int (2 : Int32))] [(.ref a1), (.int (2 : Int32))])) rfl rfl (hb hby d4_6)
      refine Gl.st st11 ?_
      show Gl _ _ _ _ _ _ _ (T11.setTop (mkF m 9 #[.val (.ref a1), .val (.int (0 : Int32)), .val (.int (2 : Int32))] [(.ref ca), (.int (2 : Int32))]))
      have Vx12 := Vc
      obtain ⟨cl12, Ar12, qk12, S12, M12, H12, G12⟩ := Vx12
      refine Gl.st (X11.arraylength hx (by rw [e11]; exact Ar12.1) (State.isArrayOf_alike hZ.alike Ar12.2.1) (g := (mkF m 9 #[.val (.ref a1), .val (.int (0 : Int32)), .val (.int (2 : Int32))] [(.ref ca), (.int (2 : Int32))])) rfl rfl (hb hby d4_9)) ?_
      rw [len_of S12 M12]
      show Gl _ _ _ _ _ _ _ (T11.setTop (mkF m 10 #[.val (.ref a1), .val (.int (0 : Int32)), .val (.int (2 : Int32))] [(.int (2 : Int32)), (.int (2 : Int32))]))
      refine Gl.st (fun t k => XS.icmpYes X11.here hx rfl (pc0 := 10) (pc' := 38) rfl (hb hby d4_10) rfl (flt (by decide : ¬ ((2 : Int32) < (2 : Int32)))).2.1 (by decide) (by decide) k) ?_
      show Gl _ _ _ _ _ _ _ (T11.setTop (mkF m 38 #[.val (.ref a1), .val (.int (0 : Int32)), .val (.int (2 : Int32))] []))
      refine Gl.st (fun t k => XS.iloadN X11.here hx rfl (hb hby d4_38) rfl  k) ?_
      show Gl _ _ _ _ _ _ _ (T11.setTop (mkF m 39 #[.val (.ref a1), .val (.int (0 : Int32)), .val (.int (2 : Int32))] [(.int (0 : Int32))]))
      exact Gl.retN X11 hx hlk Bd.returns (by simp) (hb hby d4_39) (⟨congrArg (fun z => some (Value.int z)) (show (nar .boolean (0 : Int32)) = (own_empty2 w0 w1) from by simp only [own_empty2, if_pos hc23, if_neg hc23_2]), N0, e11⟩) (by decide) (by decide)
  · refine Gl.st (fun t k => XS.ifYes X3.here hx rfl (pc0 := 23) (pc' := 30) rfl (hb hby d4_23) rfl ((if0 _ _).trans (feq hc23).2) (by decide) (by decide) k) ?_
    show Gl _ _ _ _ _ _ _ (T3.setTop (mkF m 30 #[.val (.ref a1), .val (.int (1 : Int32)), .val (.int (0 : Int32))] []))
    refine Gl.st (fun t k => XS.iconst X3.here hx rfl (hb hby d4_30) k) ?_
    show Gl _ _ _ _ _ _ _ (T3.setTop (mkF m 31 #[.val (.ref a1), .val (.int (1 : Int32)), .val (.int (0 : Int32))] [(.int (0 : Int32))]))
    refine Gl.st (fun t k => XS.istoreN X3.here hx rfl (hb hby d4_31) rfl (l' := #[.val (.ref a1), .val (.int (0 : Int32)), .val (.int (0 : Int32))]) rfl k) ?_
    show Gl _ _ _ _ _ _ _ (T3.setTop (mkF m 32 #[.val (.ref a1), .val (.int (0 : Int32)), .val (.int (0 : Int32))] []))
    refine Gl.st (fun t k => XS.iinc X3.here hx rfl (hb hby d4_32) rfl (l' := #[.val (.ref a1), .val (.int (0 : Int32)), .val (.int (1 : Int32))]) rfl k) ?_
    show Gl _ _ _ _ _ _ _ (T3.setTop (mkF m 35 #[.val (.ref a1), .val (.int (0 : Int32)), .val (.int (1 : Int32))] []))
    refine Gl.st (fun t k => XS.goto X3.here hx rfl (pc0 := 35) (pc' := 4) rfl (hb hby d4_35) (by decide) (by decide) k) ?_
    show Gl _ _ _ _ _ _ _ (T3.setTop (mkF m 4 #[.val (.ref a1), .val (.int (0 : Int32)), .val (.int (1 : Int32))] []))
    refine Gl.st (fun t k => XS.iloadN X3.here hx rfl (hb hby d4_4) rfl  k) ?_
    show Gl _ _ _ _ _ _ _ (T3.setTop (mkF m 5 #[.val (.ref a1), .val (.int (0 : Int32)), .val (.int (1 : Int32))] [(.int (1 : Int32))]))
    refine Gl.st (fun t k => XS.aloadN X3.here hx rfl (hb hby d4_5) rfl rfl k) ?_
    show Gl _ _ _ _ _ _ _ (T3.setTop (mkF m 6 #[.val (.ref a1), .val (.int (0 : Int32)), .val (.int (1 : Int32))] [(.ref a1), (.int (1 : Int32))]))
    obtain ⟨T13, X13, e13, st13⟩ := getF X3 hx hZ hown (host := "") (Or.inl (hw _ (List.mem_of_getElem? (i := 15) rfl))) Via.refl e3 Fc (g := (mkF m 6 #[.val (.ref a1), .val (.int (0 : Int32)), .val (.int (1 : Int32))] [(.ref a1), (.int (1 : Int32))])) rfl rfl (hb hby d4_6)
    refine Gl.st st13 ?_
    show Gl _ _ _ _ _ _ _ (T13.setTop (mkF m 9 #[.val (.ref a1), .val (.int (0 : Int32)), .val (.int (1 : Int32))] [(.ref ca), (.int (1 : Int32))]))
    have Vx14 := Vc
    obtain ⟨cl14, Ar14, qk14, S14, M14, H14, G14⟩ := Vx14
    refine Gl.st (X13.arraylength hx (by rw [e13]; exact Ar14.1) (State.isArrayOf_alike hZ.alike Ar14.2.1) (g := (mkF m 9 #[.val (.ref a1), .val (.int (0 : Int32)), .val (.int (1 : Int32))] [(.ref ca), (.int (1 : Int32))])) rfl rfl (hb hby d4_9)) ?_
    rw [len_of S14 M14]
    show Gl _ _ _ _ _ _ _ (T13.setTop (mkF m 10 #[.val (.ref a1), .val (.int (0 : Int32)), .val (.int (1 : Int32))] [(.int (2 : Int32)), (.int (1 : Int32))]))
    refine Gl.st (fun t k => XS.icmpNo X13.here hx rfl (hb hby d4_10) rfl (tlt (by decide : (1 : Int32) < (2 : Int32))).2.1 k) ?_
    show Gl _ _ _ _ _ _ _ (T13.setTop (mkF m 13 #[.val (.ref a1), .val (.int (0 : Int32)), .val (.int (1 : Int32))] []))
    refine Gl.st (fun t k => XS.iloadN X13.here hx rfl (hb hby d4_13) rfl  k) ?_
    show Gl _ _ _ _ _ _ _ (T13.setTop (mkF m 14 #[.val (.ref a1), .val (.int (0 : Int32)), .val (.int (1 : Int32))] [(.int (0 : Int32))]))
    refine Gl.st (fun t k => XS.ifYes X13.here hx rfl (pc0 := 14) (pc' := 38) rfl (hb hby d4_14) rfl ((if0 _ _).trans (teq (rfl : (0 : Int32) = (0 : Int32))).1) (by decide) (by decide) k) ?_
    show Gl _ _ _ _ _ _ _ (T13.setTop (mkF m 38 #[.val (.ref a1), .val (.int (0 : Int32)), .val (.int (1 : Int32))] []))
    refine Gl.st (fun t k => XS.iloadN X13.here hx rfl (hb hby d4_38) rfl  k) ?_
    show Gl _ _ _ _ _ _ _ (T13.setTop (mkF m 39 #[.val (.ref a1), .val (.int (0 : Int32)), .val (.int (1 : Int32))] [(.int (0 : Int32))]))
    exact Gl.retN X13 hx hlk Bd.returns (by simp) (hb hby d4_39) (⟨congrArg (fun z => some (Value.int z)) (show (nar .boolean (0 : Int32)) = (own_empty2 w0 w1) from by simp only [own_empty2, if_neg hc23]), N0, e13⟩) (by decide) (by decide)
def own_empty3 (w0 : Int32) (w1 : Int32) (w2 : Int32) : Int32 := (if w0 = (0 : Int32) then (if w1 = (0 : Int32) then (if w2 = (0 : Int32) then (nar .boolean (1 : Int32)) else (nar .boolean (0 : Int32))) else (nar .boolean (0 : Int32))) else (nar .boolean (0 : Int32)))
def Q4v3 (Z : State) (a1 : Addr) (ca : Addr) (ck : ClassId) (w0 : Int32) (w1 : Int32) (w2 : Int32) (h0 : Heap) (n0 : Nat) (v : Option Value) (h : Heap) (L : List Loc) : Prop := v = some (.int (own_empty3 w0 w1 w2)) ∧ Fr n0 L ∧ h = h0
theorem ef_4v3 (m : MethodId) (a1 : Addr) : entryFrame m #[(.ref a1)] 3 = mkF m 0 #[.val (.ref a1), .unset, .unset] [] := by first | (simp [entryFrame, mkF, argsToLocals, Value.category]; done) | rfl
set_option maxRecDepth 65536 in
set_option maxHeartbeats 40000000 in
theorem rm4v3 (l : Launch) (Z : State) (a0 : Array Value) (hw : ∀ d ∈ tables_1, d.before a0 Z = true) (ws : List Jvm.Cond) (a1 : Addr) (ca : Addr) (ck : ClassId) (w0 : Int32) (w1 : Int32) (w2 : Int32) (h0 : Heap) (n0 : Nat) (Fc : Fld Z h0 a1 "com/example/enact/enact/engine/Marking" "tokens" "[I" (.ref ca)) (Vc : Arv Z h0 ca ck .int (3 : Int32) [(.int w0), (.int w1), (.int w2)] (.int (0 : Int32))) :
    MetFree l (⟨"com/example/enact/enact/engine/Marking", "isEmpty", "()Z"⟩ : MethodName) (head1 (Jvm.Cond.code (⟨"com/example/enact/enact/engine/Marking", "isEmpty", "()Z"⟩ : MethodName) prog_27_method_16_code 3 (some .boolean) :: ws) ({ frames := 0, cells := 0, slots := 0, locals := 0 } : Room)) (fun a U => a = #[(.ref a1)] ∧ Z.Warmed39 U.vm ∧ U.heap = h0) (fun _ _ _ _ _ => True) (fun _ U o U' => ∃ v L, o = .returned v ∧ Q4v3 Z a1 ca ck w0 w1 w2 h0 n0 v U'.heap L ∧ FrameEnd U o U' L ({ frames := 0, cells := 0, slots := 0, locals := 0 } : Room).cells ({ frames := 0, cells := 0, slots := 0, locals := 0 } : Room).slots) := by
  refine MetFree.of_bodySF pf_2 hisR ?_
  intro p e s m args below meth c s₁ Bd hml0 hP hK
  obtain ⟨rfl, hZ, hh⟩ := hP
  have hx := Bd.exec
  have hby := Bd.bytes
  have hlk : meth.locks = false := BodyLoose.notSynchronized Bd
  have hml : c.maxLocals = 3 := hml0
  have hown : s.vm.findClass "com/example/enact/enact/engine/Marking" = some m.cls := findClass_of_methodNamed Bd.named
  have hnm := (name_of_methodNamed Bd.named Bd.method).1
  have X0 : Stand p l e ({ frames := 0, cells := 0, slots := 0, locals := 0 } : Room) s m #[(.ref a1)] below meth c s₁ [] 0 0 := Stand.of_body Bd
  have e0 : s₁.heap = h0 := by rw [← hh, Bd.state]; rfl
  have N0 := Fr.nil n0
  show Gl p e below s (Q4v3 Z a1 ca ck w0 w1 w2 h0 n0) ({ frames := 0, cells := 0, slots := 0, locals := 0 } : Room).cells ({ frames := 0, cells := 0, slots := 0, locals := 0 } : Room).slots (s₁.setTop (entryFrame m #[(.ref a1)] 3))
  rw [ef_4v3]
  show Gl _ _ _ _ _ _ _ (s₁.setTop (mkF m 0 #[.val (.ref a1), .unset, .unset] []))
  refine Gl.st (fun t k => XS.iconst X0.here hx rfl (hb hby d4_0) k) ?_
  show Gl _ _ _ _ _ _ _ (s₁.setTop (mkF m 1 #[.val (.ref a1), .unset, .unset] [(.int (1 : Int32))]))
  refine Gl.st (fun t k => XS.istoreN X0.here hx rfl (hb hby d4_1) rfl (l' := #[.val (.ref a1), .val (.int (1 : Int32)), .unset]) rfl k) ?_
  show Gl _ _ _ _ _ _ _ (s₁.setTop (mkF m 2 #[.val (.ref a1), .val (.int (1 : Int32)), .unset] []))
  refine Gl.st (fun t k => XS.iconst X0.here hx rfl (hb hby d4_2) k) ?_
  show Gl _ _ _ _ _ _ _ (s₁.setTop (mkF m 3 #[.val (.ref a1), .val (.int (1 : Int32)), .unset] [(.int (0 : Int32))]))
  refine Gl.st (fun t k => XS.istoreN X0.here hx rfl (hb hby d4_3) rfl (l' := #[.val (.ref a1), .val (.int (1 : Int32)), .val (.int (0 : Int32))]) rfl k) ?_
  show Gl _ _ _ _ _ _ _ (s₁.setTop (mkF m 4 #[.val (.ref a1), .val (.int (1 : Int32)), .val (.int (0 : Int32))] []))
  refine Gl.st (fun t k => XS.iloadN X0.here hx rfl (hb hby d4_4) rfl  k) ?_
  show Gl _ _ _ _ _ _ _ (s₁.setTop (mkF m 5 #[.val (.ref a1), .val (.int (1 : Int32)), .val (.int (0 : Int32))] [(.int (0 : Int32))]))
  refine Gl.st (fun t k => XS.aloadN X0.here hx rfl (hb hby d4_5) rfl rfl k) ?_
  show Gl _ _ _ _ _ _ _ (s₁.setTop (mkF m 6 #[.val (.ref a1), .val (.int (1 : Int32)), .val (.int (0 : Int32))] [(.ref a1), (.int (0 : Int32))]))
  obtain ⟨T1, X1, e1, st1⟩ := getF X0 hx hZ hown (host := "") (Or.inl (hw _ (List.mem_of_getElem? (i := 15) rfl))) Via.refl e0 Fc (g := (mkF m 6 #[.val (.ref a1), .val (.int (1 : Int32)), .val (.int (0 : Int32))] [(.ref a1), (.int (0 : Int32))])) rfl rfl (hb hby d4_6)
  refine Gl.st st1 ?_
  show Gl _ _ _ _ _ _ _ (T1.setTop (mkF m 9 #[.val (.ref a1), .val (.int (1 : Int32)), .val (.int (0 : Int32))] [(.ref ca), (.int (0 : Int32))]))
  have Vx2 := Vc
  obtain ⟨cl2, Ar2, qk2, S2, M2, H2, G2⟩ := Vx2
  refine Gl.st (X1.arraylength hx (by rw [e1]; exact Ar2.1) (State.isArrayOf_alike hZ.alike Ar2.2.1) (g := (mkF m 9 #[.val (.ref a1), .val (.int (1 : Int32)), .val (.int (0 : Int32))] [(.ref ca), (.int (0 : Int32))])) rfl rfl (hb hby d4_9)) ?_
  rw [len_of S2 M2]
  show Gl _ _ _ _ _ _ _ (T1.setTop (mkF m 10 #[.val (.ref a1), .val (.int (1 : Int32)), .val (.int (0 : Int32))] [(.int (3 : Int32)), (.int (0 : Int32))]))
  refine Gl.st (fun t k => XS.icmpNo X1.here hx rfl (hb hby d4_10) rfl (tlt (by decide : (0 : Int32) < (3 : Int32))).2.1 k) ?_
  show Gl _ _ _ _ _ _ _ (T1.setTop (mkF m 13 #[.val (.ref a1), .val (.int (1 : Int32)), .val (.int (0 : Int32))] []))
  refine Gl.st (fun t k => XS.iloadN X1.here hx rfl (hb hby d4_13) rfl  k) ?_
  show Gl _ _ _ _ _ _ _ (T1.setTop (mkF m 14 #[.val (.ref a1), .val (.int (1 : Int32)), .val (.int (0 : Int32))] [(.int (1 : Int32))]))
  refine Gl.st (fun t k => XS.ifNo X1.here hx rfl (hb hby d4_14) rfl ((if0 _ _).trans (feq (by decide : ¬ ((1 : Int32) = (0 : Int32)))).1) k) ?_
  show Gl _ _ _ _ _ _ _ (T1.setTop (mkF m 17 #[.val (.ref a1), .val (.int (1 : Int32)), .val (.int (0 : Int32))] []))
  refine Gl.st (fun t k => XS.aloadN X1.here hx rfl (hb hby d4_17) rfl rfl k) ?_
  show Gl _ _ _ _ _ _ _ (T1.setTop (mkF m 18 #[.val (.ref a1), .val (.int (1 : Int32)), .val (.int (0 : Int32))] [(.ref a1)]))
  obtain ⟨T3, X3, e3, st3⟩ := getF X1 hx hZ hown (host := "") (Or.inl (hw _ (List.mem_of_getElem? (i := 15) rfl))) Via.refl e1 Fc (g := (mkF m 18 #[.val (.ref a1), .val (.int (1 : Int32)), .val (.int (0 : Int32))] [(.ref a1)])) rfl rfl (hb hby d4_18)
  refine Gl.st st3 ?_
  show Gl _ _ _ _ _ _ _ (T3.setTop (mkF m 21 #[.val (.ref a1), .val (.int (1 : Int32)), .val (.int (0 : Int32))] [(.ref ca)]))
  refine Gl.st (fun t k => XS.iloadN X3.here hx rfl (hb hby d4_21) rfl  k) ?_
  show Gl _ _ _ _ _ _ _ (T3.setTop (mkF m 22 #[.val (.ref a1), .val (.int (1 : Int32)), .val (.int (0 : Int32))] [(.int (0 : Int32)), (.ref ca)]))
  have Vx4 := Vc
  obtain ⟨cl4, Ar4, qk4, S4, M4, H4, G4⟩ := Vx4
  have hin4 : ¬ ((0 : Int32) < 0 ∨ cl4.slots.size ≤ ((0 : Int32)).toNatClampNeg) := inb_of S4 ⟨by decide, by decide⟩
  have hat4 : cl4.slots[((0 : Int32)).toNatClampNeg]? = some (.int w0) := H4.at hin4 rfl
  refine Gl.st (X3.iaload hx (j := (0 : Int32)) (v := (.int w0)) (by rw [e3]; exact Ar4.1) (State.isArrayOf_alike hZ.alike Ar4.2.1) Ar4.2.2 hin4 hat4 (g := (mkF m 22 #[.val (.ref a1), .val (.int (1 : Int32)), .val (.int (0 : Int32))] [(.int (0 : Int32)), (.ref ca)])) rfl rfl (hb hby d4_22)) ?_
  show Gl _ _ _ _ _ _ _ (T3.setTop (mkF m 23 #[.val (.ref a1), .val (.int (1 : Int32)), .val (.int (0 : Int32))] [(.int w0)]))
  by_cases hc23 : w0 = (0 : Int32)
  · refine Gl.st (fun t k => XS.ifNo X3.here hx rfl (hb hby d4_23) rfl ((if0 _ _).trans (teq hc23).2) k) ?_
    show Gl _ _ _ _ _ _ _ (T3.setTop (mkF m 26 #[.val (.ref a1), .val (.int (1 : Int32)), .val (.int (0 : Int32))] []))
    refine Gl.st (fun t k => XS.iconst X3.here hx rfl (hb hby d4_26) k) ?_
    show Gl _ _ _ _ _ _ _ (T3.setTop (mkF m 27 #[.val (.ref a1), .val (.int (1 : Int32)), .val (.int (0 : Int32))] [(.int (1 : Int32))]))
    refine Gl.st (fun t k => XS.goto X3.here hx rfl (pc0 := 27) (pc' := 31) rfl (hb hby d4_27) (by decide) (by decide) k) ?_
    show Gl _ _ _ _ _ _ _ (T3.setTop (mkF m 31 #[.val (.ref a1), .val (.int (1 : Int32)), .val (.int (0 : Int32))] [(.int (1 : Int32))]))
    refine Gl.st (fun t k => XS.istoreN X3.here hx rfl (hb hby d4_31) rfl (l' := #[.val (.ref a1), .val (.int (1 : Int32)), .val (.int (0 : Int32))]) rfl k) ?_
    show Gl _ _ _ _ _ _ _ (T3.setTop (mkF m 32 #[.val (.ref a1), .val (.int (1 : Int32)), .val (.int (0 : Int32))] []))
    refine Gl.st (fun t k => XS.iinc X3.here hx rfl (hb hby d4_32) rfl (l' := #[.val (.ref a1), .val (.int (1 : Int32)), .val (.int (1 : Int32))]) rfl k) ?_
    show Gl _ _ _ _ _ _ _ (T3.setTop (mkF m 35 #[.val (.ref a1), .val (.int (1 : Int32)), .val (.int (1 : Int32))] []))
    refine Gl.st (fun t k => XS.goto X3.here hx rfl (pc0 := 35) (pc' := 4) rfl (hb hby d4_35) (by decide) (by decide) k) ?_
    show Gl _ _ _ _ _ _ _ (T3.setTop (mkF m 4 #[.val (.ref a1), .val (.int (1 : Int32)), .val (.int (1 : Int32))] []))
    refine Gl.st (fun t k => XS.iloadN X3.here hx rfl (hb hby d4_4) rfl  k) ?_
    show Gl _ _ _ _ _ _ _ (T3.setTop (mkF m 5 #[.val (.ref a1), .val (.int (1 : Int32)), .val (.int (1 : Int32))] [(.int (1 : Int32))]))
    refine Gl.st (fun t k => XS.aloadN X3.here hx rfl (hb hby d4_5) rfl rfl k) ?_
    show Gl _ _ _ _ _ _ _ (T3.setTop (mkF m 6 #[.val (.ref a1), .val (.int (1 : Int32)), .val (.int (1 : Int32))] [(.ref a1), (.int (1 : Int32))]))
    obtain ⟨T5, X5, e5, st5⟩ := getF X3 hx hZ hown (host := "") (Or.inl (hw _ (List.mem_of_getElem? (i := 15) rfl))) Via.refl e3 Fc (g := (mkF m 6 #[.val (.ref a1), .val (.int (1 : Int32)), .val (.int (1 : Int32))] [(.ref a1), (.int (1 : Int32))])) rfl rfl (hb hby d4_6)
    refine Gl.st st5 ?_
    show Gl _ _ _ _ _ _ _ (T5.setTop (mkF m 9 #[.val (.ref a1), .val (.int (1 : Int32)), .val (.int (1 : Int32))] [(.ref ca), (.int (1 : Int32))]))
    have Vx6 := Vc
    obtain ⟨cl6, Ar6, qk6, S6, M6, H6, G6⟩ := Vx6
    refine Gl.st (X5.arraylength hx (by rw [e5]; exact Ar6.1) (State.isArrayOf_alike hZ.alike Ar6.2.1) (g := (mkF m 9 #[.val (.ref a1), .val (.int (1 : Int32)), .val (.int (1 : Int32))] [(.ref ca), (.int (1 : Int32))])) rfl rfl (hb hby d4_9)) ?_
    rw [len_of S6 M6]
    show Gl _ _ _ _ _ _ _ (T5.setTop (mkF m 10 #[.val (.ref a1), .val (.int (1 : Int32)), .val (.int (1 : Int32))] [(.int (3 : Int32)), (.int (1 : Int32))]))
    refine Gl.st (fun t k => XS.icmpNo X5.here hx rfl (hb hby d4_10) rfl (tlt (by decide : (1 : Int32) < (3 : Int32))).2.1 k) ?_
    show Gl _ _ _ _ _ _ _ (T5.setTop (mkF m 13 #[.val (.ref a1), .val (.int (1 : Int32)), .val (.int (1 : Int32))] []))
    refine Gl.st (fun t k => XS.iloadN X5.here hx rfl (hb hby d4_13) rfl  k) ?_
    show Gl _ _ _ _ _ _ _ (T5.setTop (mkF m 14 #[.val (.ref a1), .val (.int (1 : Int32)), .val (.int (1 : Int32))] [(.int (1 : Int32))]))
    refine Gl.st (fun t k => XS.ifNo X5.here hx rfl (hb hby d4_14) rfl ((if0 _ _).trans (feq (by decide : ¬ ((1 : Int32) = (0 : Int32)))).1) k) ?_
    show Gl _ _ _ _ _ _ _ (T5.setTop (mkF m 17 #[.val (.ref a1), .val (.int (1 : Int32)), .val (.int (1 : Int32))] []))
    refine Gl.st (fun t k => XS.aloadN X5.here hx rfl (hb hby d4_17) rfl rfl k) ?_
    show Gl _ _ _ _ _ _ _ (T5.setTop (mkF m 18 #[.val (.ref a1), .val (.int (1 : Int32)), .val (.int (1 : Int32))] [(.ref a1)]))
    obtain ⟨T7, X7, e7, st7⟩ := getF X5 hx hZ hown (host := "") (Or.inl (hw _ (List.mem_of_getElem? (i := 15) rfl))) Via.refl e5 Fc (g := (mkF m 18 #[.val (.ref a1), .val (.int (1 : Int32)), .val (.int (1 : Int32))] [(.ref a1)])) rfl rfl (hb hby d4_18)
    refine Gl.st st7 ?_
    show Gl _ _ _ _ _ _ _ (T7.setTop (mkF m 21 #[.val (.ref a1), .val (.int (1 : Int32)), .val (.int (1 : Int32))] [(.ref ca)]))
    refine Gl.st (fun t k => XS.iloadN X7.here hx rfl (hb hby d4_21) rfl  k) ?_
    show Gl _ _ _ _ _ _ _ (T7.setTop (mkF m 22 #[.val (.ref a1), .val (.int (1 : Int32)), .val (.int (1 : Int32))] [(.int (1 : Int32)), (.ref ca)]))
    have Vx8 := Vc
    obtain ⟨cl8, Ar8, qk8, S8, M8, H8, G8⟩ := Vx8
    have hin8 : ¬ ((1 : Int32) < 0 ∨ cl8.slots.size ≤ ((1 : Int32)).toNatClampNeg) := inb_of S8 ⟨by decide, by decide⟩
    have hat8 : cl8.slots[((1 : Int32)).toNatClampNeg]? = some (.int w1) := H8.at hin8 rfl
    refine Gl.st (X7.iaload hx (j := (1 : Int32)) (v := (.int w1)) (by rw [e7]; exact Ar8.1) (State.isArrayOf_alike hZ.alike Ar8.2.1) Ar8.2.2 hin8 hat8 (g := (mkF m 22 #[.val (.ref a1), .val (.int (1 : Int32)), .val (.int (1 : Int32))] [(.int (1 : Int32)), (.ref ca)])) rfl rfl (hb hby d4_22)) ?_
    show Gl _ _ _ _ _ _ _ (T7.setTop (mkF m 23 #[.val (.ref a1), .val (.int (1 : Int32)), .val (.int (1 : Int32))] [(.int w1)]))
    by_cases hc23_2 : w1 = (0 : Int32)
    · refine Gl.st (fun t k => XS.ifNo X7.here hx rfl (hb hby d4_23) rfl ((if0 _ _).trans (teq hc23_2).2) k) ?_
      show Gl _ _ _ _ _ _ _ (T7.setTop (mkF m 26 #[.val (.ref a1), .val (.int (1 : Int32)), .val (.int (1 : Int32))] []))
      refine Gl.st (fun t k => XS.iconst X7.here hx rfl (hb hby d4_26) k) ?_
      show Gl _ _ _ _ _ _ _ (T7.setTop (mkF m 27 #[.val (.ref a1), .val (.int (1 : Int32)), .val (.int (1 : Int32))] [(.int (1 : Int32))]))
      refine Gl.st (fun t k => XS.goto X7.here hx rfl (pc0 := 27) (pc' := 31) rfl (hb hby d4_27) (by decide) (by decide) k) ?_
      show Gl _ _ _ _ _ _ _ (T7.setTop (mkF m 31 #[.val (.ref a1), .val (.int (1 : Int32)), .val (.int (1 : Int32))] [(.int (1 : Int32))]))
      refine Gl.st (fun t k => XS.istoreN X7.here hx rfl (hb hby d4_31) rfl (l' := #[.val (.ref a1), .val (.int (1 : Int32)), .val (.int (1 : Int32))]) rfl k) ?_
      show Gl _ _ _ _ _ _ _ (T7.setTop (mkF m 32 #[.val (.ref a1), .val (.int (1 : Int32)), .val (.int (1 : Int32))] []))
      refine Gl.st (fun t k => XS.iinc X7.here hx rfl (hb hby d4_32) rfl (l' := #[.val (.ref a1), .val (.int (1 : Int32)), .val (.int (2 : Int32))]) rfl k) ?_
      show Gl _ _ _ _ _ _ _ (T7.setTop (mkF m 35 #[.val (.ref a1), .val (.int (1 : Int32)), .val (.int (2 : Int32))] []))
      refine Gl.st (fun t k => XS.goto X7.here hx rfl (pc0 := 35) (pc' := 4) rfl (hb hby d4_35) (by decide) (by decide) k) ?_
      show Gl _ _ _ _ _ _ _ (T7.setTop (mkF m 4 #[.val (.ref a1), .val (.int (1 : Int32)), .val (.int (2 : Int32))] []))
      refine Gl.st (fun t k => XS.iloadN X7.here hx rfl (hb hby d4_4) rfl  k) ?_
      show Gl _ _ _ _ _ _ _ (T7.setTop (mkF m 5 #[.val (.ref a1), .val (.int (1 : Int32)), .val (.int (2 : Int32))] [(.int (2 : Int32))]))
      refine Gl.st (fun t k => XS.aloadN X7.here hx rfl (hb hby d4_5) rfl rfl k) ?_
      show Gl _ _ _ _ _ _ _ (T7.setTop (mkF m 6 #[.val (.ref a1), .val (.int (1 : Int32)), .val (.int (2 : Int32))] [(.ref a1), (.int (2 : Int32))]))
      obtain ⟨T9, X9, e9, st9⟩ := getF X7 hx hZ hown (host := "") (Or.inl (hw _ (List.mem_of_getElem? (i := 15) rfl))) Via.refl e7 Fc (g := (mkF m 6 #[.val (.ref a1), .val (.int (1 : Int32)), .val (.int (2 : Int32))] [(.ref a1), (.int (2 : Int32))])) rfl rfl (hb hby d4_6)
      refine Gl.st st9 ?_
      show Gl _ _ _ _ _ _ _ (T9.setTop (mkF m 9 #[.val (.ref a1), .val (.int (1 : Int32)), .val (.int (2 : Int32))] [(.ref ca), (.int (2 : Int32))]))
      have Vx10 := Vc
      obtain ⟨cl10, Ar10, qk10, S10, M10, H10, G10⟩ := Vx10
      refine Gl.st (X9.arraylength hx (by rw [e9]; exact Ar10.1) (State.isArrayOf_alike hZ.alike Ar10.2.1) (g := (mkF m 9 #[.val (.ref a1), .val (.int (1 : Int32)), .val (.int (2 : Int32))] [(.ref ca), (.int (2 : Int32))])) rfl rfl (hb hby d4_9)) ?_
      rw [len_of S10 M10]
      show Gl _ _ _ _ _ _ _ (T9.setTop (mkF m 10 #[.val (.ref a1), .val (.int (1 : Int32)), .val (.int (2 : Int32))] [(.int (3 : Int32)), (.int (2 : Int32))]))
      refine Gl.st (fun t k => XS.icmpNo X9.here hx rfl (hb hby d4_10) rfl (tlt (by decide : (2 : Int32) < (3 : Int32))).2.1 k) ?_
      show Gl _ _ _ _ _ _ _ (T9.setTop (mkF m 13 #[.val (.ref a1), .val (.int (1 : Int32)), .val (.int (2 : Int32))] []))
      refine Gl.st (fun t k => XS.iloadN X9.here hx rfl (hb hby d4_13) rfl  k) ?_
      show Gl _ _ _ _ _ _ _ (T9.setTop (mkF m 14 #[.val (.ref a1), .val (.int (1 : Int32)), .val (.int (2 : Int32))] [(.int (1 : Int32))]))
      refine Gl.st (fun t k => XS.ifNo X9.here hx rfl (hb hby d4_14) rfl ((if0 _ _).trans (feq (by decide : ¬ ((1 : Int32) = (0 : Int32)))).1) k) ?_
      show Gl _ _ _ _ _ _ _ (T9.setTop (mkF m 17 #[.val (.ref a1), .val (.int (1 : Int32)), .val (.int (2 : Int32))] []))
      refine Gl.st (fun t k => XS.aloadN X9.here hx rfl (hb hby d4_17) rfl rfl k) ?_
      show Gl _ _ _ _ _ _ _ (T9.setTop (mkF m 18 #[.val (.ref a1), .val (.int (1 : Int32)), .val (.int (2 : Int32))] [(.ref a1)]))
      obtain ⟨T11, X11, e11, st11⟩ := getF X9 hx hZ hown (host := "") (Or.inl (hw _ (List.mem_of_getElem? (i := 15) rfl))) Via.refl e9 Fc (g := (mkF m 18 #[.val (.ref a1), .val (.int (1 : Int32)), .val (.int (2 : Int32))] [(.ref a1)])) rfl rfl (hb hby d4_18)
      refine Gl.st st11 ?_
      show Gl _ _ _ _ _ _ _ (T11.setTop (mkF m 21 #[.val (.ref a1), .val (.int (1 : Int32)), .val (.int (2 : Int32))] [(.ref ca)]))
      refine Gl.st (fun t k => XS.iloadN X11.here hx rfl (hb hby d4_21) rfl  k) ?_
      show Gl _ _ _ _ _ _ _ (T11.setTop (mkF m 22 #[.val (.ref a1), .val (.int (1 : Int32)), .val (.int (2 : Int32))] [(.int (2 : Int32)), (.ref ca)]))
      have Vx12 := Vc
      obtain ⟨cl12, Ar12, qk12, S12, M12, H12, G12⟩ := Vx12
      have hin12 : ¬ ((2 : Int32) < 0 ∨ cl12.slots.size ≤ ((2 : Int32)).toNatClampNeg) := inb_of S12 ⟨by decide, by decide⟩
      have hat12 : cl12.slots[((2 : Int32)).toNatClampNeg]? = some (.int w2) := H12.at hin12 rfl
      refine Gl.st (X11.iaload hx (j := (2 : Int32)) (v := (.int w2)) (by rw [e11]; exact Ar12.1) (State.isArrayOf_alike hZ.alike Ar12.2.1) Ar12.2.2 hin12 hat12 (g := (mkF m 22 #[.val (.ref a1), .val (.int (1 : Int32)), .val (.int (2 : Int32))] [(.int (2 : Int32)), (.ref ca)])) rfl rfl (hb hby d4_22)) ?_
      show Gl _ _ _ _ _ _ _ (T11.setTop (mkF m 23 #[.val (.ref a1), .val (.int (1 : Int32)), .val (.int (2 : Int32))] [(.int w2)]))
      by_cases hc23_3 : w2 = (0 : Int32)
      · refine Gl.st (fun t k => XS.ifNo X11.here hx rfl (hb hby d4_23) rfl ((if0 _ _).trans (teq hc23_3).2) k) ?_
        show Gl _ _ _ _ _ _ _ (T11.setTop (mkF m 26 #[.val (.ref a1), .val (.int (1 : Int32)), .val (.int (2 : Int32))] []))
        refine Gl.st (fun t k => XS.iconst X11.here hx rfl (hb hby d4_26) k) ?_
        show Gl _ _ _ _ _ _ _ (T11.setTop (mkF m 27 #[.val (.ref a1), .val (.int (1 : Int32)), .val (.int (2 : Int32))] [(.int (1 : Int32))]))
        refine Gl.st (fun t k => XS.goto X11.here hx rfl (pc0 := 27) (pc' := 31) rfl (hb hby d4_27) (by decide) (by decide) k) ?_
        show Gl _ _ _ _ _ _ _ (T11.setTop (mkF m 31 #[.val (.ref a1), .val (.int (1 : Int32)), .val (.int (2 : Int32))] [(.int (1 : Int32))]))
        refine Gl.st (fun t k => XS.istoreN X11.here hx rfl (hb hby d4_31) rfl (l' := #[.val (.ref a1), .val (.int (1 : Int32)), .val (.int (2 : Int32))]) rfl k) ?_
        show Gl _ _ _ _ _ _ _ (T11.setTop (mkF m 32 #[.val (.ref a1), .val (.int (1 : Int32)), .val (.int (2 : Int32))] []))
        refine Gl.st (fun t k => XS.iinc X11.here hx rfl (hb hby d4_32) rfl (l' := #[.val (.ref a1), .val (.int (1 : Int32)), .val (.int (3 : Int32))]) rfl k) ?_
        show Gl _ _ _ _ _ _ _ (T11.setTop (mkF m 35 #[.val (.ref a1), .val (.int (1 : Int32)), .val (.int (3 : Int32))] []))
        refine Gl.st (fun t k => XS.goto X11.here hx rfl (pc0 := 35) (pc' := 4) rfl (hb hby d4_35) (by decide) (by decide) k) ?_
        show Gl _ _ _ _ _ _ _ (T11.setTop (mkF m 4 #[.val (.ref a1), .val (.int (1 : Int32)), .val (.int (3 : Int32))] []))
        refine Gl.st (fun t k => XS.iloadN X11.here hx rfl (hb hby d4_4) rfl  k) ?_
        show Gl _ _ _ _ _ _ _ (T11.setTop (mkF m 5 #[.val (.ref a1), .val (.int (1 : Int32)), .val (.int (3 : Int32))] [(.int (3 : Int32))]))
        refine Gl.st (fun t k => XS.aloadN X11.here hx rfl (hb hby d4_5) rfl rfl k) ?_
        show Gl _ _ _ _ _ _ _ (T11.setTop (mkF m 6 #[.val (.ref a1), .val (.int (1 : Int32)), .val (.int (3 : Int32))] [(.ref a1), (.int (3 : Int32))]))
        obtain ⟨T13, X13, e13, st13⟩ := getF X11 hx hZ hown (host := "") (Or.inl (hw _ (List.mem_of_getElem? (i := 15) rfl))) Via.refl e11 Fc (g := (mkF m 6 #[.val (.ref a1), .val (.int (1 : Int32)), .val (.int (3 : Int32))] [(.ref a1), (.int (3 : Int32))])) rfl rfl (hb hby d4_6)
        refine Gl.st st13 ?_
        show Gl _ _ _ _ _ _ _ (T13.setTop (mkF m 9 #[.val (.ref a1), .val (.int (1 : Int32)), .val (.int (3 : Int32))] [(.ref ca), (.int (3 : Int32))]))
        have Vx14 := Vc
        obtain ⟨cl14, Ar14, qk14, S14, M14, H14, G14⟩ := Vx14
        refine Gl.st (X13.arraylength hx (by rw [e13]; exact Ar14.1) (State.isArrayOf_alike hZ.alike Ar14.2.1) (g := (mkF m 9 #[.val (.ref a1), .val (.int (1 : Int32)), .val (.int (3 : Int32))] [(.ref ca), (.int (3 : Int32))])) rfl rfl (hb hby d4_9)) ?_
        rw [len_of S14 M14]
        show Gl _ _ _ _ _ _ _ (T13.setTop (mkF m 10 #[.val (.ref a1), .val (.int (1 : Int32)), .val (.int (3 : Int32))] [(.int (3 : Int32)), (.int (3 : Int32))]))
        refine Gl.st (fun t k => XS.icmpYes X13.here hx rfl (pc0 := 10) (pc' := 38) rfl (hb hby d4_10) rfl (flt (by decide : ¬ ((3 : Int32) < (3 : Int32)))).2.1 (by decide) (by decide) k) ?_
        show Gl _ _ _ _ _ _ _ (T13.setTop (mkF m 38 #[.val (.ref a1), .val (.int (1 : Int32)), .val (.int (3 : Int32))] []))
        refine Gl.st (fun t k => XS.iloadN X13.here hx rfl (hb hby d4_38) rfl  k) ?_
        show Gl _ _ _ _ _ _ _ (T13.setTop (mkF m 39 #[.val (.ref a1), .val (.int (1 : Int32)), .val (.int (3 : Int32))] [(.int (1 : Int32))]))
        exact Gl.retN X13 hx hlk Bd.returns (by simp) (hb hby d4_39) (⟨congrArg (fun z => some (Value.int z)) (show (nar .boolean (1 : Int32)) = (own_empty3 w0 w1 w2) from by simp only [own_empty3, if_pos hc23, if_pos hc23_2, if_pos hc23_3]), N0, e13⟩) (by decide) (by decide)
      · refine Gl.st (fun t k => XS.ifYes X11.here hx rfl (pc0 := 23) (pc' := 30) rfl (hb hby d4_23) rfl ((if0 _ _).trans (feq hc23_3).2) (by decide) (by decide) k) ?_
        show Gl _ _ _ _ _ _ _ (T11.setTop (mkF m 30 #[.val (.ref a1), .val (.int (1 : Int32)), .val (.int (2 : Int32))] []))
        refine Gl.st (fun t k => XS.iconst X11.here hx rfl (hb hby d4_30) k) ?_
        show Gl _ _ _ _ _ _ _ (T11.setTop (mkF m 31 #[.val (.ref a1), .val (.int (1 : Int32)), .val (.int (2 : Int32))] [(.int (0 : Int32))]))
        refine Gl.st (fun t k => XS.istoreN X11.here hx rfl (hb hby d4_31) rfl (l' := #[.val (.ref a1), .val (.int (0 : Int32)), .val (.int (2 : Int32))]) rfl k) ?_
        show Gl _ _ _ _ _ _ _ (T11.setTop (mkF m 32 #[.val (.ref a1), .val (.int (0 : Int32)), .val (.int (2 : Int32))] []))
        refine Gl.st (fun t k => XS.iinc X11.here hx rfl (hb hby d4_32) rfl (l' := #[.val (.ref a1), .val (.int (0 : Int32)), .val (.int (3 : Int32))]) rfl k) ?_
        show Gl _ _ _ _ _ _ _ (T11.setTop (mkF m 35 #[.val (.ref a1), .val (.int (0 : Int32)), .val (.int (3 : Int32))] []))
        refine Gl.st (fun t k => XS.goto X11.here hx rfl (pc0 := 35) (pc' := 4) rfl (hb hby d4_35) (by decide) (by decide) k) ?_
        show Gl _ _ _ _ _ _ _ (T11.setTop (mkF m 4 #[.val (.ref a1), .val (.int (0 : Int32)), .val (.int (3 : Int32))] []))
        refine Gl.st (fun t k => XS.iloadN X11.here hx rfl (hb hby d4_4) rfl  k) ?_
        show Gl _ _ _ _ _ _ _ (T11.setTop (mkF m 5 #[.val (.ref a1), .val (.int (0 : Int32)), .val (.int (3 : Int32))] [(.int (3 : Int32))]))
        refine Gl.st (fun t k => XS.aloadN X11.here hx rfl (hb hby d4_5) rfl rfl k) ?_
        show Gl _ _ _ _ _ _ _ (T11.setTop (mkF m 6 #[.val (.ref a1), .val (.int (0 : Int32)), .val (.int (3 : Int32))] [(.ref a1), (.int (3 : Int32))]))
        obtain ⟨T15, X15, e15, st15⟩ := getF X11 hx hZ hown (host := "") (Or.inl (hw _ (List.mem_of_getElem? (i := 15) rfl))) Via.refl e11 Fc (g := (mkF m 6 #[.val (.ref a1), .val (.int (0 : Int32)), .val (.int (3 : Int32))] [(.ref a1), (.int (3 : Int32))])) rfl rfl (hb hby d4_6)
        refine Gl.st st15 ?_
        show Gl _ _ _ _ _ _ _ (T15.setTop (mkF m 9 #[.val (.ref a1), .val (.int (0 : Int32)), .val (.int (3 : Int32))] [(.ref ca), (.int (3 : Int32))]))
        have Vx16 := Vc
        obtain ⟨cl16, Ar16, qk16, S16, M16, H16, G16⟩ := Vx16
        refine Gl.st (X15.arraylength hx (by rw [e15]; exact Ar16.1) (State.isArrayOf_alike hZ.alike Ar16.2.1) (g := (mkF m 9 #[.val (.ref a1), .val (.int (0 : Int32)), .val (.int (3 : Int32))] [(.ref ca), (.int (3 : Int32))])) rfl rfl (hb hby d4_9)) ?_
        rw [len_of S16 M16]
        show Gl _ _ _ _ _ _ _ (T15.setTop (mkF m 10 #[.val (.ref a1), .val (.int (0 : Int32)), .val (.int (3 : Int32))] [(.int (3 : Int32)), (.int (3 : Int32))]))
        refine Gl.st (fun t k => XS.icmpYes X15.here hx rfl (pc0 := 10) (pc' := 38) rfl (hb hby d4_10) rfl (flt (by decide : ¬ ((3 : Int32) < (3 : Int32)))).2.1 (by decide) (by decide) k) ?_
        show Gl _ _ _ _ _ _ _ (T15.setTop (mkF m 38 #[.val (.ref a1), .val (.int (0 : Int32)), .val (.int (3 : Int32))] []))
        refine Gl.st (fun t k => XS.iloadN X15.here hx rfl (hb hby d4_38) rfl  k) ?_
        show Gl _ _ _ _ _ _ _ (T15.setTop (mkF m 39 #[.val (.ref a1), .val (.int (0 : Int32)), .val (.int (3 : Int32))] [(.int (0 : Int32))]))
        exact Gl.retN X15 hx hlk Bd.returns (by simp) (hb hby d4_39) (⟨congrArg (fun z => some (Value.int z)) (show (nar .boolean (0 : Int32)) = (own_empty3 w0 w1 w2) from by simp only [own_empty3, if_pos hc23, if_pos hc23_2, if_neg hc23_3]), N0, e15⟩) (by decide) (by decide)
    · refine Gl.st (fun t k => XS.ifYes X7.here hx rfl (pc0 := 23) (pc' := 30) rfl (hb hby d4_23) rfl ((if0 _ _).trans (feq hc23_2).2) (by decide) (by decide) k) ?_
      show Gl _ _ _ _ _ _ _ (T7.setTop (mkF m 30 #[.val (.ref a1), .val (.int (1 : Int32)), .val (.int (1 : Int32))] []))
      refine Gl.st (fun t k => XS.iconst X7.here hx rfl (hb hby d4_30) k) ?_
      show Gl _ _ _ _ _ _ _ (T7.setTop (mkF m 31 #[.val (.ref a1), .val (.int (1 : Int32)), .val (.int (1 : Int32))] [(.int (0 : Int32))]))
      refine Gl.st (fun t k => XS.istoreN X7.here hx rfl (hb hby d4_31) rfl (l' := #[.val (.ref a1), .val (.int (0 : Int32)), .val (.int (1 : Int32))]) rfl k) ?_
      show Gl _ _ _ _ _ _ _ (T7.setTop (mkF m 32 #[.val (.ref a1), .val (.int (0 : Int32)), .val (.int (1 : Int32))] []))
      refine Gl.st (fun t k => XS.iinc X7.here hx rfl (hb hby d4_32) rfl (l' := #[.val (.ref a1), .val (.int (0 : Int32)), .val (.int (2 : Int32))]) rfl k) ?_
      show Gl _ _ _ _ _ _ _ (T7.setTop (mkF m 35 #[.val (.ref a1), .val (.int (0 : Int32)), .val (.int (2 : Int32))] []))
      refine Gl.st (fun t k => XS.goto X7.here hx rfl (pc0 := 35) (pc' := 4) rfl (hb hby d4_35) (by decide) (by decide) k) ?_
      show Gl _ _ _ _ _ _ _ (T7.setTop (mkF m 4 #[.val (.ref a1), .val (.int (0 : Int32)), .val (.int (2 : Int32))] []))
      refine Gl.st (fun t k => XS.iloadN X7.here hx rfl (hb hby d4_4) rfl  k) ?_
      show Gl _ _ _ _ _ _ _ (T7.setTop (mkF m 5 #[.val (.ref a1), .val (.int (0 : Int32)), .val (.int (2 : Int32))] [(.int (2 : Int32))]))
      refine Gl.st (fun t k => XS.aloadN X7.here hx rfl (hb hby d4_5) rfl rfl k) ?_
      show Gl _ _ _ _ _ _ _ (T7.setTop (mkF m 6 #[.val (.ref a1), .val (.int (0 : Int32)), .val (.int (2 : Int32))] [(.ref a1), (.int (2 : Int32))]))
      obtain ⟨T17, X17, e17, st17⟩ := getF X7 hx hZ hown (host := "") (Or.inl (hw _ (List.mem_of_getElem? (i := 15) rfl))) Via.refl e7 Fc (g := (mkF m 6 #[.val (.ref a1), .val (.int (0 : Int32)), .val (.int (2 : Int32))] [(.ref a1), (.int (2 : Int32))])) rfl rfl (hb hby d4_6)
      refine Gl.st st17 ?_
      show Gl _ _ _ _ _ _ _ (T17.setTop (mkF m 9 #[.val (.ref a1), .val (.int (0 : Int32)), .val (.int (2 : Int32))] [(.ref ca), (.int (2 : Int32))]))
      have Vx18 := Vc
      obtain ⟨cl18, Ar18, qk18, S18, M18, H18, G18⟩ := Vx18
      refine Gl.st (X17.arraylength hx (by rw [e17]; exact Ar18.1) (State.isArrayOf_alike hZ.alike Ar18.2.1) (g := (mkF m 9 #[.val (.ref a1), .val (.int (0 : Int32)), .val (.int (2 : Int32))] [(.ref ca), (.int (2 : Int32))])) rfl rfl (hb hby d4_9)) ?_
      rw [len_of S18 M18]
      show Gl _ _ _ _ _ _ _ (T17.setTop (mkF m 10 #[.val (.ref a1), .val (.int (0 : Int32)), .val (.int (2 : Int32))] [(.int (3 : Int32)), (.int (2 : Int32))]))
      refine Gl.st (fun t k => XS.icmpNo X17.here hx rfl (hb hby d4_10) rfl (tlt (by decide : (2 : Int32) < (3 : Int32))).2.1 k) ?_
      show Gl _ _ _ _ _ _ _ (T17.setTop (mkF m 13 #[.val (.ref a1), .val (.int (0 : Int32)), .val (.int (2 : Int32))] []))
      refine Gl.st (fun t k => XS.iloadN X17.here hx rfl (hb hby d4_13) rfl  k) ?_
      show Gl _ _ _ _ _ _ _ (T17.setTop (mkF m 14 #[.val (.ref a1), .val (.int (0 : Int32)), .val (.int (2 : Int32))] [(.int (0 : Int32))]))
      refine Gl.st (fun t k => XS.ifYes X17.here hx rfl (pc0 := 14) (pc' := 38) rfl (hb hby d4_14) rfl ((if0 _ _).trans (teq (rfl : (0 : Int32) = (0 : Int32))).1) (by decide) (by decide) k) ?_
      show Gl _ _ _ _ _ _ _ (T17.setTop (mkF m 38 #[.val (.ref a1), .val (.int (0 : Int32)), .val (.int (2 : Int32))] []))
      refine Gl.st (fun t k => XS.iloadN X17.here hx rfl (hb hby d4_38) rfl  k) ?_
      show Gl _ _ _ _ _ _ _ (T17.setTop (mkF m 39 #[.val (.ref a1), .val (.int (0 : Int32)), .val (.int (2 : Int32))] [(.int (0 : Int32))]))
      exact Gl.retN X17 hx hlk Bd.returns (by simp) (hb hby d4_39) (⟨congrArg (fun z => some (Value.int z)) (show (nar .boolean (0 : Int32)) = (own_empty3 w0 w1 w2) from by simp only [own_empty3, if_pos hc23, if_neg hc23_2]), N0, e17⟩) (by decide) (by decide)
  · refine Gl.st (fun t k => XS.ifYes X3.here hx rfl (pc0 := 23) (pc' := 30) rfl (hb hby d4_23) rfl ((if0 _ _).trans (feq hc23).2) (by decide) (by decide) k) ?_
    show Gl _ _ _ _ _ _ _ (T3.setTop (mkF m 30 #[.val (.ref a1), .val (.int (1 : Int32)), .val (.int (0 : Int32))] []))
    refine Gl.st (fun t k => XS.iconst X3.here hx rfl (hb hby d4_30) k) ?_
    show Gl _ _ _ _ _ _ _ (T3.setTop (mkF m 31 #[.val (.ref a1), .val (.int (1 : Int32)), .val (.int (0 : Int32))] [(.int (0 : Int32))]))
    refine Gl.st (fun t k => XS.istoreN X3.here hx rfl (hb hby d4_31) rfl (l' := #[.val (.ref a1), .val (.int (0 : Int32)), .val (.int (0 : Int32))]) rfl k) ?_
    show Gl _ _ _ _ _ _ _ (T3.setTop (mkF m 32 #[.val (.ref a1), .val (.int (0 : Int32)), .val (.int (0 : Int32))] []))
    refine Gl.st (fun t k => XS.iinc X3.here hx rfl (hb hby d4_32) rfl (l' := #[.val (.ref a1), .val (.int (0 : Int32)), .val (.int (1 : Int32))]) rfl k) ?_
    show Gl _ _ _ _ _ _ _ (T3.setTop (mkF m 35 #[.val (.ref a1), .val (.int (0 : Int32)), .val (.int (1 : Int32))] []))
    refine Gl.st (fun t k => XS.goto X3.here hx rfl (pc0 := 35) (pc' := 4) rfl (hb hby d4_35) (by decide) (by decide) k) ?_
    show Gl _ _ _ _ _ _ _ (T3.setTop (mkF m 4 #[.val (.ref a1), .val (.int (0 : Int32)), .val (.int (1 : Int32))] []))
    refine Gl.st (fun t k => XS.iloadN X3.here hx rfl (hb hby d4_4) rfl  k) ?_
    show Gl _ _ _ _ _ _ _ (T3.setTop (mkF m 5 #[.val (.ref a1), .val (.int (0 : Int32)), .val (.int (1 : Int32))] [(.int (1 : Int32))]))
    refine Gl.st (fun t k => XS.aloadN X3.here hx rfl (hb hby d4_5) rfl rfl k) ?_
    show Gl _ _ _ _ _ _ _ (T3.setTop (mkF m 6 #[.val (.ref a1), .val (.int (0 : Int32)), .val (.int (1 : Int32))] [(.ref a1), (.int (1 : Int32))]))
    obtain ⟨T19, X19, e19, st19⟩ := getF X3 hx hZ hown (host := "") (Or.inl (hw _ (List.mem_of_getElem? (i := 15) rfl))) Via.refl e3 Fc (g := (mkF m 6 #[.val (.ref a1), .val (.int (0 : Int32)), .val (.int (1 : Int32))] [(.ref a1), (.int (1 : Int32))])) rfl rfl (hb hby d4_6)
    refine Gl.st st19 ?_
    show Gl _ _ _ _ _ _ _ (T19.setTop (mkF m 9 #[.val (.ref a1), .val (.int (0 : Int32)), .val (.int (1 : Int32))] [(.ref ca), (.int (1 : Int32))]))
    have Vx20 := Vc
    obtain ⟨cl20, Ar20, qk20, S20, M20, H20, G20⟩ := Vx20
    refine Gl.st (X19.arraylength hx (by rw [e19]; exact Ar20.1) (State.isArrayOf_alike hZ.alike Ar20.2.1) (g := (mkF m 9 #[.val (.ref a1), .val (.int (0 : Int32)), .val (.int (1 : Int32))] [(.ref ca), (.int (1 : Int32))])) rfl rfl (hb hby d4_9)) ?_
    rw [len_of S20 M20]
    show Gl _ _ _ _ _ _ _ (T19.setTop (mkF m 10 #[.val (.ref a1), .val (.int (0 : Int32)), .val (.int (1 : Int32))] [(.int (3 : Int32)), (.int (1 : Int32))]))
    refine Gl.st (fun t k => XS.icmpNo X19.here hx rfl (hb hby d4_10) rfl (tlt (by decide : (1 : Int32) < (3 : Int32))).2.1 k) ?_
    show Gl _ _ _ _ _ _ _ (T19.setTop (mkF m 13 #[.val (.ref a1), .val (.int (0 : Int32)), .val (.int (1 : Int32))] []))
    refine Gl.st (fun t k => XS.iloadN X19.here hx rfl (hb hby d4_13) rfl  k) ?_
    show Gl _ _ _ _ _ _ _ (T19.setTop (mkF m 14 #[.val (.ref a1), .val (.int (0 : Int32)), .val (.int (1 : Int32))] [(.int (0 : Int32))]))
    refine Gl.st (fun t k => XS.ifYes X19.here hx rfl (pc0 := 14) (pc' := 38) rfl (hb hby d4_14) rfl ((if0 _ _).trans (teq (rfl : (0 : Int32) = (0 : Int32))).1) (by decide) (by decide) k) ?_
    show Gl _ _ _ _ _ _ _ (T19.setTop (mkF m 38 #[.val (.ref a1), .val (.int (0 : Int32)), .val (.int (1 : Int32))] []))
    refine Gl.st (fun t k => XS.iloadN X19.here hx rfl (hb hby d4_38) rfl  k) ?_
    show Gl _ _ _ _ _ _ _ (T19.setTop (mkF m 39 #[.val (.ref a1), .val (.int (0 : Int32)), .val (.int (1 : Int32))] [(.int (0 : Int32))]))
    exact Gl.retN X19 hx hlk Bd.returns (by simp) (hb hby d4_39) (⟨congrArg (fun z => some (Value.int z)) (show (nar .boolean (0 : Int32)) = (own_empty3 w0 w1 w2) from by simp only [own_empty3, if_neg hc23]), N0, e19⟩) (by decide) (by decide)
def own_empty4 (w0 : Int32) (w1 : Int32) (w2 : Int32) (w3 : Int32) : Int32 := (if w0 = (0 : Int32) then (if w1 = (0 : Int32) then (if w2 = (0 : Int32) then (if w3 = (0 : Int32) then (nar .boolean (1 : Int32)) else (nar .boolean (0 : Int32))) else (nar .boolean (0 : Int32))) else (nar .boolean (0 : Int32))) else (nar .boolean (0 : Int32)))
def Q4v4 (Z : State) (a1 : Addr) (ca : Addr) (ck : ClassId) (w0 : Int32) (w1 : Int32) (w2 : Int32) (w3 : Int32) (h0 : Heap) (n0 : Nat) (v : Option Value) (h : Heap) (L : List Loc) : Prop := v = some (.int (own_empty4 w0 w1 w2 w3)) ∧ Fr n0 L ∧ h = h0
theorem ef_4v4 (m : MethodId) (a1 : Addr) : entryFrame m #[(.ref a1)] 3 = mkF m 0 #[.val (.ref a1), .unset, .unset] [] := by first | (simp [entryFrame, mkF, argsToLocals, Value.category]; done) | rfl
set_option maxRecDepth 65536 in
set_option maxHeartbeats 40000000 in
theorem rm4v4 (l : Launch) (Z : State) (a0 : Array Value) (hw : ∀ d ∈ tables_1, d.before a0 Z = true) (ws : List Jvm.Cond) (a1 : Addr) (ca : Addr) (ck : ClassId) (w0 : Int32) (w1 : Int32) (w2 : Int32) (w3 : Int32) (h0 : Heap) (n0 : Nat) (Fc : Fld Z h0 a1 "com/example/enact/enact/engine/Marking" "tokens" "[I" (.ref ca)) (Vc : Arv Z h0 ca ck .int (4 : Int32) [(.int w0), (.int w1), (.int w2), (.int w3)] (.int (0 : Int32))) :
    MetFree l (⟨"com/example/enact/enact/engine/Marking", "isEmpty", "()Z"⟩ : MethodName) (head1 (Jvm.Cond.code (⟨"com/example/enact/enact/engine/Marking", "isEmpty", "()Z"⟩ : MethodName) prog_27_method_16_code 3 (some .boolean) :: ws) ({ frames := 0, cells := 0, slots := 0, locals := 0 } : Room)) (fun a U => a = #[(.ref a1)] ∧ Z.Warmed39 U.vm ∧ U.heap = h0) (fun _ _ _ _ _ => True) (fun _ U o U' => ∃ v L, o = .returned v ∧ Q4v4 Z a1 ca ck w0 w1 w2 w3 h0 n0 v U'.heap L ∧ FrameEnd U o U' L ({ frames := 0, cells := 0, slots := 0, locals := 0 } : Room).cells ({ frames := 0, cells := 0, slots := 0, locals := 0 } : Room).slots) := by
  refine MetFree.of_bodySF pf_2 hisR ?_
  intro p e s m args below meth c s₁ Bd hml0 hP hK
  obtain ⟨rfl, hZ, hh⟩ := hP
  have hx := Bd.exec
  have hby := Bd.bytes
  have hlk : meth.locks = false := BodyLoose.notSynchronized Bd
  have hml : c.maxLocals = 3 := hml0
  have hown : s.vm.findClass "com/example/enact/enact/engine/Marking" = some m.cls := findClass_of_methodNamed Bd.named
  have hnm := (name_of_methodNamed Bd.named Bd.method).1
  have X0 : Stand p l e ({ frames := 0, cells := 0, slots := 0, locals := 0 } : Room) s m #[(.ref a1)] below meth c s₁ [] 0 0 := Stand.of_body Bd
  have e0 : s₁.heap = h0 := by rw [← hh, Bd.state]; rfl
  have N0 := Fr.nil n0
  show Gl p e below s (Q4v4 Z a1 ca ck w0 w1 w2 w3 h0 n0) ({ frames := 0, cells := 0, slots := 0, locals := 0 } : Room).cells ({ frames := 0, cells := 0, slots := 0, locals := 0 } : Room).slots (s₁.setTop (entryFrame m #[(.ref a1)] 3))
  rw [ef_4v4]
  show Gl _ _ _ _ _ _ _ (s₁.setTop (mkF m 0 #[.val (.ref a1), .unset, .unset] []))
  refine Gl.st (fun t k => XS.iconst X0.here hx rfl (hb hby d4_0) k) ?_
  show Gl _ _ _ _ _ _ _ (s₁.setTop (mkF m 1 #[.val (.ref a1), .unset, .unset] [(.int (1 : Int32))]))
  refine Gl.st (fun t k => XS.istoreN X0.here hx rfl (hb hby d4_1) rfl (l' := #[.val (.ref a1), .val (.int (1 : Int32)), .unset]) rfl k) ?_
  show Gl _ _ _ _ _ _ _ (s₁.setTop (mkF m 2 #[.val (.ref a1), .val (.int (1 : Int32)), .unset] []))
  refine Gl.st (fun t k => XS.iconst X0.here hx rfl (hb hby d4_2) k) ?_
  show Gl _ _ _ _ _ _ _ (s₁.setTop (mkF m 3 #[.val (.ref a1), .val (.int (1 : Int32)), .unset] [(.int (0 : Int32))]))
  refine Gl.st (fun t k => XS.istoreN X0.here hx rfl (hb hby d4_3) rfl (l' := #[.val (.ref a1), .val (.int (1 : Int32)), .val (.int (0 : Int32))]) rfl k) ?_
  show Gl _ _ _ _ _ _ _ (s₁.setTop (mkF m 4 #[.val (.ref a1), .val (.int (1 : Int32)), .val (.int (0 : Int32))] []))
  refine Gl.st (fun t k => XS.iloadN X0.here hx rfl (hb hby d4_4) rfl  k) ?_
  show Gl _ _ _ _ _ _ _ (s₁.setTop (mkF m 5 #[.val (.ref a1), .val (.int (1 : Int32)), .val (.int (0 : Int32))] [(.int (0 : Int32))]))
  refine Gl.st (fun t k => XS.aloadN X0.here hx rfl (hb hby d4_5) rfl rfl k) ?_
  show Gl _ _ _ _ _ _ _ (s₁.setTop (mkF m 6 #[.val (.ref a1), .val (.int (1 : Int32)), .val (.int (0 : Int32))] [(.ref a1), (.int (0 : Int32))]))
  obtain ⟨T1, X1, e1, st1⟩ := getF X0 hx hZ hown (host := "") (Or.inl (hw _ (List.mem_of_getElem? (i := 15) rfl))) Via.refl e0 Fc (g := (mkF m 6 #[.val (.ref a1), .val (.int (1 : Int32)), .val (.int (0 : Int32))] [(.ref a1), (.int (0 : Int32))])) rfl rfl (hb hby d4_6)
  refine Gl.st st1 ?_
  show Gl _ _ _ _ _ _ _ (T1.setTop (mkF m 9 #[.val (.ref a1), .val (.int (1 : Int32)), .val (.int (0 : Int32))] [(.ref ca), (.int (0 : Int32))]))
  have Vx2 := Vc
  obtain ⟨cl2, Ar2, qk2, S2, M2, H2, G2⟩ := Vx2
  refine Gl.st (X1.arraylength hx (by rw [e1]; exact Ar2.1) (State.isArrayOf_alike hZ.alike Ar2.2.1) (g := (mkF m 9 #[.val (.ref a1), .val (.int (1 : Int32)), .val (.int (0 : Int32))] [(.ref ca), (.int (0 : Int32))])) rfl rfl (hb hby d4_9)) ?_
  rw [len_of S2 M2]
  show Gl _ _ _ _ _ _ _ (T1.setTop (mkF m 10 #[.val (.ref a1), .val (.int (1 : Int32)), .val (.int (0 : Int32))] [(.int (4 : Int32)), (.int (0 : Int32))]))
  refine Gl.st (fun t k => XS.icmpNo X1.here hx rfl (hb hby d4_10) rfl (tlt (by decide : (0 : Int32) < (4 : Int32))).2.1 k) ?_
  show Gl _ _ _ _ _ _ _ (T1.setTop (mkF m 13 #[.val (.ref a1), .val (.int (1 : Int32)), .val (.int (0 : Int32))] []))
  refine Gl.st (fun t k => XS.iloadN X1.here hx rfl (hb hby d4_13) rfl  k) ?_
  show Gl _ _ _ _ _ _ _ (T1.setTop (mkF m 14 #[.val (.ref a1), .val (.int (1 : Int32)), .val (.int (0 : Int32))] [(.int (1 : Int32))]))
  refine Gl.st (fun t k => XS.ifNo X1.here hx rfl (hb hby d4_14) rfl ((if0 _ _).trans (feq (by decide : ¬ ((1 : Int32) = (0 : Int32)))).1) k) ?_
  show Gl _ _ _ _ _ _ _ (T1.setTop (mkF m 17 #[.val (.ref a1), .val (.int (1 : Int32)), .val (.int (0 : Int32))] []))
  refine Gl.st (fun t k => XS.aloadN X1.here hx rfl (hb hby d4_17) rfl rfl k) ?_
  show Gl _ _ _ _ _ _ _ (T1.setTop (mkF m 18 #[.val (.ref a1), .val (.int (1 : Int32)), .val (.int (0 : Int32))] [(.ref a1)]))
  obtain ⟨T3, X3, e3, st3⟩ := getF X1 hx hZ hown (host := "") (Or.inl (hw _ (List.mem_of_getElem? (i := 15) rfl))) Via.refl e1 Fc (g := (mkF m 18 #[.val (.ref a1), .val (.int (1 : Int32)), .val (.int (0 : Int32))] [(.ref a1)])) rfl rfl (hb hby d4_18)
  refine Gl.st st3 ?_
  show Gl _ _ _ _ _ _ _ (T3.setTop (mkF m 21 #[.val (.ref a1), .val (.int (1 : Int32)), .val (.int (0 : Int32))] [(.ref ca)]))
  refine Gl.st (fun t k => XS.iloadN X3.here hx rfl (hb hby d4_21) rfl  k) ?_
  show Gl _ _ _ _ _ _ _ (T3.setTop (mkF m 22 #[.val (.ref a1), .val (.int (1 : Int32)), .val (.int (0 : Int32))] [(.int (0 : Int32)), (.ref ca)]))
  have Vx4 := Vc
  obtain ⟨cl4, Ar4, qk4, S4, M4, H4, G4⟩ := Vx4
  have hin4 : ¬ ((0 : Int32) < 0 ∨ cl4.slots.size ≤ ((0 : Int32)).toNatClampNeg) := inb_of S4 ⟨by decide, by decide⟩
  have hat4 : cl4.slots[((0 : Int32)).toNatClampNeg]? = some (.int w0) := H4.at hin4 rfl
  refine Gl.st (X3.iaload hx (j := (0 : Int32)) (v := (.int w0)) (by rw [e3]; exact Ar4.1) (State.isArrayOf_alike hZ.alike Ar4.2.1) Ar4.2.2 hin4 hat4 (g := (mkF m 22 #[.val (.ref a1), .val (.int (1 : Int32)), .val (.int (0 : Int32))] [(.int (0 : Int32)), (.ref ca)])) rfl rfl (hb hby d4_22)) ?_
  show Gl _ _ _ _ _ _ _ (T3.setTop (mkF m 23 #[.val (.ref a1), .val (.int (1 : Int32)), .val (.int (0 : Int32))] [(.int w0)]))
  by_cases hc23 : w0 = (0 : Int32)
  · refine Gl.st (fun t k => XS.ifNo X3.here hx rfl (hb hby d4_23) rfl ((if0 _ _).trans (teq hc23).2) k) ?_
    show Gl _ _ _ _ _ _ _ (T3.setTop (mkF m 26 #[.val (.ref a1), .val (.int (1 : Int32)), .val (.int (0 : Int32))] []))
    refine Gl.st (fun t k => XS.iconst X3.here hx rfl (hb hby d4_26) k) ?_
    show Gl _ _ _ _ _ _ _ (T3.setTop (mkF m 27 #[.val (.ref a1), .val (.int (1 : Int32)), .val (.int (0 : Int32))] [(.int (1 : Int32))]))
    refine Gl.st (fun t k => XS.goto X3.here hx rfl (pc0 := 27) (pc' := 31) rfl (hb hby d4_27) (by decide) (by decide) k) ?_
    show Gl _ _ _ _ _ _ _ (T3.setTop (mkF m 31 #[.val (.ref a1), .val (.int (1 : Int32)), .val (.int (0 : Int32))] [(.int (1 : Int32))]))
    refine Gl.st (fun t k => XS.istoreN X3.here hx rfl (hb hby d4_31) rfl (l' := #[.val (.ref a1), .val (.int (1 : Int32)), .val (.int (0 : Int32))]) rfl k) ?_
    show Gl _ _ _ _ _ _ _ (T3.setTop (mkF m 32 #[.val (.ref a1), .val (.int (1 : Int32)), .val (.int (0 : Int32))] []))
    refine Gl.st (fun t k => XS.iinc X3.here hx rfl (hb hby d4_32) rfl (l' := #[.val (.ref a1), .val (.int (1 : Int32)), .val (.int (1 : Int32))]) rfl k) ?_
    show Gl _ _ _ _ _ _ _ (T3.setTop (mkF m 35 #[.val (.ref a1), .val (.int (1 : Int32)), .val (.int (1 : Int32))] []))
    refine Gl.st (fun t k => XS.goto X3.here hx rfl (pc0 := 35) (pc' := 4) rfl (hb hby d4_35) (by decide) (by decide) k) ?_
    show Gl _ _ _ _ _ _ _ (T3.setTop (mkF m 4 #[.val (.ref a1), .val (.int (1 : Int32)), .val (.int (1 : Int32))] []))
    refine Gl.st (fun t k => XS.iloadN X3.here hx rfl (hb hby d4_4) rfl  k) ?_
    show Gl _ _ _ _ _ _ _ (T3.setTop (mkF m 5 #[.val (.ref a1), .val (.int (1 : Int32)), .val (.int (1 : Int32))] [(.int (1 : Int32))]))
    refine Gl.st (fun t k => XS.aloadN X3.here hx rfl (hb hby d4_5) rfl rfl k) ?_
    show Gl _ _ _ _ _ _ _ (T3.setTop (mkF m 6 #[.val (.ref a1), .val (.int (1 : Int32)), .val (.int (1 : Int32))] [(.ref a1), (.int (1 : Int32))]))
    obtain ⟨T5, X5, e5, st5⟩ := getF X3 hx hZ hown (host := "") (Or.inl (hw _ (List.mem_of_getElem? (i := 15) rfl))) Via.refl e3 Fc (g := (mkF m 6 #[.val (.ref a1), .val (.int (1 : Int32)), .val (.int (1 : Int32))] [(.ref a1), (.int (1 : Int32))])) rfl rfl (hb hby d4_6)
    refine Gl.st st5 ?_
    show Gl _ _ _ _ _ _ _ (T5.setTop (mkF m 9 #[.val (.ref a1), .val (.int (1 : Int32)), .val (.int (1 : Int32))] [(.ref ca), (.int (1 : Int32))]))
    have Vx6 := Vc
    obtain ⟨cl6, Ar6, qk6, S6, M6, H6, G6⟩ := Vx6
    refine Gl.st (X5.arraylength hx (by rw [e5]; exact Ar6.1) (State.isArrayOf_alike hZ.alike Ar6.2.1) (g := (mkF m 9 #[.val (.ref a1), .val (.int (1 : Int32)), .val (.int (1 : Int32))] [(.ref ca), (.int (1 : Int32))])) rfl rfl (hb hby d4_9)) ?_
    rw [len_of S6 M6]
    show Gl _ _ _ _ _ _ _ (T5.setTop (mkF m 10 #[.val (.ref a1), .val (.int (1 : Int32)), .val (.int (1 : Int32))] [(.int (4 : Int32)), (.int (1 : Int32))]))
    refine Gl.st (fun t k => XS.icmpNo X5.here hx rfl (hb hby d4_10) rfl (tlt (by decide : (1 : Int32) < (4 : Int32))).2.1 k) ?_
    show Gl _ _ _ _ _ _ _ (T5.setTop (mkF m 13 #[.val (.ref a1), .val (.int (1 : Int32)), .val (.int (1 : Int32))] []))
    refine Gl.st (fun t k => XS.iloadN X5.here hx rfl (hb hby d4_13) rfl  k) ?_
    show Gl _ _ _ _ _ _ _ (T5.setTop (mkF m 14 #[.val (.ref a1), .val (.int (1 : Int32)), .val (.int (1 : Int32))] [(.int (1 : Int32))]))
    refine Gl.st (fun t k => XS.ifNo X5.here hx rfl (hb hby d4_14) rfl ((if0 _ _).trans (feq (by decide : ¬ ((1 : Int32) = (0 : Int32)))).1) k) ?_
    show Gl _ _ _ _ _ _ _ (T5.setTop (mkF m 17 #[.val (.ref a1), .val (.int (1 : Int32)), .val (.int (1 : Int32))] []))
    refine Gl.st (fun t k => XS.aloadN X5.here hx rfl (hb hby d4_17) rfl rfl k) ?_
    show Gl _ _ _ _ _ _ _ (T5.setTop (mkF m 18 #[.val (.ref a1), .val (.int (1 : Int32)), .val (.int (1 : Int32))] [(.ref a1)]))
    obtain ⟨T7, X7, e7, st7⟩ := getF X5 hx hZ hown (host := "") (Or.inl (hw _ (List.mem_of_getElem? (i := 15) rfl))) Via.refl e5 Fc (g := (mkF m 18 #[.val (.ref a1), .val (.int (1 : Int32)), .val (.int (1 : Int32))] [(.ref a1)])) rfl rfl (hb hby d4_18)
    refine Gl.st st7 ?_
    show Gl _ _ _ _ _ _ _ (T7.setTop (mkF m 21 #[.val (.ref a1), .val (.int (1 : Int32)), .val (.int (1 : Int32))] [(.ref ca)]))
    refine Gl.st (fun t k => XS.iloadN X7.here hx rfl (hb hby d4_21) rfl  k) ?_
    show Gl _ _ _ _ _ _ _ (T7.setTop (mkF m 22 #[.val (.ref a1), .val (.int (1 : Int32)), .val (.int (1 : Int32))] [(.int (1 : Int32)), (.ref ca)]))
    have Vx8 := Vc
    obtain ⟨cl8, Ar8, qk8, S8, M8, H8, G8⟩ := Vx8
    have hin8 : ¬ ((1 : Int32) < 0 ∨ cl8.slots.size ≤ ((1 : Int32)).toNatClampNeg) := inb_of S8 ⟨by decide, by decide⟩
    have hat8 : cl8.slots[((1 : Int32)).toNatClampNeg]? = some (.int w1) := H8.at hin8 rfl
    refine Gl.st (X7.iaload hx (j := (1 : Int32)) (v := (.int w1)) (by rw [e7]; exact Ar8.1) (State.isArrayOf_alike hZ.alike Ar8.2.1) Ar8.2.2 hin8 hat8 (g := (mkF m 22 #[.val (.ref a1), .val (.int (1 : Int32)), .val (.int (1 : Int32))] [(.int (1 : Int32)), (.ref ca)])) rfl rfl (hb hby d4_22)) ?_
    show Gl _ _ _ _ _ _ _ (T7.setTop (mkF m 23 #[.val (.ref a1), .val (.int (1 : Int32)), .val (.int (1 : Int32))] [(.int w1)]))
    by_cases hc23_2 : w1 = (0 : Int32)
    · refine Gl.st (fun t k => XS.ifNo X7.here hx rfl (hb hby d4_23) rfl ((if0 _ _).trans (teq hc23_2).2) k) ?_
      show Gl _ _ _ _ _ _ _ (T7.setTop (mkF m 26 #[.val (.ref a1), .val (.int (1 : Int32)), .val (.int (1 : Int32))] []))
      refine Gl.st (fun t k => XS.iconst X7.here hx rfl (hb hby d4_26) k) ?_
      show Gl _ _ _ _ _ _ _ (T7.setTop (mkF m 27 #[.val (.ref a1), .val (.int (1 : Int32)), .val (.int (1 : Int32))] [(.int (1 : Int32))]))
      refine Gl.st (fun t k => XS.goto X7.here hx rfl (pc0 := 27) (pc' := 31) rfl (hb hby d4_27) (by decide) (by decide) k) ?_
      show Gl _ _ _ _ _ _ _ (T7.setTop (mkF m 31 #[.val (.ref a1), .val (.int (1 : Int32)), .val (.int (1 : Int32))] [(.int (1 : Int32))]))
      refine Gl.st (fun t k => XS.istoreN X7.here hx rfl (hb hby d4_31) rfl (l' := #[.val (.ref a1), .val (.int (1 : Int32)), .val (.int (1 : Int32))]) rfl k) ?_
      show Gl _ _ _ _ _ _ _ (T7.setTop (mkF m 32 #[.val (.ref a1), .val (.int (1 : Int32)), .val (.int (1 : Int32))] []))
      refine Gl.st (fun t k => XS.iinc X7.here hx rfl (hb hby d4_32) rfl (l' := #[.val (.ref a1), .val (.int (1 : Int32)), .val (.int (2 : Int32))]) rfl k) ?_
      show Gl _ _ _ _ _ _ _ (T7.setTop (mkF m 35 #[.val (.ref a1), .val (.int (1 : Int32)), .val (.int (2 : Int32))] []))
      refine Gl.st (fun t k => XS.goto X7.here hx rfl (pc0 := 35) (pc' := 4) rfl (hb hby d4_35) (by decide) (by decide) k) ?_
      show Gl _ _ _ _ _ _ _ (T7.setTop (mkF m 4 #[.val (.ref a1), .val (.int (1 : Int32)), .val (.int (2 : Int32))] []))
      refine Gl.st (fun t k => XS.iloadN X7.here hx rfl (hb hby d4_4) rfl  k) ?_
      show Gl _ _ _ _ _ _ _ (T7.setTop (mkF m 5 #[.val (.ref a1), .val (.int (1 : Int32)), .val (.int (2 : Int32))] [(.int (2 : Int32))]))
      refine Gl.st (fun t k => XS.aloadN X7.here hx rfl (hb hby d4_5) rfl rfl k) ?_
      show Gl _ _ _ _ _ _ _ (T7.setTop (mkF m 6 #[.val (.ref a1), .val (.int (1 : Int32)), .val (.int (2 : Int32))] [(.ref a1), (.int (2 : Int32))]))
      obtain ⟨T9, X9, e9, st9⟩ := getF X7 hx hZ hown (host := "") (Or.inl (hw _ (List.mem_of_getElem? (i := 15) rfl))) Via.refl e7 Fc (g := (mkF m 6 #[.val (.ref a1), .val (.int (1 : Int32)), .val (.int (2 : Int32))] [(.ref a1), (.int (2 : Int32))])) rfl rfl (hb hby d4_6)
      refine Gl.st st9 ?_
      show Gl _ _ _ _ _ _ _ (T9.setTop (mkF m 9 #[.val (.ref a1), .val (.int (1 : Int32)), .val (.int (2 : Int32))] [(.ref ca), (.int (2 : Int32))]))
      have Vx10 := Vc
      obtain ⟨cl10, Ar10, qk10, S10, M10, H10, G10⟩ := Vx10
      refine Gl.st (X9.arraylength hx (by rw [e9]; exact Ar10.1) (State.isArrayOf_alike hZ.alike Ar10.2.1) (g := (mkF m 9 #[.val (.ref a1), .val (.int (1 : Int32)), .val (.int (2 : Int32))] [(.ref ca), (.int (2 : Int32))])) rfl rfl (hb hby d4_9)) ?_
      rw [len_of S10 M10]
      show Gl _ _ _ _ _ _ _ (T9.setTop (mkF m 10 #[.val (.ref a1), .val (.int (1 : Int32)), .val (.int (2 : Int32))] [(.int (4 : Int32)), (.int (2 : Int32))]))
      refine Gl.st (fun t k => XS.icmpNo X9.here hx rfl (hb hby d4_10) rfl (tlt (by decide : (2 : Int32) < (4 : Int32))).2.1 k) ?_
      show Gl _ _ _ _ _ _ _ (T9.setTop (mkF m 13 #[.val (.ref a1), .val (.int (1 : Int32)), .val (.int (2 : Int32))] []))
      refine Gl.st (fun t k => XS.iloadN X9.here hx rfl (hb hby d4_13) rfl  k) ?_
      show Gl _ _ _ _ _ _ _ (T9.setTop (mkF m 14 #[.val (.ref a1), .val (.int (1 : Int32)), .val (.int (2 : Int32))] [(.int (1 : Int32))]))
      refine Gl.st (fun t k => XS.ifNo X9.here hx rfl (hb hby d4_14) rfl ((if0 _ _).trans (feq (by decide : ¬ ((1 : Int32) = (0 : Int32)))).1) k) ?_
      show Gl _ _ _ _ _ _ _ (T9.setTop (mkF m 17 #[.val (.ref a1), .val (.int (1 : Int32)), .val (.int (2 : Int32))] []))
      refine Gl.st (fun t k => XS.aloadN X9.here hx rfl (hb hby d4_17) rfl rfl k) ?_
      show Gl _ _ _ _ _ _ _ (T9.setTop (mkF m 18 #[.val (.ref a1), .val (.int (1 : Int32)), .val (.int (2 : Int32))] [(.ref a1)]))
      obtain ⟨T11, X11, e11, st11⟩ := getF X9 hx hZ hown (host := "") (Or.inl (hw _ (List.mem_of_getElem? (i := 15) rfl))) Via.refl e9 Fc (g := (mkF m 18 #[.val (.ref a1), .val (.int (1 : Int32)), .val (.int (2 : Int32))] [(.ref a1)])) rfl rfl (hb hby d4_18)
      refine Gl.st st11 ?_
      show Gl _ _ _ _ _ _ _ (T11.setTop (mkF m 21 #[.val (.ref a1), .val (.int (1 : Int32)), .val (.int (2 : Int32))] [(.ref ca)]))
      refine Gl.st (fun t k => XS.iloadN X11.here hx rfl (hb hby d4_21) rfl  k) ?_
      show Gl _ _ _ _ _ _ _ (T11.setTop (mkF m 22 #[.val (.ref a1), .val (.int (1 : Int32)), .val (.int (2 : Int32))] [(.int (2 : Int32)), (.ref ca)]))
      have Vx12 := Vc
      obtain ⟨cl12, Ar12, qk12, S12, M12, H12, G12⟩ := Vx12
      have hin12 : ¬ ((2 : Int32) < 0 ∨ cl12.slots.size ≤ ((2 : Int32)).toNatClampNeg) := inb_of S12 ⟨by decide, by decide⟩
      have hat12 : cl12.slots[((2 : Int32)).toNatClampNeg]? = some (.int w2) := H12.at hin12 rfl
      refine Gl.st (X11.iaload hx (j := (2 : Int32)) (v := (.int w2)) (by rw [e11]; exact Ar12.1) (State.isArrayOf_alike hZ.alike Ar12.2.1) Ar12.2.2 hin12 hat12 (g := (mkF m 22 #[.val (.ref a1), .val (.int (1 : Int32)), .val (.int (2 : Int32))] [(.int (2 : Int32)), (.ref ca)])) rfl rfl (hb hby d4_22)) ?_
      show Gl _ _ _ _ _ _ _ (T11.setTop (mkF m 23 #[.val (.ref a1), .val (.int (1 : Int32)), .val (.int (2 : Int32))] [(.int w2)]))
      by_cases hc23_3 : w2 = (0 : Int32)
      · refine Gl.st (fun t k => XS.ifNo X11.here hx rfl (hb hby d4_23) rfl ((if0 _ _).trans (teq hc23_3).2) k) ?_
        show Gl _ _ _ _ _ _ _ (T11.setTop (mkF m 26 #[.val (.ref a1), .val (.int (1 : Int32)), .val (.int (2 : Int32))] []))
        refine Gl.st (fun t k => XS.iconst X11.here hx rfl (hb hby d4_26) k) ?_
        show Gl _ _ _ _ _ _ _ (T11.setTop (mkF m 27 #[.val (.ref a1), .val (.int (1 : Int32)), .val (.int (2 : Int32))] [(.int (1 : Int32))]))
        refine Gl.st (fun t k => XS.goto X11.here hx rfl (pc0 := 27) (pc' := 31) rfl (hb hby d4_27) (by decide) (by decide) k) ?_
        show Gl _ _ _ _ _ _ _ (T11.setTop (mkF m 31 #[.val (.ref a1), .val (.int (1 : Int32)), .val (.int (2 : Int32))] [(.int (1 : Int32))]))
        refine Gl.st (fun t k => XS.istoreN X11.here hx rfl (hb hby d4_31) rfl (l' := #[.val (.ref a1), .val (.int (1 : Int32)), .val (.int (2 : Int32))]) rfl k) ?_
        show Gl _ _ _ _ _ _ _ (T11.setTop (mkF m 32 #[.val (.ref a1), .val (.int (1 : Int32)), .val (.int (2 : Int32))] []))
        refine Gl.st (fun t k => XS.iinc X11.here hx rfl (hb hby d4_32) rfl (l' := #[.val (.ref a1), .val (.int (1 : Int32)), .val (.int (3 : Int32))]) rfl k) ?_
        show Gl _ _ _ _ _ _ _ (T11.setTop (mkF m 35 #[.val (.ref a1), .val (.int (1 : Int32)), .val (.int (3 : Int32))] []))
        refine Gl.st (fun t k => XS.goto X11.here hx rfl (pc0 := 35) (pc' := 4) rfl (hb hby d4_35) (by decide) (by decide) k) ?_
        show Gl _ _ _ _ _ _ _ (T11.setTop (mkF m 4 #[.val (.ref a1), .val (.int (1 : Int32)), .val (.int (3 : Int32))] []))
        refine Gl.st (fun t k => XS.iloadN X11.here hx rfl (hb hby d4_4) rfl  k) ?_
        show Gl _ _ _ _ _ _ _ (T11.setTop (mkF m 5 #[.val (.ref a1), .val (.int (1 : Int32)), .val (.int (3 : Int32))] [(.int (3 : Int32))]))
        refine Gl.st (fun t k => XS.aloadN X11.here hx rfl (hb hby d4_5) rfl rfl k) ?_
        show Gl _ _ _ _ _ _ _ (T11.setTop (mkF m 6 #[.val (.ref a1), .val (.int (1 : Int32)), .val (.int (3 : Int32))] [(.ref a1), (.int (3 : Int32))]))
        obtain ⟨T13, X13, e13, st13⟩ := getF X11 hx hZ hown (host := "") (Or.inl (hw _ (List.mem_of_getElem? (i := 15) rfl))) Via.refl e11 Fc (g := (mkF m 6 #[.val (.ref a1), .val (.int (1 : Int32)), .val (.int (3 : Int32))] [(.ref a1), (.int (3 : Int32))])) rfl rfl (hb hby d4_6)
        refine Gl.st st13 ?_
        show Gl _ _ _ _ _ _ _ (T13.setTop (mkF m 9 #[.val (.ref a1), .val (.int (1 : Int32)), .val (.int (3 : Int32))] [(.ref ca), (.int (3 : Int32))]))
        have Vx14 := Vc
        obtain ⟨cl14, Ar14, qk14, S14, M14, H14, G14⟩ := Vx14
        refine Gl.st (X13.arraylength hx (by rw [e13]; exact Ar14.1) (State.isArrayOf_alike hZ.alike Ar14.2.1) (g := (mkF m 9 #[.val (.ref a1), .val (.int (1 : Int32)), .val (.int (3 : Int32))] [(.ref ca), (.int (3 : Int32))])) rfl rfl (hb hby d4_9)) ?_
        rw [len_of S14 M14]
        show Gl _ _ _ _ _ _ _ (T13.setTop (mkF m 10 #[.val (.ref a1), .val (.int (1 : Int32)), .val (.int (3 : Int32))] [(.int (4 : Int32)), (.int (3 : Int32))]))
        refine Gl.st (fun t k => XS.icmpNo X13.here hx rfl (hb hby d4_10) rfl (tlt (by decide : (3 : Int32) < (4 : Int32))).2.1 k) ?_
        show Gl _ _ _ _ _ _ _ (T13.setTop (mkF m 13 #[.val (.ref a1), .val (.int (1 : Int32)), .val (.int (3 : Int32))] []))
        refine Gl.st (fun t k => XS.iloadN X13.here hx rfl (hb hby d4_13) rfl  k) ?_
        show Gl _ _ _ _ _ _ _ (T13.setTop (mkF m 14 #[.val (.ref a1), .val (.int (1 : Int32)), .val (.int (3 : Int32))] [(.int (1 : Int32))]))
        refine Gl.st (fun t k => XS.ifNo X13.here hx rfl (hb hby d4_14) rfl ((if0 _ _).trans (feq (by decide : ¬ ((1 : Int32) = (0 : Int32)))).1) k) ?_
        show Gl _ _ _ _ _ _ _ (T13.setTop (mkF m 17 #[.val (.ref a1), .val (.int (1 : Int32)), .val (.int (3 : Int32))] []))
        refine Gl.st (fun t k => XS.aloadN X13.here hx rfl (hb hby d4_17) rfl rfl k) ?_
        show Gl _ _ _ _ _ _ _ (T13.setTop (mkF m 18 #[.val (.ref a1), .val (.int (1 : Int32)), .val (.int (3 : Int32))] [(.ref a1)]))
        obtain ⟨T15, X15, e15, st15⟩ := getF X13 hx hZ hown (host := "") (Or.inl (hw _ (List.mem_of_getElem? (i := 15) rfl))) Via.refl e13 Fc (g := (mkF m 18 #[.val (.ref a1), .val (.int (1 : Int32)), .val (.int (3 : Int32))] [(.ref a1)])) rfl rfl (hb hby d4_18)
        refine Gl.st st15 ?_
        show Gl _ _ _ _ _ _ _ (T15.setTop (mkF m 21 #[.val (.ref a1), .val (.int (1 : Int32)), .val (.int (3 : Int32))] [(.ref ca)]))
        refine Gl.st (fun t k => XS.iloadN X15.here hx rfl (hb hby d4_21) rfl  k) ?_
        show Gl _ _ _ _ _ _ _ (T15.setTop (mkF m 22 #[.val (.ref a1), .val (.int (1 : Int32)), .val (.int (3 : Int32))] [(.int (3 : Int32)), (.ref ca)]))
        have Vx16 := Vc
        obtain ⟨cl16, Ar16, qk16, S16, M16, H16, G16⟩ := Vx16
        have hin16 : ¬ ((3 : Int32) < 0 ∨ cl16.slots.size ≤ ((3 : Int32)).toNatClampNeg) := inb_of S16 ⟨by decide, by decide⟩
        have hat16 : cl16.slots[((3 : Int32)).toNatClampNeg]? = some (.int w3) := H16.at hin16 rfl
        refine Gl.st (X15.iaload hx (j := (3 : Int32)) (v := (.int w3)) (by rw [e15]; exact Ar16.1) (State.isArrayOf_alike hZ.alike Ar16.2.1) Ar16.2.2 hin16 hat16 (g := (mkF m 22 #[.val (.ref a1), .val (.int (1 : Int32)), .val (.int (3 : Int32))] [(.int (3 : Int32)), (.ref ca)])) rfl rfl (hb hby d4_22)) ?_
        show Gl _ _ _ _ _ _ _ (T15.setTop (mkF m 23 #[.val (.ref a1), .val (.int (1 : Int32)), .val (.int (3 : Int32))] [(.int w3)]))
        by_cases hc23_4 : w3 = (0 : Int32)
        · refine Gl.st (fun t k => XS.ifNo X15.here hx rfl (hb hby d4_23) rfl ((if0 _ _).trans (teq hc23_4).2) k) ?_
          show Gl _ _ _ _ _ _ _ (T15.setTop (mkF m 26 #[.val (.ref a1), .val (.int (1 : Int32)), .val (.int (3 : Int32))] []))
          refine Gl.st (fun t k => XS.iconst X15.here hx rfl (hb hby d4_26) k) ?_
          show Gl _ _ _ _ _ _ _ (T15.setTop (mkF m 27 #[.val (.ref a1), .val (.int (1 : Int32)), .val (.int (3 : Int32))] [(.int (1 : Int32))]))
          refine Gl.st (fun t k => XS.goto X15.here hx rfl (pc0 := 27) (pc' := 31) rfl (hb hby d4_27) (by decide) (by decide) k) ?_
          show Gl _ _ _ _ _ _ _ (T15.setTop (mkF m 31 #[.val (.ref a1), .val (.int (1 : Int32)), .val (.int (3 : Int32))] [(.int (1 : Int32))]))
          refine Gl.st (fun t k => XS.istoreN X15.here hx rfl (hb hby d4_31) rfl (l' := #[.val (.ref a1), .val (.int (1 : Int32)), .val (.int (3 : Int32))]) rfl k) ?_
          show Gl _ _ _ _ _ _ _ (T15.setTop (mkF m 32 #[.val (.ref a1), .val (.int (1 : Int32)), .val (.int (3 : Int32))] []))
          refine Gl.st (fun t k => XS.iinc X15.here hx rfl (hb hby d4_32) rfl (l' := #[.val (.ref a1), .val (.int (1 : Int32)), .val (.int (4 : Int32))]) rfl k) ?_
          show Gl _ _ _ _ _ _ _ (T15.setTop (mkF m 35 #[.val (.ref a1), .val (.int (1 : Int32)), .val (.int (4 : Int32))] []))
          refine Gl.st (fun t k => XS.goto X15.here hx rfl (pc0 := 35) (pc' := 4) rfl (hb hby d4_35) (by decide) (by decide) k) ?_
          show Gl _ _ _ _ _ _ _ (T15.setTop (mkF m 4 #[.val (.ref a1), .val (.int (1 : Int32)), .val (.int (4 : Int32))] []))
          refine Gl.st (fun t k => XS.iloadN X15.here hx rfl (hb hby d4_4) rfl  k) ?_
          show Gl _ _ _ _ _ _ _ (T15.setTop (mkF m 5 #[.val (.ref a1), .val (.int (1 : Int32)), .val (.int (4 : Int32))] [(.int (4 : Int32))]))
          refine Gl.st (fun t k => XS.aloadN X15.here hx rfl (hb hby d4_5) rfl rfl k) ?_
          show Gl _ _ _ _ _ _ _ (T15.setTop (mkF m 6 #[.val (.ref a1), .val (.int (1 : Int32)), .val (.int (4 : Int32))] [(.ref a1), (.int (4 : Int32))]))
          obtain ⟨T17, X17, e17, st17⟩ := getF X15 hx hZ hown (host := "") (Or.inl (hw _ (List.mem_of_getElem? (i := 15) rfl))) Via.refl e15 Fc (g := (mkF m 6 #[.val (.ref a1), .val (.int (1 : Int32)), .val (.int (4 : Int32))] [(.ref a1), (.int (4 : Int32))])) rfl rfl (hb hby d4_6)
          refine Gl.st st17 ?_
          show Gl _ _ _ _ _ _ _ (T17.setTop (mkF m 9 #[.val (.ref a1), .val (.int (1 : Int32)), .val (.int (4 : Int32))] [(.ref ca), (.int (4 : Int32))]))
          have Vx18 := Vc
          obtain ⟨cl18, Ar18, qk18, S18, M18, H18, G18⟩ := Vx18
          refine Gl.st (X17.arraylength hx (by rw [e17]; exact Ar18.1) (State.isArrayOf_alike hZ.alike Ar18.2.1) (g := (mkF m 9 #[.val (.ref a1), .val (.int (1 : Int32)), .val (.int (4 : Int32))] [(.ref ca), (.int (4 : Int32))])) rfl rfl (hb hby d4_9)) ?_
          rw [len_of S18 M18]
          show Gl _ _ _ _ _ _ _ (T17.setTop (mkF m 10 #[.val (.ref a1), .val (.int (1 : Int32)), .val (.int (4 : Int32))] [(.int (4 : Int32)), (.int (4 : Int32))]))
          refine Gl.st (fun t k => XS.icmpYes X17.here hx rfl (pc0 := 10) (pc' := 38) rfl (hb hby d4_10) rfl (flt (by decide : ¬ ((4 : Int32) < (4 : Int32)))).2.1 (by decide) (by decide) k) ?_
          show Gl _ _ _ _ _ _ _ (T17.setTop (mkF m 38 #[.val (.ref a1), .val (.int (1 : Int32)), .val (.int (4 : Int32))] []))
          refine Gl.st (fun t k => XS.iloadN X17.here hx rfl (hb hby d4_38) rfl  k) ?_
          show Gl _ _ _ _ _ _ _ (T17.setTop (mkF m 39 #[.val (.ref a1), .val (.int (1 : Int32)), .val (.int (4 : Int32))] [(.int (1 : Int32))]))
          exact Gl.retN X17 hx hlk Bd.returns (by simp) (hb hby d4_39) (⟨congrArg (fun z => some (Value.int z)) (show (nar .boolean (1 : Int32)) = (own_empty4 w0 w1 w2 w3) from by simp only [own_empty4, if_pos hc23, if_pos hc23_2, if_pos hc23_3, if_pos hc23_4]), N0, e17⟩) (by decide) (by decide)
        · refine Gl.st (fun t k => XS.ifYes X15.here hx rfl (pc0 := 23) (pc' := 30) rfl (hb hby d4_23) rfl ((if0 _ _).trans (feq hc23_4).2) (by decide) (by decide) k) ?_
          show Gl _ _ _ _ _ _ _ (T15.setTop (mkF m 30 #[.val (.ref a1), .val (.int (1 : Int32)), .val (.int (3 : Int32))] []))
          refine Gl.st (fun t k => XS.iconst X15.here hx rfl (hb hby d4_30) k) ?_
          show Gl _ _ _ _ _ _ _ (T15.setTop (mkF m 31 #[.val (.ref a1), .val (.int (1 : Int32)), .val (.int (3 : Int32))] [(.int (0 : Int32))]))
          refine Gl.st (fun t k => XS.istoreN X15.here hx rfl (hb hby d4_31) rfl (l' := #[.val (.ref a1), .val (.int (0 : Int32)), .val (.int (3 : Int32))]) rfl k) ?_
          show Gl _ _ _ _ _ _ _ (T15.setTop (mkF m 32 #[.val (.ref a1), .val (.int (0 : Int32)), .val (.int (3 : Int32))] []))
          refine Gl.st (fun t k => XS.iinc X15.here hx rfl (hb hby d4_32) rfl (l' := #[.val (.ref a1), .val (.int (0 : Int32)), .val (.int (4 : Int32))]) rfl k) ?_
          show Gl _ _ _ _ _ _ _ (T15.setTop (mkF m 35 #[.val (.ref a1), .val (.int (0 : Int32)), .val (.int (4 : Int32))] []))
          refine Gl.st (fun t k => XS.goto X15.here hx rfl (pc0 := 35) (pc' := 4) rfl (hb hby d4_35) (by decide) (by decide) k) ?_
          show Gl _ _ _ _ _ _ _ (T15.setTop (mkF m 4 #[.val (.ref a1), .val (.int (0 : Int32)), .val (.int (4 : Int32))] []))
          refine Gl.st (fun t k => XS.iloadN X15.here hx rfl (hb hby d4_4) rfl  k) ?_
          show Gl _ _ _ _ _ _ _ (T15.setTop (mkF m 5 #[.val (.ref a1), .val (.int (0 : Int32)), .val (.int (4 : Int32))] [(.int (4 : Int32))]))
          refine Gl.st (fun t k => XS.aloadN X15.here hx rfl (hb hby d4_5) rfl rfl k) ?_
          show Gl _ _ _ _ _ _ _ (T15.setTop (mkF m 6 #[.val (.ref a1), .val (.int (0 : Int32)), .val (.int (4 : Int32))] [(.ref a1), (.int (4 : Int32))]))
          obtain ⟨T19, X19, e19, st19⟩ := getF X15 hx hZ hown (host := "") (Or.inl (hw _ (List.mem_of_getElem? (i := 15) rfl))) Via.refl e15 Fc (g := (mkF m 6 #[.val (.ref a1), .val (.int (0 : Int32)), .val (.int (4 : Int32))] [(.ref a1), (.int (4 : Int32))])) rfl rfl (hb hby d4_6)
          refine Gl.st st19 ?_
          show Gl _ _ _ _ _ _ _ (T19.setTop (mkF m 9 #[.val (.ref a1), .val (.int (0 : Int32)), .val (.int (4 : Int32))] [(.ref ca), (.int (4 : Int32))]))
          have Vx20 := Vc
          obtain ⟨cl20, Ar20, qk20, S20, M20, H20, G20⟩ := Vx20
          refine Gl.st (X19.arraylength hx (by rw [e19]; exact Ar20.1) (State.isArrayOf_alike hZ.alike Ar20.2.1) (g := (mkF m 9 #[.val (.ref a1), .val (.int (0 : Int32)), .val (.int (4 : Int32))] [(.ref ca), (.int (4 : Int32))])) rfl rfl (hb hby d4_9)) ?_
          rw [len_of S20 M20]
          show Gl _ _ _ _ _ _ _ (T19.setTop (mkF m 10 #[.val (.ref a1), .val (.int (0 : Int32)), .val (.int (4 : Int32))] [(.int (4 : Int32)), (.int (4 : Int32))]))
          refine Gl.st (fun t k => XS.icmpYes X19.here hx rfl (pc0 := 10) (pc' := 38) rfl (hb hby d4_10) rfl (flt (by decide : ¬ ((4 : Int32) < (4 : Int32)))).2.1 (by decide) (by decide) k) ?_
          show Gl _ _ _ _ _ _ _ (T19.setTop (mkF m 38 #[.val (.ref a1), .val (.int (0 : Int32)), .val (.int (4 : Int32))] []))
          refine Gl.st (fun t k => XS.iloadN X19.here hx rfl (hb hby d4_38) rfl  k) ?_
          show Gl _ _ _ _ _ _ _ (T19.setTop (mkF m 39 #[.val (.ref a1), .val (.int (0 : Int32)), .val (.int (4 : Int32))] [(.int (0 : Int32))]))
          exact Gl.retN X19 hx hlk Bd.returns (by simp) (hb hby d4_39) (⟨congrArg (fun z => some (Value.int z)) (show (nar .boolean (0 : Int32)) = (own_empty4 w0 w1 w2 w3) from by simp only [own_empty4, if_pos hc23, if_pos hc23_2, if_pos hc23_3, if_neg hc23_4]), N0, e19⟩) (by decide) (by decide)
      · refine Gl.st (fun t k => XS.ifYes X11.here hx rfl (pc0 := 23) (pc' := 30) rfl (hb hby d4_23) rfl ((if0 _ _).trans (feq hc23_3).2) (by decide) (by decide) k) ?_
        show Gl _ _ _ _ _ _ _ (T11.setTop (mkF m 30 #[.val (.ref a1), .val (.int (1 : Int32)), .val (.int (2 : Int32))] []))
        refine Gl.st (fun t k => XS.iconst X11.here hx rfl (hb hby d4_30) k) ?_
        show Gl _ _ _ _ _ _ _ (T11.setTop (mkF m 31 #[.val (.ref a1), .val (.int (1 : Int32)), .val (.int (2 : Int32))] [(.int (0 : Int32))]))
        refine Gl.st (fun t k => XS.istoreN X11.here hx rfl (hb hby d4_31) rfl (l' := #[.val (.ref a1), .val (.int (0 : Int32)), .val (.int (2 : Int32))]) rfl k) ?_
        show Gl _ _ _ _ _ _ _ (T11.setTop (mkF m 32 #[.val (.ref a1), .val (.int (0 : Int32)), .val (.int (2 : Int32))] []))
        refine Gl.st (fun t k => XS.iinc X11.here hx rfl (hb hby d4_32) rfl (l' := #[.val (.ref a1), .val (.int (0 : Int32)), .val (.int (3 : Int32))]) rfl k) ?_
        show Gl _ _ _ _ _ _ _ (T11.setTop (mkF m 35 #[.val (.ref a1), .val (.int (0 : Int32)), .val (.int (3 : Int32))] []))
        refine Gl.st (fun t k => XS.goto X11.here hx rfl (pc0 := 35) (pc' := 4) rfl (hb hby d4_35) (by decide) (by decide) k) ?_
        show Gl _ _ _ _ _ _ _ (T11.setTop (mkF m 4 #[.val (.ref a1), .val (.int (0 : Int32)), .val (.int (3 : Int32))] []))
        refine Gl.st (fun t k => XS.iloadN X11.here hx rfl (hb hby d4_4) rfl  k) ?_
        show Gl _ _ _ _ _ _ _ (T11.setTop (mkF m 5 #[.val (.ref a1), .val (.int (0 : Int32)), .val (.int (3 : Int32))] [(.int (3 : Int32))]))
        refine Gl.st (fun t k => XS.aloadN X11.here hx rfl (hb hby d4_5) rfl rfl k) ?_
        show Gl _ _ _ _ _ _ _ (T11.setTop (mkF m 6 #[.val (.ref a1), .val (.int (0 : Int32)), .val (.int (3 : Int32))] [(.ref a1), (.int (3 : Int32))]))
        obtain ⟨T21, X21, e21, st21⟩ := getF X11 hx hZ hown (host := "") (Or.inl (hw _ (List.mem_of_getElem? (i := 15) rfl))) Via.refl e11 Fc (g := (mkF m 6 #[.val (.ref a1), .val (.int (0 : Int32)), .val (.int (3 : Int32))] [(.ref a1), (.int (3 : Int32))])) rfl rfl (hb hby d4_6)
        refine Gl.st st21 ?_
        show Gl _ _ _ _ _ _ _ (T21.setTop (mkF m 9 #[.val (.ref a1), .val (.int (0 : Int32)), .val (.int (3 : Int32))] [(.ref ca), (.int (3 : Int32))]))
        have Vx22 := Vc
        obtain ⟨cl22, Ar22, qk22, S22, M22, H22, G22⟩ := Vx22
        refine Gl.st (X21.arraylength hx (by rw [e21]; exact Ar22.1) (State.isArrayOf_alike hZ.alike Ar22.2.1) (g := (mkF m 9 #[.val (.ref a1), .val (.int (0 : Int32)), .val (.int (3 : Int32))] [(.ref ca), (.int (3 : Int32))])) rfl rfl (hb hby d4_9)) ?_
        rw [len_of S22 M22]
        show Gl _ _ _ _ _ _ _ (T21.setTop (mkF m 10 #[.val (.ref a1), .val (.int (0 : Int32)), .val (.int (3 : Int32))] [(.int (4 : Int32)), (.int (3 : Int32))]))
        refine Gl.st (fun t k => XS.icmpNo X21.here hx rfl (hb hby d4_10) rfl (tlt (by decide : (3 : Int32) < (4 : Int32))).2.1 k) ?_
        show Gl _ _ _ _ _ _ _ (T21.setTop (mkF m 13 #[.val (.ref a1), .val (.int (0 : Int32)), .val (.int (3 : Int32))] []))
        refine Gl.st (fun t k => XS.iloadN X21.here hx rfl (hb hby d4_13) rfl  k) ?_
        show Gl _ _ _ _ _ _ _ (T21.setTop (mkF m 14 #[.val (.ref a1), .val (.int (0 : Int32)), .val (.int (3 : Int32))] [(.int (0 : Int32))]))
        refine Gl.st (fun t k => XS.ifYes X21.here hx rfl (pc0 := 14) (pc' := 38) rfl (hb hby d4_14) rfl ((if0 _ _).trans (teq (rfl : (0 : Int32) = (0 : Int32))).1) (by decide) (by decide) k) ?_
        show Gl _ _ _ _ _ _ _ (T21.setTop (mkF m 38 #[.val (.ref a1), .val (.int (0 : Int32)), .val (.int (3 : Int32))] []))
        refine Gl.st (fun t k => XS.iloadN X21.here hx rfl (hb hby d4_38) rfl  k) ?_
        show Gl _ _ _ _ _ _ _ (T21.setTop (mkF m 39 #[.val (.ref a1), .val (.int (0 : Int32)), .val (.int (3 : Int32))] [(.int (0 : Int32))]))
        exact Gl.retN X21 hx hlk Bd.returns (by simp) (hb hby d4_39) (⟨congrArg (fun z => some (Value.int z)) (show (nar .boolean (0 : Int32)) = (own_empty4 w0 w1 w2 w3) from by simp only [own_empty4, if_pos hc23, if_pos hc23_2, if_neg hc23_3]), N0, e21⟩) (by decide) (by decide)
    · refine Gl.st (fun t k => XS.ifYes X7.here hx rfl (pc0 := 23) (pc' := 30) rfl (hb hby d4_23) rfl ((if0 _ _).trans (feq hc23_2).2) (by decide) (by decide) k) ?_
      show Gl _ _ _ _ _ _ _ (T7.setTop (mkF m 30 #[.val (.ref a1), .val (.int (1 : Int32)), .val (.int (1 : Int32))] []))
      refine Gl.st (fun t k => XS.iconst X7.here hx rfl (hb hby d4_30) k) ?_
      show Gl _ _ _ _ _ _ _ (T7.setTop (mkF m 31 #[.val (.ref a1), .val (.int (1 : Int32)), .val (.int (1 : Int32))] [(.int (0 : Int32))]))
      refine Gl.st (fun t k => XS.istoreN X7.here hx rfl (hb hby d4_31) rfl (l' := #[.val (.ref a1), .val (.int (0 : Int32)), .val (.int (1 : Int32))]) rfl k) ?_
      show Gl _ _ _ _ _ _ _ (T7.setTop (mkF m 32 #[.val (.ref a1), .val (.int (0 : Int32)), .val (.int (1 : Int32))] []))
      refine Gl.st (fun t k => XS.iinc X7.here hx rfl (hb hby d4_32) rfl (l' := #[.val (.ref a1), .val (.int (0 : Int32)), .val (.int (2 : Int32))]) rfl k) ?_
      show Gl _ _ _ _ _ _ _ (T7.setTop (mkF m 35 #[.val (.ref a1), .val (.int (0 : Int32)), .val (.int (2 : Int32))] []))
      refine Gl.st (fun t k => XS.goto X7.here hx rfl (pc0 := 35) (pc' := 4) rfl (hb hby d4_35) (by decide) (by decide) k) ?_
      show Gl _ _ _ _ _ _ _ (T7.setTop (mkF m 4 #[.val (.ref a1), .val (.int (0 : Int32)), .val (.int (2 : Int32))] []))
      refine Gl.st (fun t k => XS.iloadN X7.here hx rfl (hb hby d4_4) rfl  k) ?_
      show Gl _ _ _ _ _ _ _ (T7.setTop (mkF m 5 #[.val (.ref a1), .val (.int (0 : Int32)), .val (.int (2 : Int32))] [(.int (2 : Int32))]))
      refine Gl.st (fun t k => XS.aloadN X7.here hx rfl (hb hby d4_5) rfl rfl k) ?_
      show Gl _ _ _ _ _ _ _ (T7.setTop (mkF m 6 #[.val (.ref a1), .val (.int (0 : Int32)), .val (.int (2 : Int32))] [(.ref a1), (.int (2 : Int32))]))
      obtain ⟨T23, X23, e23, st23⟩ := getF X7 hx hZ hown (host := "") (Or.inl (hw _ (List.mem_of_getElem? (i := 15) rfl))) Via.refl e7 Fc (g := (mkF m 6 #[.val (.ref a1), .val (.int (0 : Int32)), .val (.int (2 : Int32))] [(.ref a1), (.int (2 : Int32))])) rfl rfl (hb hby d4_6)
      refine Gl.st st23 ?_
      show Gl _ _ _ _ _ _ _ (T23.setTop (mkF m 9 #[.val (.ref a1), .val (.int (0 : Int32)), .val (.int (2 : Int32))] [(.ref ca), (.int (2 : Int32))]))
      have Vx24 := Vc
      obtain ⟨cl24, Ar24, qk24, S24, M24, H24, G24⟩ := Vx24
      refine Gl.st (X23.arraylength hx (by rw [e23]; exact Ar24.1) (State.isArrayOf_alike hZ.alike Ar24.2.1) (g := (mkF m 9 #[.val (.ref a1), .val (.int (0 : Int32)), .val (.int (2 : Int32))] [(.ref ca), (.int (2 : Int32))])) rfl rfl (hb hby d4_9)) ?_
      rw [len_of S24 M24]
      show Gl _ _ _ _ _ _ _ (T23.setTop (mkF m 10 #[.val (.ref a1), .val (.int (0 : Int32)), .val (.int (2 : Int32))] [(.int (4 : Int32)), (.int (2 : Int32))]))
      refine Gl.st (fun t k => XS.icmpNo X23.here hx rfl (hb hby d4_10) rfl (tlt (by decide : (2 : Int32) < (4 : Int32))).2.1 k) ?_
      show Gl _ _ _ _ _ _ _ (T23.setTop (mkF m 13 #[.val (.ref a1), .val (.int (0 : Int32)), .val (.int (2 : Int32))] []))
      refine Gl.st (fun t k => XS.iloadN X23.here hx rfl (hb hby d4_13) rfl  k) ?_
      show Gl _ _ _ _ _ _ _ (T23.setTop (mkF m 14 #[.val (.ref a1), .val (.int (0 : Int32)), .val (.int (2 : Int32))] [(.int (0 : Int32))]))
      refine Gl.st (fun t k => XS.ifYes X23.here hx rfl (pc0 := 14) (pc' := 38) rfl (hb hby d4_14) rfl ((if0 _ _).trans (teq (rfl : (0 : Int32) = (0 : Int32))).1) (by decide) (by decide) k) ?_
      show Gl _ _ _ _ _ _ _ (T23.setTop (mkF m 38 #[.val (.ref a1), .val (.int (0 : Int32)), .val (.int (2 : Int32))] []))
      refine Gl.st (fun t k => XS.iloadN X23.here hx rfl (hb hby d4_38) rfl  k) ?_
      show Gl _ _ _ _ _ _ _ (T23.setTop (mkF m 39 #[.val (.ref a1), .val (.int (0 : Int32)), .val (.int (2 : Int32))] [(.int (0 : Int32))]))
      exact Gl.retN X23 hx hlk Bd.returns (by simp) (hb hby d4_39) (⟨congrArg (fun z => some (Value.int z)) (show (nar .boolean (0 : Int32)) = (own_empty4 w0 w1 w2 w3) from by simp only [own_empty4, if_pos hc23, if_neg hc23_2]), N0, e23⟩) (by decide) (by decide)
  · refine Gl.st (fun t k => XS.ifYes X3.here hx rfl (pc0 := 23) (pc' := 30) rfl (hb hby d4_23) rfl ((if0 _ _).trans (feq hc23).2) (by decide) (by decide) k) ?_
    show Gl _ _ _ _ _ _ _ (T3.setTop (mkF m 30 #[.val (.ref a1), .val (.int (1 : Int32)), .val (.int (0 : Int32))] []))
    refine Gl.st (fun t k => XS.iconst X3.here hx rfl (hb hby d4_30) k) ?_
    show Gl _ _ _ _ _ _ _ (T3.setTop (mkF m 31 #[.val (.ref a1), .val (.int (1 : Int32)), .val (.int (0 : Int32))] [(.int (0 : Int32))]))
    refine Gl.st (fun t k => XS.istoreN X3.here hx rfl (hb hby d4_31) rfl (l' := #[.val (.ref a1), .val (.int (0 : Int32)), .val (.int (0 : Int32))]) rfl k) ?_
    show Gl _ _ _ _ _ _ _ (T3.setTop (mkF m 32 #[.val (.ref a1), .val (.int (0 : Int32)), .val (.int (0 : Int32))] []))
    refine Gl.st (fun t k => XS.iinc X3.here hx rfl (hb hby d4_32) rfl (l' := #[.val (.ref a1), .val (.int (0 : Int32)), .val (.int (1 : Int32))]) rfl k) ?_
    show Gl _ _ _ _ _ _ _ (T3.setTop (mkF m 35 #[.val (.ref a1), .val (.int (0 : Int32)), .val (.int (1 : Int32))] []))
    refine Gl.st (fun t k => XS.goto X3.here hx rfl (pc0 := 35) (pc' := 4) rfl (hb hby d4_35) (by decide) (by decide) k) ?_
    show Gl _ _ _ _ _ _ _ (T3.setTop (mkF m 4 #[.val (.ref a1), .val (.int (0 : Int32)), .val (.int (1 : Int32))] []))
    refine Gl.st (fun t k => XS.iloadN X3.here hx rfl (hb hby d4_4) rfl  k) ?_
    show Gl _ _ _ _ _ _ _ (T3.setTop (mkF m 5 #[.val (.ref a1), .val (.int (0 : Int32)), .val (.int (1 : Int32))] [(.int (1 : Int32))]))
    refine Gl.st (fun t k => XS.aloadN X3.here hx rfl (hb hby d4_5) rfl rfl k) ?_
    show Gl _ _ _ _ _ _ _ (T3.setTop (mkF m 6 #[.val (.ref a1), .val (.int (0 : Int32)), .val (.int (1 : Int32))] [(.ref a1), (.int (1 : Int32))]))
    obtain ⟨T25, X25, e25, st25⟩ := getF X3 hx hZ hown (host := "") (Or.inl (hw _ (List.mem_of_getElem? (i := 15) rfl))) Via.refl e3 Fc (g := (mkF m 6 #[.val (.ref a1), .val (.int (0 : Int32)), .val (.int (1 : Int32))] [(.ref a1), (.int (1 : Int32))])) rfl rfl (hb hby d4_6)
    refine Gl.st st25 ?_
    show Gl _ _ _ _ _ _ _ (T25.setTop (mkF m 9 #[.val (.ref a1), .val (.int (0 : Int32)), .val (.int (1 : Int32))] [(.ref ca), (.int (1 : Int32))]))
    have Vx26 := Vc
    obtain ⟨cl26, Ar26, qk26, S26, M26, H26, G26⟩ := Vx26
    refine Gl.st (X25.arraylength hx (by rw [e25]; exact Ar26.1) (State.isArrayOf_alike hZ.alike Ar26.2.1) (g := (mkF m 9 #[.val (.ref a1), .val (.int (0 : Int32)), .val (.int (1 : Int32))] [(.ref ca), (.int (1 : Int32))])) rfl rfl (hb hby d4_9)) ?_
    rw [len_of S26 M26]
    show Gl _ _ _ _ _ _ _ (T25.setTop (mkF m 10 #[.val (.ref a1), .val (.int (0 : Int32)), .val (.int (1 : Int32))] [(.int (4 : Int32)), (.int (1 : Int32))]))
    refine Gl.st (fun t k => XS.icmpNo X25.here hx rfl (hb hby d4_10) rfl (tlt (by decide : (1 : Int32) < (4 : Int32))).2.1 k) ?_
    show Gl _ _ _ _ _ _ _ (T25.setTop (mkF m 13 #[.val (.ref a1), .val (.int (0 : Int32)), .val (.int (1 : Int32))] []))
    refine Gl.st (fun t k => XS.iloadN X25.here hx rfl (hb hby d4_13) rfl  k) ?_
    show Gl _ _ _ _ _ _ _ (T25.setTop (mkF m 14 #[.val (.ref a1), .val (.int (0 : Int32)), .val (.int (1 : Int32))] [(.int (0 : Int32))]))
    refine Gl.st (fun t k => XS.ifYes X25.here hx rfl (pc0 := 14) (pc' := 38) rfl (hb hby d4_14) rfl ((if0 _ _).trans (teq (rfl : (0 : Int32) = (0 : Int32))).1) (by decide) (by decide) k) ?_
    show Gl _ _ _ _ _ _ _ (T25.setTop (mkF m 38 #[.val (.ref a1), .val (.int (0 : Int32)), .val (.int (1 : Int32))] []))
    refine Gl.st (fun t k => XS.iloadN X25.here hx rfl (hb hby d4_38) rfl  k) ?_
    show Gl _ _ _ _ _ _ _ (T25.setTop (mkF m 39 #[.val (.ref a1), .val (.int (0 : Int32)), .val (.int (1 : Int32))] [(.int (0 : Int32))]))
    exact Gl.retN X25 hx hlk Bd.returns (by simp) (hb hby d4_39) (⟨congrArg (fun z => some (Value.int z)) (show (nar .boolean (0 : Int32)) = (own_empty4 w0 w1 w2 w3) from by simp only [own_empty4, if_neg hc23]), N0, e25⟩) (by decide) (by decide)
theorem own_five (x : Int32) : ((x &&& (7 : Int32)) % (5 : Int32)) = (0 : Int32) ∨ ((x &&& (7 : Int32)) % (5 : Int32)) = (1 : Int32) ∨ ((x &&& (7 : Int32)) % (5 : Int32)) = (2 : Int32) ∨ ((x &&& (7 : Int32)) % (5 : Int32)) = (3 : Int32) ∨ ((x &&& (7 : Int32)) % (5 : Int32)) = (4 : Int32) := by
  have a := c_mask x 7 3 (by decide) (by decide)
  have b := (c_irem (x &&& 7) 5 5 (by decide)).1
  have e0 : (0 : Int32).toInt = 0 := by decide
  have e1 : (1 : Int32).toInt = 1 := by decide
  have e2 : (2 : Int32).toInt = 2 := by decide
  have e3 : (3 : Int32).toInt = 3 := by decide
  have e4 : (4 : Int32).toInt = 4 := by decide
  simp only [← Int32.toInt_inj, e0, e1, e2, e3, e4]
  omega
theorem pf_3 : plainFor (⟨"com/example/enact/enact/engine/MarkingIsEmptyPinLaw", "law", "(IIIIII)Z"⟩ : MethodName) = true := by decide +kernel
def Q0 (Z : State) (p1 : Int32) (p2 : Int32) (p3 : Int32) (p4 : Int32) (p5 : Int32) (p6 : Int32) (h0 : Heap) (n0 : Nat) (v : Option Value) (h : Heap) (L : List Loc) : Prop := v = some (.int 1) ∧ Fr n0 L
theorem ef_0 (m : MethodId) (p1 : Int32) (p2 : Int32) (p3 : Int32) (p4 : Int32) (p5 : Int32) (p6 : Int32) : entryFrame m #[(.int p1), (.int p2), (.int p3), (.int p4), (.int p5), (.int p6)] maxLocals = mkF m 0 #[.val (.int p1), .val (.int p2), .val (.int p3), .val (.int p4), .val (.int p5), .val (.int p6), .unset, .unset, .unset, .unset, .unset, .unset, .unset, .unset] [] := by first | (simp [entryFrame, mkF, argsToLocals, Value.category, maxLocals]; done) | rfl
theorem pd_0 : parseMethodDescriptor "(III)I" = some ⟨[.int, .int, .int], some .int⟩ := by decide +kernel
theorem pd_1 : parseMethodDescriptor "([I)V" = some ⟨[(.array .int)], none⟩ := by decide +kernel
theorem pd_2 : parseMethodDescriptor "()Z" = some ⟨[], some .boolean⟩ := by decide +kernel
set_option maxRecDepth 65536 in
set_option maxHeartbeats 40000000 in
theorem rm0 (l : Launch) (Z : State) (a0 : Array Value) (hw : ∀ d ∈ tables_1, d.before a0 Z = true) (ws : List Jvm.Cond) (p1 : Int32) (p2 : Int32) (p3 : Int32) (p4 : Int32) (p5 : Int32) (p6 : Int32) (h0 : Heap) (n0 : Nat) (Z0 : n0 ≤ h0.size) :
    MetFree l x (head1 (Jvm.Cond.code x code maxLocals ret :: ws) room_1) (fun a U => a = #[(.int p1), (.int p2), (.int p3), (.int p4), (.int p5), (.int p6)] ∧ Z.Warmed39 U.vm ∧ U.heap = h0) (fun _ _ _ _ _ => True) (fun _ U o U' => ∃ v L, o = .returned v ∧ Q0 Z p1 p2 p3 p4 p5 p6 h0 n0 v U'.heap L ∧ FrameEnd U o U' L room_1.cells room_1.slots) := by
  refine MetFree.of_bodySF pf_3 hisR ?_
  intro p e s m args below meth c s₁ Bd hml0 hP hK
  obtain ⟨rfl, hZ, hh⟩ := hP
  have hx := Bd.exec
  have hby := Bd.bytes
  have hlk : meth.locks = false := BodyLoose.notSynchronized Bd
  have hml : c.maxLocals = 14 := hml0
  have hown : s.vm.findClass "com/example/enact/enact/engine/MarkingIsEmptyPinLaw" = some m.cls := findClass_of_methodNamed Bd.named
  have hnm := (name_of_methodNamed Bd.named Bd.method).1
  have X0 : Stand p l e room_1 s m #[(.int p1), (.int p2), (.int p3), (.int p4), (.int p5), (.int p6)] below meth c s₁ [] 0 0 := Stand.of_body Bd
  have e0 : s₁.heap = h0 := by rw [← hh, Bd.state]; rfl
  have N0 := Fr.nil n0
  show Gl p e below s (Q0 Z p1 p2 p3 p4 p5 p6 h0 n0) room_1.cells room_1.slots (s₁.setTop (entryFrame m #[(.int p1), (.int p2), (.int p3), (.int p4), (.int p5), (.int p6)] maxLocals))
  rw [ef_0]
  show Gl _ _ _ _ _ _ _ (s₁.setTop (mkF m 0 #[.val (.int p1), .val (.int p2), .val (.int p3), .val (.int p4), .val (.int p5), .val (.int p6), .unset, .unset, .unset, .unset, .unset, .unset, .unset, .unset] []))
  refine Gl.st (fun t k => XS.iloadN X0.here hx rfl (hb hby at_0) rfl  k) ?_
  show Gl _ _ _ _ _ _ _ (s₁.setTop (mkF m 1 #[.val (.int p1), .val (.int p2), .val (.int p3), .val (.int p4), .val (.int p5), .val (.int p6), .unset, .unset, .unset, .unset, .unset, .unset, .unset, .unset] [(.int p1)]))
  refine Gl.st (fun t k => XS.bipush X0.here hx rfl (hb hby at_1) k) ?_
  show Gl _ _ _ _ _ _ _ (s₁.setTop (mkF m 3 #[.val (.int p1), .val (.int p2), .val (.int p3), .val (.int p4), .val (.int p5), .val (.int p6), .unset, .unset, .unset, .unset, .unset, .unset, .unset, .unset] [(.int (7 : Int32)), (.int p1)]))
  refine Gl.st (fun t k => XS.iand X0.here hx rfl (hb hby at_3) rfl k) ?_
  show Gl _ _ _ _ _ _ _ (s₁.setTop (mkF m 4 #[.val (.int p1), .val (.int p2), .val (.int p3), .val (.int p4), .val (.int p5), .val (.int p6), .unset, .unset, .unset, .unset, .unset, .unset, .unset, .unset] [(.int (p1 &&& (7 : Int32)))]))
  refine Gl.st (fun t k => XS.iconst X0.here hx rfl (hb hby at_4) k) ?_
  show Gl _ _ _ _ _ _ _ (s₁.setTop (mkF m 5 #[.val (.int p1), .val (.int p2), .val (.int p3), .val (.int p4), .val (.int p5), .val (.int p6), .unset, .unset, .unset, .unset, .unset, .unset, .unset, .unset] [(.int (5 : Int32)), (.int (p1 &&& (7 : Int32)))]))
  refine Gl.st (fun t k => iremM X0 hx rfl (hb hby at_5) rfl (by decide) k) ?_
  show Gl _ _ _ _ _ _ _ (s₁.setTop (mkF m 6 #[.val (.int p1), .val (.int p2), .val (.int p3), .val (.int p4), .val (.int p5), .val (.int p6), .unset, .unset, .unset, .unset, .unset, .unset, .unset, .unset] [(.int ((p1 &&& (7 : Int32)) % (5 : Int32)))]))
  refine Gl.st (fun t k => XS.istore X0.here hx rfl (hb hby at_6) rfl (l' := #[.val (.int p1), .val (.int p2), .val (.int p3), .val (.int p4), .val (.int p5), .val (.int p6), .val (.int ((p1 &&& (7 : Int32)) % (5 : Int32))), .unset, .unset, .unset, .unset, .unset, .unset, .unset]) rfl k) ?_
  show Gl _ _ _ _ _ _ _ (s₁.setTop (mkF m 8 #[.val (.int p1), .val (.int p2), .val (.int p3), .val (.int p4), .val (.int p5), .val (.int p6), .val (.int ((p1 &&& (7 : Int32)) % (5 : Int32))), .unset, .unset, .unset, .unset, .unset, .unset, .unset] []))
  obtain ⟨nn, hnn⟩ : ∃ z : Int32, z = ((p1 &&& (7 : Int32)) % (5 : Int32)) := ⟨_, rfl⟩
  rw [← hnn]
  rcases (by rw [hnn]; exact own_five _ : nn = (0 : Int32) ∨ nn = (1 : Int32) ∨ nn = (2 : Int32) ∨ nn = (3 : Int32) ∨ nn = (4 : Int32)) with rfl | rfl | rfl | rfl | rfl
  · skip
    show Gl _ _ _ _ _ _ _ (s₁.setTop (mkF m 8 #[.val (.int p1), .val (.int p2), .val (.int p3), .val (.int p4), .val (.int p5), .val (.int p6), .val (.int (0 : Int32)), .unset, .unset, .unset, .unset, .unset, .unset, .unset] []))
    refine Gl.st (fun t k => XS.iloadN X0.here hx rfl (hb hby at_8) rfl  k) ?_
    show Gl _ _ _ _ _ _ _ (s₁.setTop (mkF m 9 #[.val (.int p1), .val (.int p2), .val (.int p3), .val (.int p4), .val (.int p5), .val (.int p6), .val (.int (0 : Int32)), .unset, .unset, .unset, .unset, .unset, .unset, .unset] [(.int p2)]))
    refine Gl.st (fun t k => XS.iconst X0.here hx rfl (hb hby at_9) k) ?_
    show Gl _ _ _ _ _ _ _ (s₁.setTop (mkF m 10 #[.val (.int p1), .val (.int p2), .val (.int p3), .val (.int p4), .val (.int p5), .val (.int p6), .val (.int (0 : Int32)), .unset, .unset, .unset, .unset, .unset, .unset, .unset] [(.int (0 : Int32)), (.int p2)]))
    refine Gl.st (fun t k => XS.iloadN X0.here hx rfl (hb hby at_10) rfl  k) ?_
    show Gl _ _ _ _ _ _ _ (s₁.setTop (mkF m 11 #[.val (.int p1), .val (.int p2), .val (.int p3), .val (.int p4), .val (.int p5), .val (.int p6), .val (.int (0 : Int32)), .unset, .unset, .unset, .unset, .unset, .unset, .unset] [(.int p3), (.int (0 : Int32)), (.int p2)]))
    obtain ⟨_, _, ⟨T1, L1, k1, n1⟩, -, X1, ⟨Lc1, hQ1, l1, y1, z1⟩, st1⟩ := Jvm.LawKit.callS X0 hx (y := (⟨"com/example/enact/enact/engine/MarkingIsEmptyPinLaw", "pick", "(III)I"⟩ : MethodName)) hown (mvT hZ (hw _ (List.mem_of_getElem? (i := 0) rfl))) (mvT hZ (hw _ (List.mem_of_getElem? (i := 1) rfl))) (mvT hZ (hw _ (List.mem_of_getElem? (i := 2) rfl))) (mvT hZ (hw _ (List.mem_of_getElem? (i := 3) rfl))) (by decide) (backOf (W := 0) (rm1 l Z a0 hw [] p2 (0 : Int32) p3 h0 n0) hZ (hw _ (List.mem_of_getElem? (i := 3) rfl)) (hw _ (List.mem_of_getElem? (i := 2) rfl)) (by decide) (by decide)) (g := (mkF m 11 #[.val (.int p1), .val (.int p2), .val (.int p3), .val (.int p4), .val (.int p5), .val (.int p6), .val (.int (0 : Int32)), .unset, .unset, .unset, .unset, .unset, .unset, .unset] [(.int p3), (.int (0 : Int32)), (.int p2)])) rfl (by rw [hml]; rfl) (argsL := [(.int p2), (.int (0 : Int32)), (.int p3)]) (rest := []) (lenOf pd_0 rfl) rfl (by show 2 * 0 + _ ≤ _; exact Nat.le_of_eq rfl) (hb hby at_11) (fun _ _ => ⟨rfl, e0, (by decide : 0 + 0 ≤ _), (by decide : 0 + 0 ≤ _)⟩)
    dsimp only [Pt.U, Pt.locs, Pt.cells, Pt.slots] at X1 l1 y1 z1 st1 hQ1
    subst l1 y1 z1
    obtain ⟨rfl, N1q, e1⟩ := hQ1
    have N1 := Fr.app N0 N1q
    refine Gl.st st1 ?_
    show Gl _ _ _ _ _ _ _ (T1.setTop (mkF m 14 #[.val (.int p1), .val (.int p2), .val (.int p3), .val (.int p4), .val (.int p5), .val (.int p6), .val (.int (0 : Int32)), .unset, .unset, .unset, .unset, .unset, .unset, .unset] [(.int (own_pick p2 (0 : Int32) p3))]))
    refine Gl.st (fun t k => XS.istore X1.here hx rfl (hb hby at_14) rfl (l' := #[.val (.int p1), .val (.int p2), .val (.int p3), .val (.int p4), .val (.int p5), .val (.int p6), .val (.int (0 : Int32)), .val (.int (own_pick p2 (0 : Int32) p3)), .unset, .unset, .unset, .unset, .unset, .unset]) rfl k) ?_
    show Gl _ _ _ _ _ _ _ (T1.setTop (mkF m 16 #[.val (.int p1), .val (.int p2), .val (.int p3), .val (.int p4), .val (.int p5), .val (.int p6), .val (.int (0 : Int32)), .val (.int (own_pick p2 (0 : Int32) p3)), .unset, .unset, .unset, .unset, .unset, .unset] []))
    refine Gl.st (fun t k => XS.iloadN X1.here hx rfl (hb hby at_16) rfl  k) ?_
    show Gl _ _ _ _ _ _ _ (T1.setTop (mkF m 17 #[.val (.int p1), .val (.int p2), .val (.int p3), .val (.int p4), .val (.int p5), .val (.int p6), .val (.int (0 : Int32)), .val (.int (own_pick p2 (0 : Int32) p3)), .unset, .unset, .unset, .unset, .unset, .unset] [(.int p2)]))
    refine Gl.st (fun t k => XS.iconst X1.here hx rfl (hb hby at_17) k) ?_
    show Gl _ _ _ _ _ _ _ (T1.setTop (mkF m 18 #[.val (.int p1), .val (.int p2), .val (.int p3), .val (.int p4), .val (.int p5), .val (.int p6), .val (.int (0 : Int32)), .val (.int (own_pick p2 (0 : Int32) p3)), .unset, .unset, .unset, .unset, .unset, .unset] [(.int (1 : Int32)), (.int p2)]))
    refine Gl.st (fun t k => XS.iloadN X1.here hx rfl (hb hby at_18) rfl  k) ?_
    show Gl _ _ _ _ _ _ _ (T1.setTop (mkF m 19 #[.val (.int p1), .val (.int p2), .val (.int p3), .val (.int p4), .val (.int p5), .val (.int p6), .val (.int (0 : Int32)), .val (.int (own_pick p2 (0 : Int32) p3)), .unset, .unset, .unset, .unset, .unset, .unset] [(.int p4), (.int (1 : Int32)), (.int p2)]))
    obtain ⟨_, _, ⟨T2, L2, k2, n2⟩, -, X2, ⟨Lc2, hQ2, l2, y2, z2⟩, st2⟩ := Jvm.LawKit.callS X1 hx (y := (⟨"com/example/enact/enact/engine/MarkingIsEmptyPinLaw", "pick", "(III)I"⟩ : MethodName)) hown (mvT hZ (hw _ (List.mem_of_getElem? (i := 0) rfl))) (mvT hZ (hw _ (List.mem_of_getElem? (i := 1) rfl))) (mvT hZ (hw _ (List.mem_of_getElem? (i := 2) rfl))) (mvT hZ (hw _ (List.mem_of_getElem? (i := 3) rfl))) (by decide) (backOf (W := 0) (rm1 l Z a0 hw [] p2 (1 : Int32) p4 h0 n0) hZ (hw _ (List.mem_of_getElem? (i := 3) rfl)) (hw _ (List.mem_of_getElem? (i := 2) rfl)) (by decide) (by decide)) (g := (mkF m 19 #[.val (.int p1), .val (.int p2), .val (.int p3), .val (.int p4), .val (.int p5), .val (.int p6), .val (.int (0 : Int32)), .val (.int (own_pick p2 (0 : Int32) p3)), .unset, .unset, .unset, .unset, .unset, .unset] [(.int p4), (.int (1 : Int32)), (.int p2)])) rfl (by rw [hml]; rfl) (argsL := [(.int p2), (.int (1 : Int32)), (.int p4)]) (rest := []) (lenOf pd_0 rfl) rfl (by show 2 * 0 + _ ≤ _; exact Nat.le_of_eq rfl) (hb hby at_19) (fun _ _ => ⟨rfl, e1, (by decide : 0 + 0 ≤ _), (by decide : 0 + 0 ≤ _)⟩)
    dsimp only [Pt.U, Pt.locs, Pt.cells, Pt.slots] at X2 l2 y2 z2 st2 hQ2
    subst l2 y2 z2
    obtain ⟨rfl, N2q, e2⟩ := hQ2
    have N2 := Fr.app N1 N2q
    refine Gl.st st2 ?_
    show Gl _ _ _ _ _ _ _ (T2.setTop (mkF m 22 #[.val (.int p1), .val (.int p2), .val (.int p3), .val (.int p4), .val (.int p5), .val (.int p6), .val (.int (0 : Int32)), .val (.int (own_pick p2 (0 : Int32) p3)), .unset, .unset, .unset, .unset, .unset, .unset] [(.int (own_pick p2 (1 : Int32) p4))]))
    refine Gl.st (fun t k => XS.istore X2.here hx rfl (hb hby at_22) rfl (l' := #[.val (.int p1), .val (.int p2), .val (.int p3), .val (.int p4), .val (.int p5), .val (.int p6), .val (.int (0 : Int32)), .val (.int (own_pick p2 (0 : Int32) p3)), .val (.int (own_pick p2 (1 : Int32) p4)), .unset, .unset, .unset, .unset, .unset]) rfl k) ?_
    show Gl _ _ _ _ _ _ _ (T2.setTop (mkF m 24 #[.val (.int p1), .val (.int p2), .val (.int p3), .val (.int p4), .val (.int p5), .val (.int p6), .val (.int (0 : Int32)), .val (.int (own_pick p2 (0 : Int32) p3)), .val (.int (own_pick p2 (1 : Int32) p4)), .unset, .unset, .unset, .unset, .unset] []))
    refine Gl.st (fun t k => XS.iloadN X2.here hx rfl (hb hby at_24) rfl  k) ?_
    show Gl _ _ _ _ _ _ _ (T2.setTop (mkF m 25 #[.val (.int p1), .val (.int p2), .val (.int p3), .val (.int p4), .val (.int p5), .val (.int p6), .val (.int (0 : Int32)), .val (.int (own_pick p2 (0 : Int32) p3)), .val (.int (own_pick p2 (1 : Int32) p4)), .unset, .unset, .unset, .unset, .unset] [(.int p2)]))
    refine Gl.st (fun t k => XS.iconst X2.here hx rfl (hb hby at_25) k) ?_
    show Gl _ _ _ _ _ _ _ (T2.setTop (mkF m 26 #[.val (.int p1), .val (.int p2), .val (.int p3), .val (.int p4), .val (.int p5), .val (.int p6), .val (.int (0 : Int32)), .val (.int (own_pick p2 (0 : Int32) p3)), .val (.int (own_pick p2 (1 : Int32) p4)), .unset, .unset, .unset, .unset, .unset] [(.int (2 : Int32)), (.int p2)]))
    refine Gl.st (fun t k => XS.iload X2.here hx rfl (hb hby at_26) rfl  k) ?_
    show Gl _ _ _ _ _ _ _ (T2.setTop (mkF m 28 #[.val (.int p1), .val (.int p2), .val (.int p3), .val (.int p4), .val (.int p5), .val (.int p6), .val (.int (0 : Int32)), .val (.int (own_pick p2 (0 : Int32) p3)), .val (.int (own_pick p2 (1 : Int32) p4)), .unset, .unset, .unset, .unset, .unset] [(.int p5), (.int (2 : Int32)), (.int p2)]))
    obtain ⟨_, _, ⟨T3, L3, k3, n3⟩, -, X3, ⟨Lc3, hQ3, l3, y3, z3⟩, st3⟩ := Jvm.LawKit.callS X2 hx (y := (⟨"com/example/enact/enact/engine/MarkingIsEmptyPinLaw", "pick", "(III)I"⟩ : MethodName)) hown (mvT hZ (hw _ (List.mem_of_getElem? (i := 0) rfl))) (mvT hZ (hw _ (List.mem_of_getElem? (i := 1) rfl))) (mvT hZ (hw _ (List.mem_of_getElem? (i := 2) rfl))) (mvT hZ (hw _ (List.mem_of_getElem? (i := 3) rfl))) (by decide) (backOf (W := 0) (rm1 l Z a0 hw [] p2 (2 : Int32) p5 h0 n0) hZ (hw _ (List.mem_of_getElem? (i := 3) rfl)) (hw _ (List.mem_of_getElem? (i := 2) rfl)) (by decide) (by decide)) (g := (mkF m 28 #[.val (.int p1), .val (.int p2), .val (.int p3), .val (.int p4), .val (.int p5), .val (.int p6), .val (.int (0 : Int32)), .val (.int (own_pick p2 (0 : Int32) p3)), .val (.int (own_pick p2 (1 : Int32) p4)), .unset, .unset, .unset, .unset, .unset] [(.int p5), (.int (2 : Int32)), (.int p2)])) rfl (by rw [hml]; rfl) (argsL := [(.int p2), (.int (2 : Int32)), (.int p5)]) (rest := []) (lenOf pd_0 rfl) rfl (by show 2 * 0 + _ ≤ _; exact Nat.le_of_eq rfl) (hb hby at_28) (fun _ _ => ⟨rfl, e2, (by decide : 0 + 0 ≤ _), (by decide : 0 + 0 ≤ _)⟩)
    dsimp only [Pt.U, Pt.locs, Pt.cells, Pt.slots] at X3 l3 y3 z3 st3 hQ3
    subst l3 y3 z3
    obtain ⟨rfl, N3q, e3⟩ := hQ3
    have N3 := Fr.app N2 N3q
    refine Gl.st st3 ?_
    show Gl _ _ _ _ _ _ _ (T3.setTop (mkF m 31 #[.val (.int p1), .val (.int p2), .val (.int p3), .val (.int p4), .val (.int p5), .val (.int p6), .val (.int (0 : Int32)), .val (.int (own_pick p2 (0 : Int32) p3)), .val (.int (own_pick p2 (1 : Int32) p4)), .unset, .unset, .unset, .unset, .unset] [(.int (own_pick p2 (2 : Int32) p5))]))
    refine Gl.st (fun t k => XS.istore X3.here hx rfl (hb hby at_31) rfl (l' := #[.val (.int p1), .val (.int p2), .val (.int p3), .val (.int p4), .val (.int p5), .val (.int p6), .val (.int (0 : Int32)), .val (.int (own_pick p2 (0 : Int32) p3)), .val (.int (own_pick p2 (1 : Int32) p4)), .val (.int (own_pick p2 (2 : Int32) p5)), .unset, .unset, .unset, .unset]) rfl k) ?_
    show Gl _ _ _ _ _ _ _ (T3.setTop (mkF m 33 #[.val (.int p1), .val (.int p2), .val (.int p3), .val (.int p4), .val (.int p5), .val (.int p6), .val (.int (0 : Int32)), .val (.int (own_pick p2 (0 : Int32) p3)), .val (.int (own_pick p2 (1 : Int32) p4)), .val (.int (own_pick p2 (2 : Int32) p5)), .unset, .unset, .unset, .unset] []))
    refine Gl.st (fun t k => XS.iloadN X3.here hx rfl (hb hby at_33) rfl  k) ?_
    show Gl _ _ _ _ _ _ _ (T3.setTop (mkF m 34 #[.val (.int p1), .val (.int p2), .val (.int p3), .val (.int p4), .val (.int p5), .val (.int p6), .val (.int (0 : Int32)), .val (.int (own_pick p2 (0 : Int32) p3)), .val (.int (own_pick p2 (1 : Int32) p4)), .val (.int (own_pick p2 (2 : Int32) p5)), .unset, .unset, .unset, .unset] [(.int p2)]))
    refine Gl.st (fun t k => XS.iconst X3.here hx rfl (hb hby at_34) k) ?_
    show Gl _ _ _ _ _ _ _ (T3.setTop (mkF m 35 #[.val (.int p1), .val (.int p2), .val (.int p3), .val (.int p4), .val (.int p5), .val (.int p6), .val (.int (0 : Int32)), .val (.int (own_pick p2 (0 : Int32) p3)), .val (.int (own_pick p2 (1 : Int32) p4)), .val (.int (own_pick p2 (2 : Int32) p5)), .unset, .unset, .unset, .unset] [(.int (3 : Int32)), (.int p2)]))
    refine Gl.st (fun t k => XS.iload X3.here hx rfl (hb hby at_35) rfl  k) ?_
    show Gl _ _ _ _ _ _ _ (T3.setTop (mkF m 37 #[.val (.int p1), .val (.int p2), .val (.int p3), .val (.int p4), .val (.int p5), .val (.int p6), .val (.int (0 : Int32)), .val (.int (own_pick p2 (0 : Int32) p3)), .val (.int (own_pick p2 (1 : Int32) p4)), .val (.int (own_pick p2 (2 : Int32) p5)), .unset, .unset, .unset, .unset] [(.int p6), (.int (3 : Int32)), (.int p2)]))
    obtain ⟨_, _, ⟨T4, L4, k4, n4⟩, -, X4, ⟨Lc4, hQ4, l4, y4, z4⟩, st4⟩ := Jvm.LawKit.callS X3 hx (y := (⟨"com/example/enact/enact/engine/MarkingIsEmptyPinLaw", "pick", "(III)I"⟩ : MethodName)) hown (mvT hZ (hw _ (List.mem_of_getElem? (i := 0) rfl))) (mvT hZ (hw _ (List.mem_of_getElem? (i := 1) rfl))) (mvT hZ (hw _ (List.mem_of_getElem? (i := 2) rfl))) (mvT hZ (hw _ (List.mem_of_getElem? (i := 3) rfl))) (by decide) (backOf (W := 0) (rm1 l Z a0 hw [] p2 (3 : Int32) p6 h0 n0) hZ (hw _ (List.mem_of_getElem? (i := 3) rfl)) (hw _ (List.mem_of_getElem? (i := 2) rfl)) (by decide) (by decide)) (g := (mkF m 37 #[.val (.int p1), .val (.int p2), .val (.int p3), .val (.int p4), .val (.int p5), .val (.int p6), .val (.int (0 : Int32)), .val (.int (own_pick p2 (0 : Int32) p3)), .val (.int (own_pick p2 (1 : Int32) p4)), .val (.int (own_pick p2 (2 : Int32) p5)), .unset, .unset, .unset, .unset] [(.int p6), (.int (3 : Int32)), (.int p2)])) rfl (by rw [hml]; rfl) (argsL := [(.int p2), (.int (3 : Int32)), (.int p6)]) (rest := []) (lenOf pd_0 rfl) rfl (by show 2 * 0 + _ ≤ _; exact Nat.le_of_eq rfl) (hb hby at_37) (fun _ _ => ⟨rfl, e3, (by decide : 0 + 0 ≤ _), (by decide : 0 + 0 ≤ _)⟩)
    dsimp only [Pt.U, Pt.locs, Pt.cells, Pt.slots] at X4 l4 y4 z4 st4 hQ4
    subst l4 y4 z4
    obtain ⟨rfl, N4q, e4⟩ := hQ4
    have N4 := Fr.app N3 N4q
    refine Gl.st st4 ?_
    show Gl _ _ _ _ _ _ _ (T4.setTop (mkF m 40 #[.val (.int p1), .val (.int p2), .val (.int p3), .val (.int p4), .val (.int p5), .val (.int p6), .val (.int (0 : Int32)), .val (.int (own_pick p2 (0 : Int32) p3)), .val (.int (own_pick p2 (1 : Int32) p4)), .val (.int (own_pick p2 (2 : Int32) p5)), .unset, .unset, .unset, .unset] [(.int (own_pick p2 (3 : Int32) p6))]))
    refine Gl.st (fun t k => XS.istore X4.here hx rfl (hb hby at_40) rfl (l' := #[.val (.int p1), .val (.int p2), .val (.int p3), .val (.int p4), .val (.int p5), .val (.int p6), .val (.int (0 : Int32)), .val (.int (own_pick p2 (0 : Int32) p3)), .val (.int (own_pick p2 (1 : Int32) p4)), .val (.int (own_pick p2 (2 : Int32) p5)), .val (.int (own_pick p2 (3 : Int32) p6)), .unset, .unset, .unset]) rfl k) ?_
    show Gl _ _ _ _ _ _ _ (T4.setTop (mkF m 42 #[.val (.int p1), .val (.int p2), .val (.int p3), .val (.int p4), .val (.int p5), .val (.int p6), .val (.int (0 : Int32)), .val (.int (own_pick p2 (0 : Int32) p3)), .val (.int (own_pick p2 (1 : Int32) p4)), .val (.int (own_pick p2 (2 : Int32) p5)), .val (.int (own_pick p2 (3 : Int32) p6)), .unset, .unset, .unset] []))
    refine Gl.st (fun t k => XS.iload X4.here hx rfl (hb hby at_42) rfl  k) ?_
    show Gl _ _ _ _ _ _ _ (T4.setTop (mkF m 44 #[.val (.int p1), .val (.int p2), .val (.int p3), .val (.int p4), .val (.int p5), .val (.int p6), .val (.int (0 : Int32)), .val (.int (own_pick p2 (0 : Int32) p3)), .val (.int (own_pick p2 (1 : Int32) p4)), .val (.int (own_pick p2 (2 : Int32) p5)), .val (.int (own_pick p2 (3 : Int32) p6)), .unset, .unset, .unset] [(.int (0 : Int32))]))
    obtain ⟨T5, h5, k5, X5, e5, E5, A5, st5⟩ := newP X4 hx hZ (hw _ (List.mem_of_getElem? (i := 5) rfl)) e4 (g := (mkF m 44 #[.val (.int p1), .val (.int p2), .val (.int p3), .val (.int p4), .val (.int p5), .val (.int p6), .val (.int (0 : Int32)), .val (.int (own_pick p2 (0 : Int32) p3)), .val (.int (own_pick p2 (1 : Int32) p4)), .val (.int (own_pick p2 (2 : Int32) p5)), .val (.int (own_pick p2 (3 : Int32) p6)), .unset, .unset, .unset] [(.int (0 : Int32))])) rfl (hb hby at_44) rfl (by decide) (cap := 0) (by decide) (by decide) (by decide) (by decide)
    obtain ⟨b5, g5⟩ : ∃ z, z = h0.size := ⟨_, rfl⟩
    rw [← g5] at A5 st5
    refine Gl.st st5 ?_
    have gzb5 : n0 ≤ b5 := Nat.le_trans Z0 (Nat.le_of_eq g5.symm)
    have Z5 : n0 ≤ h5.size := Nat.le_trans Z0 E5.1
    have V5 : Arv Z h5 b5 k5 .int (0 : Int32) [] (.int (0 : Int32)) := Arv.new A5 (by decide)
    show Gl _ _ _ _ _ _ _ (T5.setTop (mkF m 46 #[.val (.int p1), .val (.int p2), .val (.int p3), .val (.int p4), .val (.int p5), .val (.int p6), .val (.int (0 : Int32)), .val (.int (own_pick p2 (0 : Int32) p3)), .val (.int (own_pick p2 (1 : Int32) p4)), .val (.int (own_pick p2 (2 : Int32) p5)), .val (.int (own_pick p2 (3 : Int32) p6)), .unset, .unset, .unset] [(.ref b5)]))
    refine Gl.st (fun t k => XS.astore X5.here hx rfl (hb hby at_46) rfl rfl (l' := #[.val (.int p1), .val (.int p2), .val (.int p3), .val (.int p4), .val (.int p5), .val (.int p6), .val (.int (0 : Int32)), .val (.int (own_pick p2 (0 : Int32) p3)), .val (.int (own_pick p2 (1 : Int32) p4)), .val (.int (own_pick p2 (2 : Int32) p5)), .val (.int (own_pick p2 (3 : Int32) p6)), .val (.ref b5), .unset, .unset]) rfl k) ?_
    show Gl _ _ _ _ _ _ _ (T5.setTop (mkF m 48 #[.val (.int p1), .val (.int p2), .val (.int p3), .val (.int p4), .val (.int p5), .val (.int p6), .val (.int (0 : Int32)), .val (.int (own_pick p2 (0 : Int32) p3)), .val (.int (own_pick p2 (1 : Int32) p4)), .val (.int (own_pick p2 (2 : Int32) p5)), .val (.int (own_pick p2 (3 : Int32) p6)), .val (.ref b5), .unset, .unset] []))
    refine Gl.st (fun t k => XS.iload X5.here hx rfl (hb hby at_48) rfl  k) ?_
    show Gl _ _ _ _ _ _ _ (T5.setTop (mkF m 50 #[.val (.int p1), .val (.int p2), .val (.int p3), .val (.int p4), .val (.int p5), .val (.int p6), .val (.int (0 : Int32)), .val (.int (own_pick p2 (0 : Int32) p3)), .val (.int (own_pick p2 (1 : Int32) p4)), .val (.int (own_pick p2 (2 : Int32) p5)), .val (.int (own_pick p2 (3 : Int32) p6)), .val (.ref b5), .unset, .unset] [(.int (0 : Int32))]))
    refine Gl.st (fun t k => XS.ifYes X5.here hx rfl (pc0 := 50) (pc' := 59) rfl (hb hby at_50) rfl ((if0 _ _).trans (flt (by decide : ¬ ((0 : Int32) < (0 : Int32)))).2.2.2) (by decide) (by decide) k) ?_
    show Gl _ _ _ _ _ _ _ (T5.setTop (mkF m 59 #[.val (.int p1), .val (.int p2), .val (.int p3), .val (.int p4), .val (.int p5), .val (.int p6), .val (.int (0 : Int32)), .val (.int (own_pick p2 (0 : Int32) p3)), .val (.int (own_pick p2 (1 : Int32) p4)), .val (.int (own_pick p2 (2 : Int32) p5)), .val (.int (own_pick p2 (3 : Int32) p6)), .val (.ref b5), .unset, .unset] []))
    refine Gl.st (fun t k => XS.iload X5.here hx rfl (hb hby at_59) rfl  k) ?_
    show Gl _ _ _ _ _ _ _ (T5.setTop (mkF m 61 #[.val (.int p1), .val (.int p2), .val (.int p3), .val (.int p4), .val (.int p5), .val (.int p6), .val (.int (0 : Int32)), .val (.int (own_pick p2 (0 : Int32) p3)), .val (.int (own_pick p2 (1 : Int32) p4)), .val (.int (own_pick p2 (2 : Int32) p5)), .val (.int (own_pick p2 (3 : Int32) p6)), .val (.ref b5), .unset, .unset] [(.int (0 : Int32))]))
    refine Gl.st (fun t k => XS.iconst X5.here hx rfl (hb hby at_61) k) ?_
    show Gl _ _ _ _ _ _ _ (T5.setTop (mkF m 62 #[.val (.int p1), .val (.int p2), .val (.int p3), .val (.int p4), .val (.int p5), .val (.int p6), .val (.int (0 : Int32)), .val (.int (own_pick p2 (0 : Int32) p3)), .val (.int (own_pick p2 (1 : Int32) p4)), .val (.int (own_pick p2 (2 : Int32) p5)), .val (.int (own_pick p2 (3 : Int32) p6)), .val (.ref b5), .unset, .unset] [(.int (1 : Int32)), (.int (0 : Int32))]))
    refine Gl.st (fun t k => XS.icmpYes X5.here hx rfl (pc0 := 62) (pc' := 71) rfl (hb hby at_62) rfl (flt (by decide : ¬ ((1 : Int32) < (0 : Int32)))).2.2.2 (by decide) (by decide) k) ?_
    show Gl _ _ _ _ _ _ _ (T5.setTop (mkF m 71 #[.val (.int p1), .val (.int p2), .val (.int p3), .val (.int p4), .val (.int p5), .val (.int p6), .val (.int (0 : Int32)), .val (.int (own_pick p2 (0 : Int32) p3)), .val (.int (own_pick p2 (1 : Int32) p4)), .val (.int (own_pick p2 (2 : Int32) p5)), .val (.int (own_pick p2 (3 : Int32) p6)), .val (.ref b5), .unset, .unset] []))
    refine Gl.st (fun t k => XS.iload X5.here hx rfl (hb hby at_71) rfl  k) ?_
    show Gl _ _ _ _ _ _ _ (T5.setTop (mkF m 73 #[.val (.int p1), .val (.int p2), .val (.int p3), .val (.int p4), .val (.int p5), .val (.int p6), .val (.int (0 : Int32)), .val (.int (own_pick p2 (0 : Int32) p3)), .val (.int (own_pick p2 (1 : Int32) p4)), .val (.int (own_pick p2 (2 : Int32) p5)), .val (.int (own_pick p2 (3 : Int32) p6)), .val (.ref b5), .unset, .unset] [(.int (0 : Int32))]))
    refine Gl.st (fun t k => XS.iconst X5.here hx rfl (hb hby at_73) k) ?_
    show Gl _ _ _ _ _ _ _ (T5.setTop (mkF m 74 #[.val (.int p1), .val (.int p2), .val (.int p3), .val (.int p4), .val (.int p5), .val (.int p6), .val (.int (0 : Int32)), .val (.int (own_pick p2 (0 : Int32) p3)), .val (.int (own_pick p2 (1 : Int32) p4)), .val (.int (own_pick p2 (2 : Int32) p5)), .val (.int (own_pick p2 (3 : Int32) p6)), .val (.ref b5), .unset, .unset] [(.int (2 : Int32)), (.int (0 : Int32))]))
    refine Gl.st (fun t k => XS.icmpYes X5.here hx rfl (pc0 := 74) (pc' := 83) rfl (hb hby at_74) rfl (flt (by decide : ¬ ((2 : Int32) < (0 : Int32)))).2.2.2 (by decide) (by decide) k) ?_
    show Gl _ _ _ _ _ _ _ (T5.setTop (mkF m 83 #[.val (.int p1), .val (.int p2), .val (.int p3), .val (.int p4), .val (.int p5), .val (.int p6), .val (.int (0 : Int32)), .val (.int (own_pick p2 (0 : Int32) p3)), .val (.int (own_pick p2 (1 : Int32) p4)), .val (.int (own_pick p2 (2 : Int32) p5)), .val (.int (own_pick p2 (3 : Int32) p6)), .val (.ref b5), .unset, .unset] []))
    refine Gl.st (fun t k => XS.iload X5.here hx rfl (hb hby at_83) rfl  k) ?_
    show Gl _ _ _ _ _ _ _ (T5.setTop (mkF m 85 #[.val (.int p1), .val (.int p2), .val (.int p3), .val (.int p4), .val (.int p5), .val (.int p6), .val (.int (0 : Int32)), .val (.int (own_pick p2 (0 : Int32) p3)), .val (.int (own_pick p2 (1 : Int32) p4)), .val (.int (own_pick p2 (2 : Int32) p5)), .val (.int (own_pick p2 (3 : Int32) p6)), .val (.ref b5), .unset, .unset] [(.int (0 : Int32))]))
    refine Gl.st (fun t k => XS.iconst X5.here hx rfl (hb hby at_85) k) ?_
    show Gl _ _ _ _ _ _ _ (T5.setTop (mkF m 86 #[.val (.int p1), .val (.int p2), .val (.int p3), .val (.int p4), .val (.int p5), .val (.int p6), .val (.int (0 : Int32)), .val (.int (own_pick p2 (0 : Int32) p3)), .val (.int (own_pick p2 (1 : Int32) p4)), .val (.int (own_pick p2 (2 : Int32) p5)), .val (.int (own_pick p2 (3 : Int32) p6)), .val (.ref b5), .unset, .unset] [(.int (3 : Int32)), (.int (0 : Int32))]))
    refine Gl.st (fun t k => XS.icmpYes X5.here hx rfl (pc0 := 86) (pc' := 95) rfl (hb hby at_86) rfl (flt (by decide : ¬ ((3 : Int32) < (0 : Int32)))).2.2.2 (by decide) (by decide) k) ?_
    show Gl _ _ _ _ _ _ _ (T5.setTop (mkF m 95 #[.val (.int p1), .val (.int p2), .val (.int p3), .val (.int p4), .val (.int p5), .val (.int p6), .val (.int (0 : Int32)), .val (.int (own_pick p2 (0 : Int32) p3)), .val (.int (own_pick p2 (1 : Int32) p4)), .val (.int (own_pick p2 (2 : Int32) p5)), .val (.int (own_pick p2 (3 : Int32) p6)), .val (.ref b5), .unset, .unset] []))
    refine Gl.st (fun t k => XS.iconst X5.here hx rfl (hb hby at_95) k) ?_
    show Gl _ _ _ _ _ _ _ (T5.setTop (mkF m 96 #[.val (.int p1), .val (.int p2), .val (.int p3), .val (.int p4), .val (.int p5), .val (.int p6), .val (.int (0 : Int32)), .val (.int (own_pick p2 (0 : Int32) p3)), .val (.int (own_pick p2 (1 : Int32) p4)), .val (.int (own_pick p2 (2 : Int32) p5)), .val (.int (own_pick p2 (3 : Int32) p6)), .val (.ref b5), .unset, .unset] [(.int (1 : Int32))]))
    refine Gl.st (fun t k => XS.istore X5.here hx rfl (hb hby at_96) rfl (l' := #[.val (.int p1), .val (.int p2), .val (.int p3), .val (.int p4), .val (.int p5), .val (.int p6), .val (.int (0 : Int32)), .val (.int (own_pick p2 (0 : Int32) p3)), .val (.int (own_pick p2 (1 : Int32) p4)), .val (.int (own_pick p2 (2 : Int32) p5)), .val (.int (own_pick p2 (3 : Int32) p6)), .val (.ref b5), .val (.int (1 : Int32)), .unset]) rfl k) ?_
    show Gl _ _ _ _ _ _ _ (T5.setTop (mkF m 98 #[.val (.int p1), .val (.int p2), .val (.int p3), .val (.int p4), .val (.int p5), .val (.int p6), .val (.int (0 : Int32)), .val (.int (own_pick p2 (0 : Int32) p3)), .val (.int (own_pick p2 (1 : Int32) p4)), .val (.int (own_pick p2 (2 : Int32) p5)), .val (.int (own_pick p2 (3 : Int32) p6)), .val (.ref b5), .val (.int (1 : Int32)), .unset] []))
    refine Gl.st (fun t k => XS.iload X5.here hx rfl (hb hby at_98) rfl  k) ?_
    show Gl _ _ _ _ _ _ _ (T5.setTop (mkF m 100 #[.val (.int p1), .val (.int p2), .val (.int p3), .val (.int p4), .val (.int p5), .val (.int p6), .val (.int (0 : Int32)), .val (.int (own_pick p2 (0 : Int32) p3)), .val (.int (own_pick p2 (1 : Int32) p4)), .val (.int (own_pick p2 (2 : Int32) p5)), .val (.int (own_pick p2 (3 : Int32) p6)), .val (.ref b5), .val (.int (1 : Int32)), .unset] [(.int (0 : Int32))]))
    refine Gl.st (fun t k => XS.ifYes X5.here hx rfl (pc0 := 100) (pc' := 111) rfl (hb hby at_100) rfl ((if0 _ _).trans (flt (by decide : ¬ ((0 : Int32) < (0 : Int32)))).2.2.2) (by decide) (by decide) k) ?_
    show Gl _ _ _ _ _ _ _ (T5.setTop (mkF m 111 #[.val (.int p1), .val (.int p2), .val (.int p3), .val (.int p4), .val (.int p5), .val (.int p6), .val (.int (0 : Int32)), .val (.int (own_pick p2 (0 : Int32) p3)), .val (.int (own_pick p2 (1 : Int32) p4)), .val (.int (own_pick p2 (2 : Int32) p5)), .val (.int (own_pick p2 (3 : Int32) p6)), .val (.ref b5), .val (.int (1 : Int32)), .unset] []))
    refine Gl.st (fun t k => XS.iload X5.here hx rfl (hb hby at_111) rfl  k) ?_
    show Gl _ _ _ _ _ _ _ (T5.setTop (mkF m 113 #[.val (.int p1), .val (.int p2), .val (.int p3), .val (.int p4), .val (.int p5), .val (.int p6), .val (.int (0 : Int32)), .val (.int (own_pick p2 (0 : Int32) p3)), .val (.int (own_pick p2 (1 : Int32) p4)), .val (.int (own_pick p2 (2 : Int32) p5)), .val (.int (own_pick p2 (3 : Int32) p6)), .val (.ref b5), .val (.int (1 : Int32)), .unset] [(.int (0 : Int32))]))
    refine Gl.st (fun t k => XS.iconst X5.here hx rfl (hb hby at_113) k) ?_
    show Gl _ _ _ _ _ _ _ (T5.setTop (mkF m 114 #[.val (.int p1), .val (.int p2), .val (.int p3), .val (.int p4), .val (.int p5), .val (.int p6), .val (.int (0 : Int32)), .val (.int (own_pick p2 (0 : Int32) p3)), .val (.int (own_pick p2 (1 : Int32) p4)), .val (.int (own_pick p2 (2 : Int32) p5)), .val (.int (own_pick p2 (3 : Int32) p6)), .val (.ref b5), .val (.int (1 : Int32)), .unset] [(.int (1 : Int32)), (.int (0 : Int32))]))
    refine Gl.st (fun t k => XS.icmpYes X5.here hx rfl (pc0 := 114) (pc' := 125) rfl (hb hby at_114) rfl (flt (by decide : ¬ ((1 : Int32) < (0 : Int32)))).2.2.2 (by decide) (by decide) k) ?_
    show Gl _ _ _ _ _ _ _ (T5.setTop (mkF m 125 #[.val (.int p1), .val (.int p2), .val (.int p3), .val (.int p4), .val (.int p5), .val (.int p6), .val (.int (0 : Int32)), .val (.int (own_pick p2 (0 : Int32) p3)), .val (.int (own_pick p2 (1 : Int32) p4)), .val (.int (own_pick p2 (2 : Int32) p5)), .val (.int (own_pick p2 (3 : Int32) p6)), .val (.ref b5), .val (.int (1 : Int32)), .unset] []))
    refine Gl.st (fun t k => XS.iload X5.here hx rfl (hb hby at_125) rfl  k) ?_
    show Gl _ _ _ _ _ _ _ (T5.setTop (mkF m 127 #[.val (.int p1), .val (.int p2), .val (.int p3), .val (.int p4), .val (.int p5), .val (.int p6), .val (.int (0 : Int32)), .val (.int (own_pick p2 (0 : Int32) p3)), .val (.int (own_pick p2 (1 : Int32) p4)), .val (.int (own_pick p2 (2 : Int32) p5)), .val (.int (own_pick p2 (3 : Int32) p6)), .val (.ref b5), .val (.int (1 : Int32)), .unset] [(.int (0 : Int32))]))
    refine Gl.st (fun t k => XS.iconst X5.here hx rfl (hb hby at_127) k) ?_
    show Gl _ _ _ _ _ _ _ (T5.setTop (mkF m 128 #[.val (.int p1), .val (.int p2), .val (.int p3), .val (.int p4), .val (.int p5), .val (.int p6), .val (.int (0 : Int32)), .val (.int (own_pick p2 (0 : Int32) p3)), .val (.int (own_pick p2 (1 : Int32) p4)), .val (.int (own_pick p2 (2 : Int32) p5)), .val (.int (own_pick p2 (3 : Int32) p6)), .val (.ref b5), .val (.int (1 : Int32)), .unset] [(.int (2 : Int32)), (.int (0 : Int32))]))
    refine Gl.st (fun t k => XS.icmpYes X5.here hx rfl (pc0 := 128) (pc' := 139) rfl (hb hby at_128) rfl (flt (by decide : ¬ ((2 : Int32) < (0 : Int32)))).2.2.2 (by decide) (by decide) k) ?_
    show Gl _ _ _ _ _ _ _ (T5.setTop (mkF m 139 #[.val (.int p1), .val (.int p2), .val (.int p3), .val (.int p4), .val (.int p5), .val (.int p6), .val (.int (0 : Int32)), .val (.int (own_pick p2 (0 : Int32) p3)), .val (.int (own_pick p2 (1 : Int32) p4)), .val (.int (own_pick p2 (2 : Int32) p5)), .val (.int (own_pick p2 (3 : Int32) p6)), .val (.ref b5), .val (.int (1 : Int32)), .unset] []))
    refine Gl.st (fun t k => XS.iload X5.here hx rfl (hb hby at_139) rfl  k) ?_
    show Gl _ _ _ _ _ _ _ (T5.setTop (mkF m 141 #[.val (.int p1), .val (.int p2), .val (.int p3), .val (.int p4), .val (.int p5), .val (.int p6), .val (.int (0 : Int32)), .val (.int (own_pick p2 (0 : Int32) p3)), .val (.int (own_pick p2 (1 : Int32) p4)), .val (.int (own_pick p2 (2 : Int32) p5)), .val (.int (own_pick p2 (3 : Int32) p6)), .val (.ref b5), .val (.int (1 : Int32)), .unset] [(.int (0 : Int32))]))
    refine Gl.st (fun t k => XS.iconst X5.here hx rfl (hb hby at_141) k) ?_
    show Gl _ _ _ _ _ _ _ (T5.setTop (mkF m 142 #[.val (.int p1), .val (.int p2), .val (.int p3), .val (.int p4), .val (.int p5), .val (.int p6), .val (.int (0 : Int32)), .val (.int (own_pick p2 (0 : Int32) p3)), .val (.int (own_pick p2 (1 : Int32) p4)), .val (.int (own_pick p2 (2 : Int32) p5)), .val (.int (own_pick p2 (3 : Int32) p6)), .val (.ref b5), .val (.int (1 : Int32)), .unset] [(.int (3 : Int32)), (.int (0 : Int32))]))
    refine Gl.st (fun t k => XS.icmpYes X5.here hx rfl (pc0 := 142) (pc' := 153) rfl (hb hby at_142) rfl (flt (by decide : ¬ ((3 : Int32) < (0 : Int32)))).2.2.2 (by decide) (by decide) k) ?_
    show Gl _ _ _ _ _ _ _ (T5.setTop (mkF m 153 #[.val (.int p1), .val (.int p2), .val (.int p3), .val (.int p4), .val (.int p5), .val (.int p6), .val (.int (0 : Int32)), .val (.int (own_pick p2 (0 : Int32) p3)), .val (.int (own_pick p2 (1 : Int32) p4)), .val (.int (own_pick p2 (2 : Int32) p5)), .val (.int (own_pick p2 (3 : Int32) p6)), .val (.ref b5), .val (.int (1 : Int32)), .unset] []))
    obtain ⟨T6, h6, X6, e6, E6, A6, D6, -, st6⟩ := newO X5 hx hZ hown (hw _ (List.mem_of_getElem? (i := 6) rfl)) (hw _ (List.mem_of_getElem? (i := 7) rfl)) (hw _ (List.mem_of_getElem? (i := 8) rfl)) e5 (g := (mkF m 153 #[.val (.int p1), .val (.int p2), .val (.int p3), .val (.int p4), .val (.int p5), .val (.int p6), .val (.int (0 : Int32)), .val (.int (own_pick p2 (0 : Int32) p3)), .val (.int (own_pick p2 (1 : Int32) p4)), .val (.int (own_pick p2 (2 : Int32) p5)), .val (.int (own_pick p2 (3 : Int32) p6)), .val (.ref b5), .val (.int (1 : Int32)), .unset] [])) rfl (hb hby at_153) (by decide) (by decide)
    obtain ⟨b6, g6⟩ : ∃ z, z = h5.size := ⟨_, rfl⟩
    rw [← g6] at A6 D6 st6
    refine Gl.st st6 ?_
    have ne_b5_b6 : b5 ≠ b6 := Nat.ne_of_lt (Nat.lt_of_lt_of_le V5.lt (Nat.le_of_eq g6.symm))
    have gzb6 : n0 ≤ b6 := Nat.le_trans Z5 (Nat.le_of_eq g6.symm)
    have Z6 : n0 ≤ h6.size := Nat.le_trans Z5 E6.1
    have V5'7 : Arv Z h6 b5 k5 .int (0 : Int32) [] (.int (0 : Int32)) := V5.ext E6
    have F6_tokens : Fld Z h6 b6 "com/example/enact/enact/engine/Marking" "tokens" "[I" .null := D6 (Or.inr (hw _ (List.mem_of_getElem? (i := 16) rfl))) (ty := (.array .int)) (by decide)
    show Gl _ _ _ _ _ _ _ (T6.setTop (mkF m 156 #[.val (.int p1), .val (.int p2), .val (.int p3), .val (.int p4), .val (.int p5), .val (.int p6), .val (.int (0 : Int32)), .val (.int (own_pick p2 (0 : Int32) p3)), .val (.int (own_pick p2 (1 : Int32) p4)), .val (.int (own_pick p2 (2 : Int32) p5)), .val (.int (own_pick p2 (3 : Int32) p6)), .val (.ref b5), .val (.int (1 : Int32)), .unset] [(.ref b6)]))
    refine Gl.st (fun t k => XS.dup X6.here hx rfl (hb hby at_156) rfl rfl k) ?_
    show Gl _ _ _ _ _ _ _ (T6.setTop (mkF m 157 #[.val (.int p1), .val (.int p2), .val (.int p3), .val (.int p4), .val (.int p5), .val (.int p6), .val (.int (0 : Int32)), .val (.int (own_pick p2 (0 : Int32) p3)), .val (.int (own_pick p2 (1 : Int32) p4)), .val (.int (own_pick p2 (2 : Int32) p5)), .val (.int (own_pick p2 (3 : Int32) p6)), .val (.ref b5), .val (.int (1 : Int32)), .unset] [(.ref b6), (.ref b6)]))
    refine Gl.st (fun t k => XS.aload X6.here hx rfl (hb hby at_157) rfl rfl k) ?_
    show Gl _ _ _ _ _ _ _ (T6.setTop (mkF m 159 #[.val (.int p1), .val (.int p2), .val (.int p3), .val (.int p4), .val (.int p5), .val (.int p6), .val (.int (0 : Int32)), .val (.int (own_pick p2 (0 : Int32) p3)), .val (.int (own_pick p2 (1 : Int32) p4)), .val (.int (own_pick p2 (2 : Int32) p5)), .val (.int (own_pick p2 (3 : Int32) p6)), .val (.ref b5), .val (.int (1 : Int32)), .unset] [(.ref b5), (.ref b6), (.ref b6)]))
    obtain ⟨_, _, ⟨T8, L8, k8, n8⟩, -, X8, ⟨Lc8, hQ8, l8, y8, z8⟩, st8⟩ := X6.specialBack hx (y := (⟨"com/example/enact/enact/engine/Marking", "<init>", "([I)V"⟩ : MethodName)) rfl hown (mvT hZ (hw _ (List.mem_of_getElem? (i := 9) rfl))) (mvT hZ (hw _ (List.mem_of_getElem? (i := 10) rfl))) (mvT hZ (hw _ (List.mem_of_getElem? (i := 11) rfl))) (by decide) (backOf (W := 1) (rm2 l Z a0 hw [] b6 b5 (.null) h6 n0 Z6 A6 F6_tokens gzb6) hZ (hw _ (List.mem_of_getElem? (i := 11) rfl)) (hw _ (List.mem_of_getElem? (i := 8) rfl)) (by decide) (by decide)) (g := (mkF m 159 #[.val (.int p1), .val (.int p2), .val (.int p3), .val (.int p4), .val (.int p5), .val (.int p6), .val (.int (0 : Int32)), .val (.int (own_pick p2 (0 : Int32) p3)), .val (.int (own_pick p2 (1 : Int32) p4)), .val (.int (own_pick p2 (2 : Int32) p5)), .val (.int (own_pick p2 (3 : Int32) p6)), .val (.ref b5), .val (.int (1 : Int32)), .unset] [(.ref b5), (.ref b6), (.ref b6)])) rfl (by rw [hml]; rfl) (Steps.refl _) (a := b6) (argsL := [(.ref b5)]) (rest := [(.ref b6)]) (lenOf pd_1 rfl) rfl (by show 2 * 0 + _ ≤ _; exact Nat.le_of_eq rfl) (hb hby at_159) (fun _ _ => ⟨rfl, e6, (by decide : 2 + 0 ≤ _), (by decide : 2 + 0 ≤ _)⟩)
    dsimp only [Pt.U, Pt.locs, Pt.cells, Pt.slots] at X8 l8 y8 z8 st8 hQ8
    subst l8 y8 z8
    obtain ⟨rfl, N8q, Kq8, Fq8_0, Fq8_1⟩ := hQ8
    have N8 := Fr.app N4 N8q
    have Z8 : n0 ≤ T8.heap.size := Nat.le_trans Z6 Kq8.1
    have V5'9 : Arv Z T8.heap b5 k5 .int (0 : Int32) [] (.int (0 : Int32)) := V5'7.keep Kq8 (ninS ne_b5_b6 nin0)
    refine Gl.to st8 ?_
    show Gl _ _ _ _ _ _ _ (T8.setTop (mkF m 162 #[.val (.int p1), .val (.int p2), .val (.int p3), .val (.int p4), .val (.int p5), .val (.int p6), .val (.int (0 : Int32)), .val (.int (own_pick p2 (0 : Int32) p3)), .val (.int (own_pick p2 (1 : Int32) p4)), .val (.int (own_pick p2 (2 : Int32) p5)), .val (.int (own_pick p2 (3 : Int32) p6)), .val (.ref b5), .val (.int (1 : Int32)), .unset] [(.ref b6)]))
    refine Gl.st (fun t k => XS.astore X8.here hx rfl (hb hby at_162) rfl rfl (l' := #[.val (.int p1), .val (.int p2), .val (.int p3), .val (.int p4), .val (.int p5), .val (.int p6), .val (.int (0 : Int32)), .val (.int (own_pick p2 (0 : Int32) p3)), .val (.int (own_pick p2 (1 : Int32) p4)), .val (.int (own_pick p2 (2 : Int32) p5)), .val (.int (own_pick p2 (3 : Int32) p6)), .val (.ref b5), .val (.int (1 : Int32)), .val (.ref b6)]) rfl k) ?_
    show Gl _ _ _ _ _ _ _ (T8.setTop (mkF m 164 #[.val (.int p1), .val (.int p2), .val (.int p3), .val (.int p4), .val (.int p5), .val (.int p6), .val (.int (0 : Int32)), .val (.int (own_pick p2 (0 : Int32) p3)), .val (.int (own_pick p2 (1 : Int32) p4)), .val (.int (own_pick p2 (2 : Int32) p5)), .val (.int (own_pick p2 (3 : Int32) p6)), .val (.ref b5), .val (.int (1 : Int32)), .val (.ref b6)] []))
    refine Gl.st (fun t k => XS.aload X8.here hx rfl (hb hby at_164) rfl rfl k) ?_
    show Gl _ _ _ _ _ _ _ (T8.setTop (mkF m 166 #[.val (.int p1), .val (.int p2), .val (.int p3), .val (.int p4), .val (.int p5), .val (.int p6), .val (.int (0 : Int32)), .val (.int (own_pick p2 (0 : Int32) p3)), .val (.int (own_pick p2 (1 : Int32) p4)), .val (.int (own_pick p2 (2 : Int32) p5)), .val (.int (own_pick p2 (3 : Int32) p6)), .val (.ref b5), .val (.int (1 : Int32)), .val (.ref b6)] [(.ref b6)]))
    obtain ⟨cq10, kq10, qa10, qb10, qc10⟩ := isOf hZ rfl Fq8_0
    obtain ⟨_, _, ⟨T10, L10, k10, n10⟩, -, X10, ⟨Lc10, hQ10, l10, y10, z10⟩, st10⟩ := X8.virtualBack hx (y := (⟨"com/example/enact/enact/engine/Marking", "isEmpty", "()Z"⟩ : MethodName)) (z := (⟨"com/example/enact/enact/engine/Marking", "isEmpty", "()Z"⟩ : MethodName)) hown (mvT hZ (hw _ (List.mem_of_getElem? (i := 17) rfl))) (mvT hZ (hw _ (List.mem_of_getElem? (i := 18) rfl))) (notFace_of_selects (args := #[]) (mvT hZ (hw _ (List.mem_of_getElem? (i := 20) rfl)))) (mvT hZ (hw _ (List.mem_of_getElem? (i := 20) rfl))) (mvT hZ (hw _ (List.mem_of_getElem? (i := 19) rfl))) (by decide) (backOf (W := 0) (rm4v0 l Z a0 hw [] b6 (b5) (k5) T8.heap n0  Fq8_1 V5'9) hZ (hw _ (List.mem_of_getElem? (i := 21) rfl)) (hw _ (List.mem_of_getElem? (i := 8) rfl)) (by decide) (by decide)) qa10 qc10 (g := (mkF m 166 #[.val (.int p1), .val (.int p2), .val (.int p3), .val (.int p4), .val (.int p5), .val (.int p6), .val (.int (0 : Int32)), .val (.int (own_pick p2 (0 : Int32) p3)), .val (.int (own_pick p2 (1 : Int32) p4)), .val (.int (own_pick p2 (2 : Int32) p5)), .val (.int (own_pick p2 (3 : Int32) p6)), .val (.ref b5), .val (.int (1 : Int32)), .val (.ref b6)] [(.ref b6)])) rfl (by rw [hml]; rfl) (Steps.refl _) (argsL := []) (rest := []) (lenOf pd_2 rfl) rfl (by show 2 * 0 + _ ≤ _; exact Nat.le_of_eq rfl) (hb hby at_166) (fun _ _ => ⟨rfl, rfl, (by decide : 2 + 0 ≤ _), (by decide : 2 + 0 ≤ _)⟩)
    dsimp only [Pt.U, Pt.locs, Pt.cells, Pt.slots] at X10 l10 y10 z10 st10 hQ10
    subst l10 y10 z10
    obtain ⟨rfl, N10q, e10⟩ := hQ10
    have N10 := Fr.app N8 N10q
    refine Gl.to st10 ?_
    show Gl _ _ _ _ _ _ _ (T10.setTop (mkF m 169 #[.val (.int p1), .val (.int p2), .val (.int p3), .val (.int p4), .val (.int p5), .val (.int p6), .val (.int (0 : Int32)), .val (.int (own_pick p2 (0 : Int32) p3)), .val (.int (own_pick p2 (1 : Int32) p4)), .val (.int (own_pick p2 (2 : Int32) p5)), .val (.int (own_pick p2 (3 : Int32) p6)), .val (.ref b5), .val (.int (1 : Int32)), .val (.ref b6)] [(.int (own_empty0 ))]))
    refine Gl.st (fun t k => XS.iload X10.here hx rfl (hb hby at_169) rfl  k) ?_
    show Gl _ _ _ _ _ _ _ (T10.setTop (mkF m 171 #[.val (.int p1), .val (.int p2), .val (.int p3), .val (.int p4), .val (.int p5), .val (.int p6), .val (.int (0 : Int32)), .val (.int (own_pick p2 (0 : Int32) p3)), .val (.int (own_pick p2 (1 : Int32) p4)), .val (.int (own_pick p2 (2 : Int32) p5)), .val (.int (own_pick p2 (3 : Int32) p6)), .val (.ref b5), .val (.int (1 : Int32)), .val (.ref b6)] [(.int (1 : Int32)), (.int (own_empty0 ))]))
    have hc171_11 : (own_empty0 ) = (1 : Int32) := by 
      subst_vars; unfold own_empty0; repeat' split
      all_goals first | rfl | contradiction | simp_all
    refine Gl.st (fun t k => XS.icmpNo X10.here hx rfl (hb hby at_171) rfl (teq hc171_11).2 k) ?_
    show Gl _ _ _ _ _ _ _ (T10.setTop (mkF m 174 #[.val (.int p1), .val (.int p2), .val (.int p3), .val (.int p4), .val (.int p5), .val (.int p6), .val (.int (0 : Int32)), .val (.int (own_pick p2 (0 : Int32) p3)), .val (.int (own_pick p2 (1 : Int32) p4)), .val (.int (own_pick p2 (2 : Int32) p5)), .val (.int (own_pick p2 (3 : Int32) p6)), .val (.ref b5), .val (.int (1 : Int32)), .val (.ref b6)] []))
    refine Gl.st (fun t k => XS.iconst X10.here hx rfl (hb hby at_174) k) ?_
    show Gl _ _ _ _ _ _ _ (T10.setTop (mkF m 175 #[.val (.int p1), .val (.int p2), .val (.int p3), .val (.int p4), .val (.int p5), .val (.int p6), .val (.int (0 : Int32)), .val (.int (own_pick p2 (0 : Int32) p3)), .val (.int (own_pick p2 (1 : Int32) p4)), .val (.int (own_pick p2 (2 : Int32) p5)), .val (.int (own_pick p2 (3 : Int32) p6)), .val (.ref b5), .val (.int (1 : Int32)), .val (.ref b6)] [(.int (1 : Int32))]))
    refine Gl.st (fun t k => XS.goto X10.here hx rfl (pc0 := 175) (pc' := 179) rfl (hb hby at_175) (by decide) (by decide) k) ?_
    show Gl _ _ _ _ _ _ _ (T10.setTop (mkF m 179 #[.val (.int p1), .val (.int p2), .val (.int p3), .val (.int p4), .val (.int p5), .val (.int p6), .val (.int (0 : Int32)), .val (.int (own_pick p2 (0 : Int32) p3)), .val (.int (own_pick p2 (1 : Int32) p4)), .val (.int (own_pick p2 (2 : Int32) p5)), .val (.int (own_pick p2 (3 : Int32) p6)), .val (.ref b5), .val (.int (1 : Int32)), .val (.ref b6)] [(.int (1 : Int32))]))
    exact Gl.retN X10 hx hlk Bd.returns (by simp) (hb hby at_179) (⟨rfl, N10⟩) (by decide) (by decide)
  · skip
    show Gl _ _ _ _ _ _ _ (s₁.setTop (mkF m 8 #[.val (.int p1), .val (.int p2), .val (.int p3), .val (.int p4), .val (.int p5), .val (.int p6), .val (.int (1 : Int32)), .unset, .unset, .unset, .unset, .unset, .unset, .unset] []))
    refine Gl.st (fun t k => XS.iloadN X0.here hx rfl (hb hby at_8) rfl  k) ?_
    show Gl _ _ _ _ _ _ _ (s₁.setTop (mkF m 9 #[.val (.int p1), .val (.int p2), .val (.int p3), .val (.int p4), .val (.int p5), .val (.int p6), .val (.int (1 : Int32)), .unset, .unset, .unset, .unset, .unset, .unset, .unset] [(.int p2)]))
    refine Gl.st (fun t k => XS.iconst X0.here hx rfl (hb hby at_9) k) ?_
    show Gl _ _ _ _ _ _ _ (s₁.setTop (mkF m 10 #[.val (.int p1), .val (.int p2), .val (.int p3), .val (.int p4), .val (.int p5), .val (.int p6), .val (.int (1 : Int32)), .unset, .unset, .unset, .unset, .unset, .unset, .unset] [(.int (0 : Int32)), (.int p2)]))
    refine Gl.st (fun t k => XS.iloadN X0.here hx rfl (hb hby at_10) rfl  k) ?_
    show Gl _ _ _ _ _ _ _ (s₁.setTop (mkF m 11 #[.val (.int p1), .val (.int p2), .val (.int p3), .val (.int p4), .val (.int p5), .val (.int p6), .val (.int (1 : Int32)), .unset, .unset, .unset, .unset, .unset, .unset, .unset] [(.int p3), (.int (0 : Int32)), (.int p2)]))
    obtain ⟨_, _, ⟨T12, L12, k12, n12⟩, -, X12, ⟨Lc12, hQ12, l12, y12, z12⟩, st12⟩ := Jvm.LawKit.callS X0 hx (y := (⟨"com/example/enact/enact/engine/MarkingIsEmptyPinLaw", "pick", "(III)I"⟩ : MethodName)) hown (mvT hZ (hw _ (List.mem_of_getElem? (i := 0) rfl))) (mvT hZ (hw _ (List.mem_of_getElem? (i := 1) rfl))) (mvT hZ (hw _ (List.mem_of_getElem? (i := 2) rfl))) (mvT hZ (hw _ (List.mem_of_getElem? (i := 3) rfl))) (by decide) (backOf (W := 0) (rm1 l Z a0 hw [] p2 (0 : Int32) p3 h0 n0) hZ (hw _ (List.mem_of_getElem? (i := 3) rfl)) (hw _ (List.mem_of_getElem? (i := 2) rfl)) (by decide) (by decide)) (g := (mkF m 11 #[.val (.int p1), .val (.int p2), .val (.int p3), .val (.int p4), .val (.int p5), .val (.int p6), .val (.int (1 : Int32)), .unset, .unset, .unset, .unset, .unset, .unset, .unset] [(.int p3), (.int (0 : Int32)), (.int p2)])) rfl (by rw [hml]; rfl) (argsL := [(.int p2), (.int (0 : Int32)), (.int p3)]) (rest := []) (lenOf pd_0 rfl) rfl (by show 2 * 0 + _ ≤ _; exact Nat.le_of_eq rfl) (hb hby at_11) (fun _ _ => ⟨rfl, e0, (by decide : 0 + 0 ≤ _), (by decide : 0 + 0 ≤ _)⟩)
    dsimp only [Pt.U, Pt.locs, Pt.cells, Pt.slots] at X12 l12 y12 z12 st12 hQ12
    subst l12 y12 z12
    obtain ⟨rfl, N12q, e12⟩ := hQ12
    have N12 := Fr.app N0 N12q
    refine Gl.st st12 ?_
    show Gl _ _ _ _ _ _ _ (T12.setTop (mkF m 14 #[.val (.int p1), .val (.int p2), .val (.int p3), .val (.int p4), .val (.int p5), .val (.int p6), .val (.int (1 : Int32)), .unset, .unset, .unset, .unset, .unset, .unset, .unset] [(.int (own_pick p2 (0 : Int32) p3))]))
    refine Gl.st (fun t k => XS.istore X12.here hx rfl (hb hby at_14) rfl (l' := #[.val (.int p1), .val (.int p2), .val (.int p3), .val (.int p4), .val (.int p5), .val (.int p6), .val (.int (1 : Int32)), .val (.int (own_pick p2 (0 : Int32) p3)), .unset, .unset, .unset, .unset, .unset, .unset]) rfl k) ?_
    show Gl _ _ _ _ _ _ _ (T12.setTop (mkF m 16 #[.val (.int p1), .val (.int p2), .val (.int p3), .val (.int p4), .val (.int p5), .val (.int p6), .val (.int (1 : Int32)), .val (.int (own_pick p2 (0 : Int32) p3)), .unset, .unset, .unset, .unset, .unset, .unset] []))
    refine Gl.st (fun t k => XS.iloadN X12.here hx rfl (hb hby at_16) rfl  k) ?_
    show Gl _ _ _ _ _ _ _ (T12.setTop (mkF m 17 #[.val (.int p1), .val (.int p2), .val (.int p3), .val (.int p4), .val (.int p5), .val (.int p6), .val (.int (1 : Int32)), .val (.int (own_pick p2 (0 : Int32) p3)), .unset, .unset, .unset, .unset, .unset, .unset] [(.int p2)]))
    refine Gl.st (fun t k => XS.iconst X12.here hx rfl (hb hby at_17) k) ?_
    show Gl _ _ _ _ _ _ _ (T12.setTop (mkF m 18 #[.val (.int p1), .val (.int p2), .val (.int p3), .val (.int p4), .val (.int p5), .val (.int p6), .val (.int (1 : Int32)), .val (.int (own_pick p2 (0 : Int32) p3)), .unset, .unset, .unset, .unset, .unset, .unset] [(.int (1 : Int32)), (.int p2)]))
    refine Gl.st (fun t k => XS.iloadN X12.here hx rfl (hb hby at_18) rfl  k) ?_
    show Gl _ _ _ _ _ _ _ (T12.setTop (mkF m 19 #[.val (.int p1), .val (.int p2), .val (.int p3), .val (.int p4), .val (.int p5), .val (.int p6), .val (.int (1 : Int32)), .val (.int (own_pick p2 (0 : Int32) p3)), .unset, .unset, .unset, .unset, .unset, .unset] [(.int p4), (.int (1 : Int32)), (.int p2)]))
    obtain ⟨_, _, ⟨T13, L13, k13, n13⟩, -, X13, ⟨Lc13, hQ13, l13, y13, z13⟩, st13⟩ := Jvm.LawKit.callS X12 hx (y := (⟨"com/example/enact/enact/engine/MarkingIsEmptyPinLaw", "pick", "(III)I"⟩ : MethodName)) hown (mvT hZ (hw _ (List.mem_of_getElem? (i := 0) rfl))) (mvT hZ (hw _ (List.mem_of_getElem? (i := 1) rfl))) (mvT hZ (hw _ (List.mem_of_getElem? (i := 2) rfl))) (mvT hZ (hw _ (List.mem_of_getElem? (i := 3) rfl))) (by decide) (backOf (W := 0) (rm1 l Z a0 hw [] p2 (1 : Int32) p4 h0 n0) hZ (hw _ (List.mem_of_getElem? (i := 3) rfl)) (hw _ (List.mem_of_getElem? (i := 2) rfl)) (by decide) (by decide)) (g := (mkF m 19 #[.val (.int p1), .val (.int p2), .val (.int p3), .val (.int p4), .val (.int p5), .val (.int p6), .val (.int (1 : Int32)), .val (.int (own_pick p2 (0 : Int32) p3)), .unset, .unset, .unset, .unset, .unset, .unset] [(.int p4), (.int (1 : Int32)), (.int p2)])) rfl (by rw [hml]; rfl) (argsL := [(.int p2), (.int (1 : Int32)), (.int p4)]) (rest := []) (lenOf pd_0 rfl) rfl (by show 2 * 0 + _ ≤ _; exact Nat.le_of_eq rfl) (hb hby at_19) (fun _ _ => ⟨rfl, e12, (by decide : 0 + 0 ≤ _), (by decide : 0 + 0 ≤ _)⟩)
    dsimp only [Pt.U, Pt.locs, Pt.cells, Pt.slots] at X13 l13 y13 z13 st13 hQ13
    subst l13 y13 z13
    obtain ⟨rfl, N13q, e13⟩ := hQ13
    have N13 := Fr.app N12 N13q
    refine Gl.st st13 ?_
    show Gl _ _ _ _ _ _ _ (T13.setTop (mkF m 22 #[.val (.int p1), .val (.int p2), .val (.int p3), .val (.int p4), .val (.int p5), .val (.int p6), .val (.int (1 : Int32)), .val (.int (own_pick p2 (0 : Int32) p3)), .unset, .unset, .unset, .unset, .unset, .unset] [(.int (own_pick p2 (1 : Int32) p4))]))
    refine Gl.st (fun t k => XS.istore X13.here hx rfl (hb hby at_22) rfl (l' := #[.val (.int p1), .val (.int p2), .val (.int p3), .val (.int p4), .val (.int p5), .val (.int p6), .val (.int (1 : Int32)), .val (.int (own_pick p2 (0 : Int32) p3)), .val (.int (own_pick p2 (1 : Int32) p4)), .unset, .unset, .unset, .unset, .unset]) rfl k) ?_
    show Gl _ _ _ _ _ _ _ (T13.setTop (mkF m 24 #[.val (.int p1), .val (.int p2), .val (.int p3), .val (.int p4), .val (.int p5), .val (.int p6), .val (.int (1 : Int32)), .val (.int (own_pick p2 (0 : Int32) p3)), .val (.int (own_pick p2 (1 : Int32) p4)), .unset, .unset, .unset, .unset, .unset] []))
    refine Gl.st (fun t k => XS.iloadN X13.here hx rfl (hb hby at_24) rfl  k) ?_
    show Gl _ _ _ _ _ _ _ (T13.setTop (mkF m 25 #[.val (.int p1), .val (.int p2), .val (.int p3), .val (.int p4), .val (.int p5), .val (.int p6), .val (.int (1 : Int32)), .val (.int (own_pick p2 (0 : Int32) p3)), .val (.int (own_pick p2 (1 : Int32) p4)), .unset, .unset, .unset, .unset, .unset] [(.int p2)]))
    refine Gl.st (fun t k => XS.iconst X13.here hx rfl (hb hby at_25) k) ?_
    show Gl _ _ _ _ _ _ _ (T13.setTop (mkF m 26 #[.val (.int p1), .val (.int p2), .val (.int p3), .val (.int p4), .val (.int p5), .val (.int p6), .val (.int (1 : Int32)), .val (.int (own_pick p2 (0 : Int32) p3)), .val (.int (own_pick p2 (1 : Int32) p4)), .unset, .unset, .unset, .unset, .unset] [(.int (2 : Int32)), (.int p2)]))
    refine Gl.st (fun t k => XS.iload X13.here hx rfl (hb hby at_26) rfl  k) ?_
    show Gl _ _ _ _ _ _ _ (T13.setTop (mkF m 28 #[.val (.int p1), .val (.int p2), .val (.int p3), .val (.int p4), .val (.int p5), .val (.int p6), .val (.int (1 : Int32)), .val (.int (own_pick p2 (0 : Int32) p3)), .val (.int (own_pick p2 (1 : Int32) p4)), .unset, .unset, .unset, .unset, .unset] [(.int p5), (.int (2 : Int32)), (.int p2)]))
    obtain ⟨_, _, ⟨T14, L14, k14, n14⟩, -, X14, ⟨Lc14, hQ14, l14, y14, z14⟩, st14⟩ := Jvm.LawKit.callS X13 hx (y := (⟨"com/example/enact/enact/engine/MarkingIsEmptyPinLaw", "pick", "(III)I"⟩ : MethodName)) hown (mvT hZ (hw _ (List.mem_of_getElem? (i := 0) rfl))) (mvT hZ (hw _ (List.mem_of_getElem? (i := 1) rfl))) (mvT hZ (hw _ (List.mem_of_getElem? (i := 2) rfl))) (mvT hZ (hw _ (List.mem_of_getElem? (i := 3) rfl))) (by decide) (backOf (W := 0) (rm1 l Z a0 hw [] p2 (2 : Int32) p5 h0 n0) hZ (hw _ (List.mem_of_getElem? (i := 3) rfl)) (hw _ (List.mem_of_getElem? (i := 2) rfl)) (by decide) (by decide)) (g := (mkF m 28 #[.val (.int p1), .val (.int p2), .val (.int p3), .val (.int p4), .val (.int p5), .val (.int p6), .val (.int (1 : Int32)), .val (.int (own_pick p2 (0 : Int32) p3)), .val (.int (own_pick p2 (1 : Int32) p4)), .unset, .unset, .unset, .unset, .unset] [(.int p5), (.int (2 : Int32)), (.int p2)])) rfl (by rw [hml]; rfl) (argsL := [(.int p2), (.int (2 : Int32)), (.int p5)]) (rest := []) (lenOf pd_0 rfl) rfl (by show 2 * 0 + _ ≤ _; exact Nat.le_of_eq rfl) (hb hby at_28) (fun _ _ => ⟨rfl, e13, (by decide : 0 + 0 ≤ _), (by decide : 0 + 0 ≤ _)⟩)
    dsimp only [Pt.U, Pt.locs, Pt.cells, Pt.slots] at X14 l14 y14 z14 st14 hQ14
    subst l14 y14 z14
    obtain ⟨rfl, N14q, e14⟩ := hQ14
    have N14 := Fr.app N13 N14q
    refine Gl.st st14 ?_
    show Gl _ _ _ _ _ _ _ (T14.setTop (mkF m 31 #[.val (.int p1), .val (.int p2), .val (.int p3), .val (.int p4), .val (.int p5), .val (.int p6), .val (.int (1 : Int32)), .val (.int (own_pick p2 (0 : Int32) p3)), .val (.int (own_pick p2 (1 : Int32) p4)), .unset, .unset, .unset, .unset, .unset] [(.int (own_pick p2 (2 : Int32) p5))]))
    refine Gl.st (fun t k => XS.istore X14.here hx rfl (hb hby at_31) rfl (l' := #[.val (.int p1), .val (.int p2), .val (.int p3), .val (.int p4), .val (.int p5), .val (.int p6), .val (.int (1 : Int32)), .val (.int (own_pick p2 (0 : Int32) p3)), .val (.int (own_pick p2 (1 : Int32) p4)), .val (.int (own_pick p2 (2 : Int32) p5)), .unset, .unset, .unset, .unset]) rfl k) ?_
    show Gl _ _ _ _ _ _ _ (T14.setTop (mkF m 33 #[.val (.int p1), .val (.int p2), .val (.int p3), .val (.int p4), .val (.int p5), .val (.int p6), .val (.int (1 : Int32)), .val (.int (own_pick p2 (0 : Int32) p3)), .val (.int (own_pick p2 (1 : Int32) p4)), .val (.int (own_pick p2 (2 : Int32) p5)), .unset, .unset, .unset, .unset] []))
    refine Gl.st (fun t k => XS.iloadN X14.here hx rfl (hb hby at_33) rfl  k) ?_
    show Gl _ _ _ _ _ _ _ (T14.setTop (mkF m 34 #[.val (.int p1), .val (.int p2), .val (.int p3), .val (.int p4), .val (.int p5), .val (.int p6), .val (.int (1 : Int32)), .val (.int (own_pick p2 (0 : Int32) p3)), .val (.int (own_pick p2 (1 : Int32) p4)), .val (.int (own_pick p2 (2 : Int32) p5)), .unset, .unset, .unset, .unset] [(.int p2)]))
    refine Gl.st (fun t k => XS.iconst X14.here hx rfl (hb hby at_34) k) ?_
    show Gl _ _ _ _ _ _ _ (T14.setTop (mkF m 35 #[.val (.int p1), .val (.int p2), .val (.int p3), .val (.int p4), .val (.int p5), .val (.int p6), .val (.int (1 : Int32)), .val (.int (own_pick p2 (0 : Int32) p3)), .val (.int (own_pick p2 (1 : Int32) p4)), .val (.int (own_pick p2 (2 : Int32) p5)), .unset, .unset, .unset, .unset] [(.int (3 : Int32)), (.int p2)]))
    refine Gl.st (fun t k => XS.iload X14.here hx rfl (hb hby at_35) rfl  k) ?_
    show Gl _ _ _ _ _ _ _ (T14.setTop (mkF m 37 #[.val (.int p1), .val (.int p2), .val (.int p3), .val (.int p4), .val (.int p5), .val (.int p6), .val (.int (1 : Int32)), .val (.int (own_pick p2 (0 : Int32) p3)), .val (.int (own_pick p2 (1 : Int32) p4)), .val (.int (own_pick p2 (2 : Int32) p5)), .unset, .unset, .unset, .unset] [(.int p6), (.int (3 : Int32)), (.int p2)]))
    obtain ⟨_, _, ⟨T15, L15, k15, n15⟩, -, X15, ⟨Lc15, hQ15, l15, y15, z15⟩, st15⟩ := Jvm.LawKit.callS X14 hx (y := (⟨"com/example/enact/enact/engine/MarkingIsEmptyPinLaw", "pick", "(III)I"⟩ : MethodName)) hown (mvT hZ (hw _ (List.mem_of_getElem? (i := 0) rfl))) (mvT hZ (hw _ (List.mem_of_getElem? (i := 1) rfl))) (mvT hZ (hw _ (List.mem_of_getElem? (i := 2) rfl))) (mvT hZ (hw _ (List.mem_of_getElem? (i := 3) rfl))) (by decide) (backOf (W := 0) (rm1 l Z a0 hw [] p2 (3 : Int32) p6 h0 n0) hZ (hw _ (List.mem_of_getElem? (i := 3) rfl)) (hw _ (List.mem_of_getElem? (i := 2) rfl)) (by decide) (by decide)) (g := (mkF m 37 #[.val (.int p1), .val (.int p2), .val (.int p3), .val (.int p4), .val (.int p5), .val (.int p6), .val (.int (1 : Int32)), .val (.int (own_pick p2 (0 : Int32) p3)), .val (.int (own_pick p2 (1 : Int32) p4)), .val (.int (own_pick p2 (2 : Int32) p5)), .unset, .unset, .unset, .unset] [(.int p6), (.int (3 : Int32)), (.int p2)])) rfl (by rw [hml]; rfl) (argsL := [(.int p2), (.int (3 : Int32)), (.int p6)]) (rest := []) (lenOf pd_0 rfl) rfl (by show 2 * 0 + _ ≤ _; exact Nat.le_of_eq rfl) (hb hby at_37) (fun _ _ => ⟨rfl, e14, (by decide : 0 + 0 ≤ _), (by decide : 0 + 0 ≤ _)⟩)
    dsimp only [Pt.U, Pt.locs, Pt.cells, Pt.slots] at X15 l15 y15 z15 st15 hQ15
    subst l15 y15 z15
    obtain ⟨rfl, N15q, e15⟩ := hQ15
    have N15 := Fr.app N14 N15q
    refine Gl.st st15 ?_
    show Gl _ _ _ _ _ _ _ (T15.setTop (mkF m 40 #[.val (.int p1), .val (.int p2), .val (.int p3), .val (.int p4), .val (.int p5), .val (.int p6), .val (.int (1 : Int32)), .val (.int (own_pick p2 (0 : Int32) p3)), .val (.int (own_pick p2 (1 : Int32) p4)), .val (.int (own_pick p2 (2 : Int32) p5)), .unset, .unset, .unset, .unset] [(.int (own_pick p2 (3 : Int32) p6))]))
    refine Gl.st (fun t k => XS.istore X15.here hx rfl (hb hby at_40) rfl (l' := #[.val (.int p1), .val (.int p2), .val (.int p3), .val (.int p4), .val (.int p5), .val (.int p6), .val (.int (1 : Int32)), .val (.int (own_pick p2 (0 : Int32) p3)), .val (.int (own_pick p2 (1 : Int32) p4)), .val (.int (own_pick p2 (2 : Int32) p5)), .val (.int (own_pick p2 (3 : Int32) p6)), .unset, .unset, .unset]) rfl k) ?_
    show Gl _ _ _ _ _ _ _ (T15.setTop (mkF m 42 #[.val (.int p1), .val (.int p2), .val (.int p3), .val (.int p4), .val (.int p5), .val (.int p6), .val (.int (1 : Int32)), .val (.int (own_pick p2 (0 : Int32) p3)), .val (.int (own_pick p2 (1 : Int32) p4)), .val (.int (own_pick p2 (2 : Int32) p5)), .val (.int (own_pick p2 (3 : Int32) p6)), .unset, .unset, .unset] []))
    refine Gl.st (fun t k => XS.iload X15.here hx rfl (hb hby at_42) rfl  k) ?_
    show Gl _ _ _ _ _ _ _ (T15.setTop (mkF m 44 #[.val (.int p1), .val (.int p2), .val (.int p3), .val (.int p4), .val (.int p5), .val (.int p6), .val (.int (1 : Int32)), .val (.int (own_pick p2 (0 : Int32) p3)), .val (.int (own_pick p2 (1 : Int32) p4)), .val (.int (own_pick p2 (2 : Int32) p5)), .val (.int (own_pick p2 (3 : Int32) p6)), .unset, .unset, .unset] [(.int (1 : Int32))]))
    obtain ⟨T16, h16, k16, X16, e16, E16, A16, st16⟩ := newP X15 hx hZ (hw _ (List.mem_of_getElem? (i := 5) rfl)) e15 (g := (mkF m 44 #[.val (.int p1), .val (.int p2), .val (.int p3), .val (.int p4), .val (.int p5), .val (.int p6), .val (.int (1 : Int32)), .val (.int (own_pick p2 (0 : Int32) p3)), .val (.int (own_pick p2 (1 : Int32) p4)), .val (.int (own_pick p2 (2 : Int32) p5)), .val (.int (own_pick p2 (3 : Int32) p6)), .unset, .unset, .unset] [(.int (1 : Int32))])) rfl (hb hby at_44) rfl (by decide) (cap := 1) (by decide) (by decide) (by decide) (by decide)
    obtain ⟨b16, g16⟩ : ∃ z, z = h0.size := ⟨_, rfl⟩
    rw [← g16] at A16 st16
    refine Gl.st st16 ?_
    have gzb16 : n0 ≤ b16 := Nat.le_trans Z0 (Nat.le_of_eq g16.symm)
    have Z16 : n0 ≤ h16.size := Nat.le_trans Z0 E16.1
    have V16 : Arv Z h16 b16 k16 .int (1 : Int32) [(.int (0 : Int32))] (.int (0 : Int32)) := (Arv.new A16 (by decide)).pad (pad_rep [] (.int (0 : Int32)) 1)
    show Gl _ _ _ _ _ _ _ (T16.setTop (mkF m 46 #[.val (.int p1), .val (.int p2), .val (.int p3), .val (.int p4), .val (.int p5), .val (.int p6), .val (.int (1 : Int32)), .val (.int (own_pick p2 (0 : Int32) p3)), .val (.int (own_pick p2 (1 : Int32) p4)), .val (.int (own_pick p2 (2 : Int32) p5)), .val (.int (own_pick p2 (3 : Int32) p6)), .unset, .unset, .unset] [(.ref b16)]))
    refine Gl.st (fun t k => XS.astore X16.here hx rfl (hb hby at_46) rfl rfl (l' := #[.val (.int p1), .val (.int p2), .val (.int p3), .val (.int p4), .val (.int p5), .val (.int p6), .val (.int (1 : Int32)), .val (.int (own_pick p2 (0 : Int32) p3)), .val (.int (own_pick p2 (1 : Int32) p4)), .val (.int (own_pick p2 (2 : Int32) p5)), .val (.int (own_pick p2 (3 : Int32) p6)), .val (.ref b16), .unset, .unset]) rfl k) ?_
    show Gl _ _ _ _ _ _ _ (T16.setTop (mkF m 48 #[.val (.int p1), .val (.int p2), .val (.int p3), .val (.int p4), .val (.int p5), .val (.int p6), .val (.int (1 : Int32)), .val (.int (own_pick p2 (0 : Int32) p3)), .val (.int (own_pick p2 (1 : Int32) p4)), .val (.int (own_pick p2 (2 : Int32) p5)), .val (.int (own_pick p2 (3 : Int32) p6)), .val (.ref b16), .unset, .unset] []))
    refine Gl.st (fun t k => XS.iload X16.here hx rfl (hb hby at_48) rfl  k) ?_
    show Gl _ _ _ _ _ _ _ (T16.setTop (mkF m 50 #[.val (.int p1), .val (.int p2), .val (.int p3), .val (.int p4), .val (.int p5), .val (.int p6), .val (.int (1 : Int32)), .val (.int (own_pick p2 (0 : Int32) p3)), .val (.int (own_pick p2 (1 : Int32) p4)), .val (.int (own_pick p2 (2 : Int32) p5)), .val (.int (own_pick p2 (3 : Int32) p6)), .val (.ref b16), .unset, .unset] [(.int (1 : Int32))]))
    refine Gl.st (fun t k => XS.ifNo X16.here hx rfl (hb hby at_50) rfl ((if0 _ _).trans (tlt (by decide : (0 : Int32) < (1 : Int32))).2.2.2) k) ?_
    show Gl _ _ _ _ _ _ _ (T16.setTop (mkF m 53 #[.val (.int p1), .val (.int p2), .val (.int p3), .val (.int p4), .val (.int p5), .val (.int p6), .val (.int (1 : Int32)), .val (.int (own_pick p2 (0 : Int32) p3)), .val (.int (own_pick p2 (1 : Int32) p4)), .val (.int (own_pick p2 (2 : Int32) p5)), .val (.int (own_pick p2 (3 : Int32) p6)), .val (.ref b16), .unset, .unset] []))
    refine Gl.st (fun t k => XS.aload X16.here hx rfl (hb hby at_53) rfl rfl k) ?_
    show Gl _ _ _ _ _ _ _ (T16.setTop (mkF m 55 #[.val (.int p1), .val (.int p2), .val (.int p3), .val (.int p4), .val (.int p5), .val (.int p6), .val (.int (1 : Int32)), .val (.int (own_pick p2 (0 : Int32) p3)), .val (.int (own_pick p2 (1 : Int32) p4)), .val (.int (own_pick p2 (2 : Int32) p5)), .val (.int (own_pick p2 (3 : Int32) p6)), .val (.ref b16), .unset, .unset] [(.ref b16)]))
    refine Gl.st (fun t k => XS.iconst X16.here hx rfl (hb hby at_55) k) ?_
    show Gl _ _ _ _ _ _ _ (T16.setTop (mkF m 56 #[.val (.int p1), .val (.int p2), .val (.int p3), .val (.int p4), .val (.int p5), .val (.int p6), .val (.int (1 : Int32)), .val (.int (own_pick p2 (0 : Int32) p3)), .val (.int (own_pick p2 (1 : Int32) p4)), .val (.int (own_pick p2 (2 : Int32) p5)), .val (.int (own_pick p2 (3 : Int32) p6)), .val (.ref b16), .unset, .unset] [(.int (0 : Int32)), (.ref b16)]))
    refine Gl.st (fun t k => XS.iload X16.here hx rfl (hb hby at_56) rfl  k) ?_
    show Gl _ _ _ _ _ _ _ (T16.setTop (mkF m 58 #[.val (.int p1), .val (.int p2), .val (.int p3), .val (.int p4), .val (.int p5), .val (.int p6), .val (.int (1 : Int32)), .val (.int (own_pick p2 (0 : Int32) p3)), .val (.int (own_pick p2 (1 : Int32) p4)), .val (.int (own_pick p2 (2 : Int32) p5)), .val (.int (own_pick p2 (3 : Int32) p6)), .val (.ref b16), .unset, .unset] [(.int (own_pick p2 (0 : Int32) p3)), (.int (0 : Int32)), (.ref b16)]))
    have Vx17 := V16
    obtain ⟨cl17, Ar17, qk17, S17, M17, H17, G17⟩ := Vx17
    have hin17 : ¬ ((0 : Int32) < 0 ∨ cl17.slots.size ≤ ((0 : Int32)).toNatClampNeg) := inb_of S17 ⟨by decide, by decide⟩
    obtain ⟨T17, h17, X17, e17, W17, st17⟩ := stI X16 hx hZ e16 Ar17 (j := (0 : Int32)) hin17 (g := (mkF m 58 #[.val (.int p1), .val (.int p2), .val (.int p3), .val (.int p4), .val (.int p5), .val (.int p6), .val (.int (1 : Int32)), .val (.int (own_pick p2 (0 : Int32) p3)), .val (.int (own_pick p2 (1 : Int32) p4)), .val (.int (own_pick p2 (2 : Int32) p5)), .val (.int (own_pick p2 (3 : Int32) p6)), .val (.ref b16), .unset, .unset] [(.int (own_pick p2 (0 : Int32) p3)), (.int (0 : Int32)), (.ref b16)])) rfl rfl (hb hby at_58)
    refine Gl.st st17 ?_
    have Z17 : n0 ≤ h17.size := Nat.le_trans Z16 (Keep.of_wr W17).1
    have N17 := Fr.snoc X17 N15 gzb16
    have V17 : Arv Z h17 b16 k16 .int (1 : Int32) [(.int (own_pick p2 (0 : Int32) p3))] (.int (0 : Int32)) := Arv.set Ar17 qk17 S17 M17 H17 G17 rfl W17 0 rfl (Nat.le_of_ble_eq_true rfl)
    show Gl _ _ _ _ _ _ _ (T17.setTop (mkF m 59 #[.val (.int p1), .val (.int p2), .val (.int p3), .val (.int p4), .val (.int p5), .val (.int p6), .val (.int (1 : Int32)), .val (.int (own_pick p2 (0 : Int32) p3)), .val (.int (own_pick p2 (1 : Int32) p4)), .val (.int (own_pick p2 (2 : Int32) p5)), .val (.int (own_pick p2 (3 : Int32) p6)), .val (.ref b16), .unset, .unset] []))
    refine Gl.st (fun t k => XS.iload X17.here hx rfl (hb hby at_59) rfl  k) ?_
    show Gl _ _ _ _ _ _ _ (T17.setTop (mkF m 61 #[.val (.int p1), .val (.int p2), .val (.int p3), .val (.int p4), .val (.int p5), .val (.int p6), .val (.int (1 : Int32)), .val (.int (own_pick p2 (0 : Int32) p3)), .val (.int (own_pick p2 (1 : Int32) p4)), .val (.int (own_pick p2 (2 : Int32) p5)), .val (.int (own_pick p2 (3 : Int32) p6)), .val (.ref b16), .unset, .unset] [(.int (1 : Int32))]))
    refine Gl.st (fun t k => XS.iconst X17.here hx rfl (hb hby at_61) k) ?_
    show Gl _ _ _ _ _ _ _ (T17.setTop (mkF m 62 #[.val (.int p1), .val (.int p2), .val (.int p3), .val (.int p4), .val (.int p5), .val (.int p6), .val (.int (1 : Int32)), .val (.int (own_pick p2 (0 : Int32) p3)), .val (.int (own_pick p2 (1 : Int32) p4)), .val (.int (own_pick p2 (2 : Int32) p5)), .val (.int (own_pick p2 (3 : Int32) p6)), .val (.ref b16), .unset, .unset] [(.int (1 : Int32)), (.int (1 : Int32))]))
    refine Gl.st (fun t k => XS.icmpYes X17.here hx rfl (pc0 := 62) (pc' := 71) rfl (hb hby at_62) rfl (flt (by decide : ¬ ((1 : Int32) < (1 : Int32)))).2.2.2 (by decide) (by decide) k) ?_
    show Gl _ _ _ _ _ _ _ (T17.setTop (mkF m 71 #[.val (.int p1), .val (.int p2), .val (.int p3), .val (.int p4), .val (.int p5), .val (.int p6), .val (.int (1 : Int32)), .val (.int (own_pick p2 (0 : Int32) p3)), .val (.int (own_pick p2 (1 : Int32) p4)), .val (.int (own_pick p2 (2 : Int32) p5)), .val (.int (own_pick p2 (3 : Int32) p6)), .val (.ref b16), .unset, .unset] []))
    refine Gl.st (fun t k => XS.iload X17.here hx rfl (hb hby at_71) rfl  k) ?_
    show Gl _ _ _ _ _ _ _ (T17.setTop (mkF m 73 #[.val (.int p1), .val (.int p2), .val (.int p3), .val (.int p4), .val (.int p5), .val (.int p6), .val (.int (1 : Int32)), .val (.int (own_pick p2 (0 : Int32) p3)), .val (.int (own_pick p2 (1 : Int32) p4)), .val (.int (own_pick p2 (2 : Int32) p5)), .val (.int (own_pick p2 (3 : Int32) p6)), .val (.ref b16), .unset, .unset] [(.int (1 : Int32))]))
    refine Gl.st (fun t k => XS.iconst X17.here hx rfl (hb hby at_73) k) ?_
    show Gl _ _ _ _ _ _ _ (T17.setTop (mkF m 74 #[.val (.int p1), .val (.int p2), .val (.int p3), .val (.int p4), .val (.int p5), .val (.int p6), .val (.int (1 : Int32)), .val (.int (own_pick p2 (0 : Int32) p3)), .val (.int (own_pick p2 (1 : Int32) p4)), .val (.int (own_pick p2 (2 : Int32) p5)), .val (.int (own_pick p2 (3 : Int32) p6)), .val (.ref b16), .unset, .unset] [(.int (2 : Int32)), (.int (1 : Int32))]))
    refine Gl.st (fun t k => XS.icmpYes X17.here hx rfl (pc0 := 74) (pc' := 83) rfl (hb hby at_74) rfl (flt (by decide : ¬ ((2 : Int32) < (1 : Int32)))).2.2.2 (by decide) (by decide) k) ?_
    show Gl _ _ _ _ _ _ _ (T17.setTop (mkF m 83 #[.val (.int p1), .val (.int p2), .val (.int p3), .val (.int p4), .val (.int p5), .val (.int p6), .val (.int (1 : Int32)), .val (.int (own_pick p2 (0 : Int32) p3)), .val (.int (own_pick p2 (1 : Int32) p4)), .val (.int (own_pick p2 (2 : Int32) p5)), .val (.int (own_pick p2 (3 : Int32) p6)), .val (.ref b16), .unset, .unset] []))
    refine Gl.st (fun t k => XS.iload X17.here hx rfl (hb hby at_83) rfl  k) ?_
    show Gl _ _ _ _ _ _ _ (T17.setTop (mkF m 85 #[.val (.int p1), .val (.int p2), .val (.int p3), .val (.int p4), .val (.int p5), .val (.int p6), .val (.int (1 : Int32)), .val (.int (own_pick p2 (0 : Int32) p3)), .val (.int (own_pick p2 (1 : Int32) p4)), .val (.int (own_pick p2 (2 : Int32) p5)), .val (.int (own_pick p2 (3 : Int32) p6)), .val (.ref b16), .unset, .unset] [(.int (1 : Int32))]))
    refine Gl.st (fun t k => XS.iconst X17.here hx rfl (hb hby at_85) k) ?_
    show Gl _ _ _ _ _ _ _ (T17.setTop (mkF m 86 #[.val (.int p1), .val (.int p2), .val (.int p3), .val (.int p4), .val (.int p5), .val (.int p6), .val (.int (1 : Int32)), .val (.int (own_pick p2 (0 : Int32) p3)), .val (.int (own_pick p2 (1 : Int32) p4)), .val (.int (own_pick p2 (2 : Int32) p5)), .val (.int (own_pick p2 (3 : Int32) p6)), .val (.ref b16), .unset, .unset] [(.int (3 : Int32)), (.int (1 : Int32))]))
    refine Gl.st (fun t k => XS.icmpYes X17.here hx rfl (pc0 := 86) (pc' := 95) rfl (hb hby at_86) rfl (flt (by decide : ¬ ((3 : Int32) < (1 : Int32)))).2.2.2 (by decide) (by decide) k) ?_
    show Gl _ _ _ _ _ _ _ (T17.setTop (mkF m 95 #[.val (.int p1), .val (.int p2), .val (.int p3), .val (.int p4), .val (.int p5), .val (.int p6), .val (.int (1 : Int32)), .val (.int (own_pick p2 (0 : Int32) p3)), .val (.int (own_pick p2 (1 : Int32) p4)), .val (.int (own_pick p2 (2 : Int32) p5)), .val (.int (own_pick p2 (3 : Int32) p6)), .val (.ref b16), .unset, .unset] []))
    refine Gl.st (fun t k => XS.iconst X17.here hx rfl (hb hby at_95) k) ?_
    show Gl _ _ _ _ _ _ _ (T17.setTop (mkF m 96 #[.val (.int p1), .val (.int p2), .val (.int p3), .val (.int p4), .val (.int p5), .val (.int p6), .val (.int (1 : Int32)), .val (.int (own_pick p2 (0 : Int32) p3)), .val (.int (own_pick p2 (1 : Int32) p4)), .val (.int (own_pick p2 (2 : Int32) p5)), .val (.int (own_pick p2 (3 : Int32) p6)), .val (.ref b16), .unset, .unset] [(.int (1 : Int32))]))
    refine Gl.st (fun t k => XS.istore X17.here hx rfl (hb hby at_96) rfl (l' := #[.val (.int p1), .val (.int p2), .val (.int p3), .val (.int p4), .val (.int p5), .val (.int p6), .val (.int (1 : Int32)), .val (.int (own_pick p2 (0 : Int32) p3)), .val (.int (own_pick p2 (1 : Int32) p4)), .val (.int (own_pick p2 (2 : Int32) p5)), .val (.int (own_pick p2 (3 : Int32) p6)), .val (.ref b16), .val (.int (1 : Int32)), .unset]) rfl k) ?_
    show Gl _ _ _ _ _ _ _ (T17.setTop (mkF m 98 #[.val (.int p1), .val (.int p2), .val (.int p3), .val (.int p4), .val (.int p5), .val (.int p6), .val (.int (1 : Int32)), .val (.int (own_pick p2 (0 : Int32) p3)), .val (.int (own_pick p2 (1 : Int32) p4)), .val (.int (own_pick p2 (2 : Int32) p5)), .val (.int (own_pick p2 (3 : Int32) p6)), .val (.ref b16), .val (.int (1 : Int32)), .unset] []))
    refine Gl.st (fun t k => XS.iload X17.here hx rfl (hb hby at_98) rfl  k) ?_
    show Gl _ _ _ _ _ _ _ (T17.setTop (mkF m 100 #[.val (.int p1), .val (.int p2), .val (.int p3), .val (.int p4), .val (.int p5), .val (.int p6), .val (.int (1 : Int32)), .val (.int (own_pick p2 (0 : Int32) p3)), .val (.int (own_pick p2 (1 : Int32) p4)), .val (.int (own_pick p2 (2 : Int32) p5)), .val (.int (own_pick p2 (3 : Int32) p6)), .val (.ref b16), .val (.int (1 : Int32)), .unset] [(.int (1 : Int32))]))
    refine Gl.st (fun t k => XS.ifNo X17.here hx rfl (hb hby at_100) rfl ((if0 _ _).trans (tlt (by decide : (0 : Int32) < (1 : Int32))).2.2.2) k) ?_
    show Gl _ _ _ _ _ _ _ (T17.setTop (mkF m 103 #[.val (.int p1), .val (.int p2), .val (.int p3), .val (.int p4), .val (.int p5), .val (.int p6), .val (.int (1 : Int32)), .val (.int (own_pick p2 (0 : Int32) p3)), .val (.int (own_pick p2 (1 : Int32) p4)), .val (.int (own_pick p2 (2 : Int32) p5)), .val (.int (own_pick p2 (3 : Int32) p6)), .val (.ref b16), .val (.int (1 : Int32)), .unset] []))
    refine Gl.st (fun t k => XS.iload X17.here hx rfl (hb hby at_103) rfl  k) ?_
    show Gl _ _ _ _ _ _ _ (T17.setTop (mkF m 105 #[.val (.int p1), .val (.int p2), .val (.int p3), .val (.int p4), .val (.int p5), .val (.int p6), .val (.int (1 : Int32)), .val (.int (own_pick p2 (0 : Int32) p3)), .val (.int (own_pick p2 (1 : Int32) p4)), .val (.int (own_pick p2 (2 : Int32) p5)), .val (.int (own_pick p2 (3 : Int32) p6)), .val (.ref b16), .val (.int (1 : Int32)), .unset] [(.int (own_pick p2 (0 : Int32) p3))]))
    have J18 : ∀ (Tj18 : State) (Lj18 : List Loc) (Xj18 : Stand p l e room_1 s m #[(.int p1), (.int p2), (.int p3), (.int p4), (.int p5), (.int p6)] below meth c Tj18 Lj18 1 1) (ej18 : Tj18.heap = h17) (Nj18 : Fr n0 Lj18) (z111l12 : Int32) (hz111l12 : z111l12 = (if (own_pick p2 (0 : Int32) p3) = (0 : Int32) then (1 : Int32) else (0 : Int32))), Gl p e below s (Q0 Z p1 p2 p3 p4 p5 p6 h0 n0) room_1.cells room_1.slots (Tj18.setTop (mkF m 111 #[.val (.int p1), .val (.int p2), .val (.int p3), .val (.int p4), .val (.int p5), .val (.int p6), .val (.int (1 : Int32)), .val (.int (own_pick p2 (0 : Int32) p3)), .val (.int (own_pick p2 (1 : Int32) p4)), .val (.int (own_pick p2 (2 : Int32) p5)), .val (.int (own_pick p2 (3 : Int32) p6)), .val (.ref b16), .val (.int z111l12), .unset] [])) := by
      intro Tj18 Lj18 Xj18 ej18 Nj18 z111l12 hz111l12
      show Gl _ _ _ _ _ _ _ (Tj18.setTop (mkF m 111 #[.val (.int p1), .val (.int p2), .val (.int p3), .val (.int p4), .val (.int p5), .val (.int p6), .val (.int (1 : Int32)), .val (.int (own_pick p2 (0 : Int32) p3)), .val (.int (own_pick p2 (1 : Int32) p4)), .val (.int (own_pick p2 (2 : Int32) p5)), .val (.int (own_pick p2 (3 : Int32) p6)), .val (.ref b16), .val (.int z111l12), .unset] []))
      refine Gl.st (fun t k => XS.iload Xj18.here hx rfl (hb hby at_111) rfl  k) ?_
      show Gl _ _ _ _ _ _ _ (Tj18.setTop (mkF m 113 #[.val (.int p1), .val (.int p2), .val (.int p3), .val (.int p4), .val (.int p5), .val (.int p6), .val (.int (1 : Int32)), .val (.int (own_pick p2 (0 : Int32) p3)), .val (.int (own_pick p2 (1 : Int32) p4)), .val (.int (own_pick p2 (2 : Int32) p5)), .val (.int (own_pick p2 (3 : Int32) p6)), .val (.ref b16), .val (.int z111l12), .unset] [(.int (1 : Int32))]))
      refine Gl.st (fun t k => XS.iconst Xj18.here hx rfl (hb hby at_113) k) ?_
      show Gl _ _ _ _ _ _ _ (Tj18.setTop (mkF m 114 #[.val (.int p1), .val (.int p2), .val (.int p3), .val (.int p4), .val (.int p5), .val (.int p6), .val (.int (1 : Int32)), .val (.int (own_pick p2 (0 : Int32) p3)), .val (.int (own_pick p2 (1 : Int32) p4)), .val (.int (own_pick p2 (2 : Int32) p5)), .val (.int (own_pick p2 (3 : Int32) p6)), .val (.ref b16), .val (.int z111l12), .unset] [(.int (1 : Int32)), (.int (1 : Int32))]))
      refine Gl.st (fun t k => XS.icmpYes Xj18.here hx rfl (pc0 := 114) (pc' := 125) rfl (hb hby at_114) rfl (flt (by decide : ¬ ((1 : Int32) < (1 : Int32)))).2.2.2 (by decide) (by decide) k) ?_
      show Gl _ _ _ _ _ _ _ (Tj18.setTop (mkF m 125 #[.val (.int p1), .val (.int p2), .val (.int p3), .val (.int p4), .val (.int p5), .val (.int p6), .val (.int (1 : Int32)), .val (.int (own_pick p2 (0 : Int32) p3)), .val (.int (own_pick p2 (1 : Int32) p4)), .val (.int (own_pick p2 (2 : Int32) p5)), .val (.int (own_pick p2 (3 : Int32) p6)), .val (.ref b16), .val (.int z111l12), .unset] []))
      refine Gl.st (fun t k => XS.iload Xj18.here hx rfl (hb hby at_125) rfl  k) ?_
      show Gl _ _ _ _ _ _ _ (Tj18.setTop (mkF m 127 #[.val (.int p1), .val (.int p2), .val (.int p3), .val (.int p4), .val (.int p5), .val (.int p6), .val (.int (1 : Int32)), .val (.int (own_pick p2 (0 : Int32) p3)), .val (.int (own_pick p2 (1 : Int32) p4)), .val (.int (own_pick p2 (2 : Int32) p5)), .val (.int (own_pick p2 (3 : Int32) p6)), .val (.ref b16), .val (.int z111l12), .unset] [(.int (1 : Int32))]))
      refine Gl.st (fun t k => XS.iconst Xj18.here hx rfl (hb hby at_127) k) ?_
      show Gl _ _ _ _ _ _ _ (Tj18.setTop (mkF m 128 #[.val (.int p1), .val (.int p2), .val (.int p3), .val (.int p4), .val (.int p5), .val (.int p6), .val (.int (1 : Int32)), .val (.int (own_pick p2 (0 : Int32) p3)), .val (.int (own_pick p2 (1 : Int32) p4)), .val (.int (own_pick p2 (2 : Int32) p5)), .val (.int (own_pick p2 (3 : Int32) p6)), .val (.ref b16), .val (.int z111l12), .unset] [(.int (2 : Int32)), (.int (1 : Int32))]))
      refine Gl.st (fun t k => XS.icmpYes Xj18.here hx rfl (pc0 := 128) (pc' := 139) rfl (hb hby at_128) rfl (flt (by decide : ¬ ((2 : Int32) < (1 : Int32)))).2.2.2 (by decide) (by decide) k) ?_
      show Gl _ _ _ _ _ _ _ (Tj18.setTop (mkF m 139 #[.val (.int p1), .val (.int p2), .val (.int p3), .val (.int p4), .val (.int p5), .val (.int p6), .val (.int (1 : Int32)), .val (.int (own_pick p2 (0 : Int32) p3)), .val (.int (own_pick p2 (1 : Int32) p4)), .val (.int (own_pick p2 (2 : Int32) p5)), .val (.int (own_pick p2 (3 : Int32) p6)), .val (.ref b16), .val (.int z111l12), .unset] []))
      refine Gl.st (fun t k => XS.iload Xj18.here hx rfl (hb hby at_139) rfl  k) ?_
      show Gl _ _ _ _ _ _ _ (Tj18.setTop (mkF m 141 #[.val (.int p1), .val (.int p2), .val (.int p3), .val (.int p4), .val (.int p5), .val (.int p6), .val (.int (1 : Int32)), .val (.int (own_pick p2 (0 : Int32) p3)), .val (.int (own_pick p2 (1 : Int32) p4)), .val (.int (own_pick p2 (2 : Int32) p5)), .val (.int (own_pick p2 (3 : Int32) p6)), .val (.ref b16), .val (.int z111l12), .unset] [(.int (1 : Int32))]))
      refine Gl.st (fun t k => XS.iconst Xj18.here hx rfl (hb hby at_141) k) ?_
      show Gl _ _ _ _ _ _ _ (Tj18.setTop (mkF m 142 #[.val (.int p1), .val (.int p2), .val (.int p3), .val (.int p4), .val (.int p5), .val (.int p6), .val (.int (1 : Int32)), .val (.int (own_pick p2 (0 : Int32) p3)), .val (.int (own_pick p2 (1 : Int32) p4)), .val (.int (own_pick p2 (2 : Int32) p5)), .val (.int (own_pick p2 (3 : Int32) p6)), .val (.ref b16), .val (.int z111l12), .unset] [(.int (3 : Int32)), (.int (1 : Int32))]))
      refine Gl.st (fun t k => XS.icmpYes Xj18.here hx rfl (pc0 := 142) (pc' := 153) rfl (hb hby at_142) rfl (flt (by decide : ¬ ((3 : Int32) < (1 : Int32)))).2.2.2 (by decide) (by decide) k) ?_
      show Gl _ _ _ _ _ _ _ (Tj18.setTop (mkF m 153 #[.val (.int p1), .val (.int p2), .val (.int p3), .val (.int p4), .val (.int p5), .val (.int p6), .val (.int (1 : Int32)), .val (.int (own_pick p2 (0 : Int32) p3)), .val (.int (own_pick p2 (1 : Int32) p4)), .val (.int (own_pick p2 (2 : Int32) p5)), .val (.int (own_pick p2 (3 : Int32) p6)), .val (.ref b16), .val (.int z111l12), .unset] []))
      obtain ⟨T19, h19, X19, e19, E19, A19, D19, -, st19⟩ := newO Xj18 hx hZ hown (hw _ (List.mem_of_getElem? (i := 6) rfl)) (hw _ (List.mem_of_getElem? (i := 7) rfl)) (hw _ (List.mem_of_getElem? (i := 8) rfl)) ej18 (g := (mkF m 153 #[.val (.int p1), .val (.int p2), .val (.int p3), .val (.int p4), .val (.int p5), .val (.int p6), .val (.int (1 : Int32)), .val (.int (own_pick p2 (0 : Int32) p3)), .val (.int (own_pick p2 (1 : Int32) p4)), .val (.int (own_pick p2 (2 : Int32) p5)), .val (.int (own_pick p2 (3 : Int32) p6)), .val (.ref b16), .val (.int z111l12), .unset] [])) rfl (hb hby at_153) (by decide) (by decide)
      obtain ⟨b19, g19⟩ : ∃ z, z = h17.size := ⟨_, rfl⟩
      rw [← g19] at A19 D19 st19
      refine Gl.st st19 ?_
      have ne_b16_b19 : b16 ≠ b19 := Nat.ne_of_lt (Nat.lt_of_lt_of_le V17.lt (Nat.le_of_eq g19.symm))
      have gzb19 : n0 ≤ b19 := Nat.le_trans Z17 (Nat.le_of_eq g19.symm)
      have Z19 : n0 ≤ h19.size := Nat.le_trans Z17 E19.1
      have V17'20 : Arv Z h19 b16 k16 .int (1 : Int32) [(.int (own_pick p2 (0 : Int32) p3))] (.int (0 : Int32)) := V17.ext E19
      have F19_tokens : Fld Z h19 b19 "com/example/enact/enact/engine/Marking" "tokens" "[I" .null := D19 (Or.inr (hw _ (List.mem_of_getElem? (i := 16) rfl))) (ty := (.array .int)) (by decide)
      show Gl _ _ _ _ _ _ _ (T19.setTop (mkF m 156 #[.val (.int p1), .val (.int p2), .val (.int p3), .val (.int p4), .val (.int p5), .val (.int p6), .val (.int (1 : Int32)), .val (.int (own_pick p2 (0 : Int32) p3)), .val (.int (own_pick p2 (1 : Int32) p4)), .val (.int (own_pick p2 (2 : Int32) p5)), .val (.int (own_pick p2 (3 : Int32) p6)), .val (.ref b16), .val (.int z111l12), .unset] [(.ref b19)]))
      refine Gl.st (fun t k => XS.dup X19.here hx rfl (hb hby at_156) rfl rfl k) ?_
      show Gl _ _ _ _ _ _ _ (T19.setTop (mkF m 157 #[.val (.int p1), .val (.int p2), .val (.int p3), .val (.int p4), .val (.int p5), .val (.int p6), .val (.int (1 : Int32)), .val (.int (own_pick p2 (0 : Int32) p3)), .val (.int (own_pick p2 (1 : Int32) p4)), .val (.int (own_pick p2 (2 : Int32) p5)), .val (.int (own_pick p2 (3 : Int32) p6)), .val (.ref b16), .val (.int z111l12), .unset] [(.ref b19), (.ref b19)]))
      refine Gl.st (fun t k => XS.aload X19.here hx rfl (hb hby at_157) rfl rfl k) ?_
      show Gl _ _ _ _ _ _ _ (T19.setTop (mkF m 159 #[.val (.int p1), .val (.int p2), .val (.int p3), .val (.int p4), .val (.int p5), .val (.int p6), .val (.int (1 : Int32)), .val (.int (own_pick p2 (0 : Int32) p3)), .val (.int (own_pick p2 (1 : Int32) p4)), .val (.int (own_pick p2 (2 : Int32) p5)), .val (.int (own_pick p2 (3 : Int32) p6)), .val (.ref b16), .val (.int z111l12), .unset] [(.ref b16), (.ref b19), (.ref b19)]))
      obtain ⟨_, _, ⟨T21, L21, k21, n21⟩, -, X21, ⟨Lc21, hQ21, l21, y21, z21⟩, st21⟩ := X19.specialBack hx (y := (⟨"com/example/enact/enact/engine/Marking", "<init>", "([I)V"⟩ : MethodName)) rfl hown (mvT hZ (hw _ (List.mem_of_getElem? (i := 9) rfl))) (mvT hZ (hw _ (List.mem_of_getElem? (i := 10) rfl))) (mvT hZ (hw _ (List.mem_of_getElem? (i := 11) rfl))) (by decide) (backOf (W := 1) (rm2 l Z a0 hw [] b19 b16 (.null) h19 n0 Z19 A19 F19_tokens gzb19) hZ (hw _ (List.mem_of_getElem? (i := 11) rfl)) (hw _ (List.mem_of_getElem? (i := 8) rfl)) (by decide) (by decide)) (g := (mkF m 159 #[.val (.int p1), .val (.int p2), .val (.int p3), .val (.int p4), .val (.int p5), .val (.int p6), .val (.int (1 : Int32)), .val (.int (own_pick p2 (0 : Int32) p3)), .val (.int (own_pick p2 (1 : Int32) p4)), .val (.int (own_pick p2 (2 : Int32) p5)), .val (.int (own_pick p2 (3 : Int32) p6)), .val (.ref b16), .val (.int z111l12), .unset] [(.ref b16), (.ref b19), (.ref b19)])) rfl (by rw [hml]; rfl) (Steps.refl _) (a := b19) (argsL := [(.ref b16)]) (rest := [(.ref b19)]) (lenOf pd_1 rfl) rfl (by show 2 * 0 + _ ≤ _; exact Nat.le_of_eq rfl) (hb hby at_159) (fun _ _ => ⟨rfl, e19, (by decide : 2 + 0 ≤ _), (by decide : 3 + 0 ≤ _)⟩)
      dsimp only [Pt.U, Pt.locs, Pt.cells, Pt.slots] at X21 l21 y21 z21 st21 hQ21
      subst l21 y21 z21
      obtain ⟨rfl, N21q, Kq21, Fq21_0, Fq21_1⟩ := hQ21
      have N21 := Fr.app Nj18 N21q
      have Z21 : n0 ≤ T21.heap.size := Nat.le_trans Z19 Kq21.1
      have V17'22 : Arv Z T21.heap b16 k16 .int (1 : Int32) [(.int (own_pick p2 (0 : Int32) p3))] (.int (0 : Int32)) := V17'20.keep Kq21 (ninS ne_b16_b19 nin0)
      refine Gl.to st21 ?_
      show Gl _ _ _ _ _ _ _ (T21.setTop (mkF m 162 #[.val (.int p1), .val (.int p2), .val (.int p3), .val (.int p4), .val (.int p5), .val (.int p6), .val (.int (1 : Int32)), .val (.int (own_pick p2 (0 : Int32) p3)), .val (.int (own_pick p2 (1 : Int32) p4)), .val (.int (own_pick p2 (2 : Int32) p5)), .val (.int (own_pick p2 (3 : Int32) p6)), .val (.ref b16), .val (.int z111l12), .unset] [(.ref b19)]))
      refine Gl.st (fun t k => XS.astore X21.here hx rfl (hb hby at_162) rfl rfl (l' := #[.val (.int p1), .val (.int p2), .val (.int p3), .val (.int p4), .val (.int p5), .val (.int p6), .val (.int (1 : Int32)), .val (.int (own_pick p2 (0 : Int32) p3)), .val (.int (own_pick p2 (1 : Int32) p4)), .val (.int (own_pick p2 (2 : Int32) p5)), .val (.int (own_pick p2 (3 : Int32) p6)), .val (.ref b16), .val (.int z111l12), .val (.ref b19)]) rfl k) ?_
      show Gl _ _ _ _ _ _ _ (T21.setTop (mkF m 164 #[.val (.int p1), .val (.int p2), .val (.int p3), .val (.int p4), .val (.int p5), .val (.int p6), .val (.int (1 : Int32)), .val (.int (own_pick p2 (0 : Int32) p3)), .val (.int (own_pick p2 (1 : Int32) p4)), .val (.int (own_pick p2 (2 : Int32) p5)), .val (.int (own_pick p2 (3 : Int32) p6)), .val (.ref b16), .val (.int z111l12), .val (.ref b19)] []))
      refine Gl.st (fun t k => XS.aload X21.here hx rfl (hb hby at_164) rfl rfl k) ?_
      show Gl _ _ _ _ _ _ _ (T21.setTop (mkF m 166 #[.val (.int p1), .val (.int p2), .val (.int p3), .val (.int p4), .val (.int p5), .val (.int p6), .val (.int (1 : Int32)), .val (.int (own_pick p2 (0 : Int32) p3)), .val (.int (own_pick p2 (1 : Int32) p4)), .val (.int (own_pick p2 (2 : Int32) p5)), .val (.int (own_pick p2 (3 : Int32) p6)), .val (.ref b16), .val (.int z111l12), .val (.ref b19)] [(.ref b19)]))
      obtain ⟨cq23, kq23, qa23, qb23, qc23⟩ := isOf hZ rfl Fq21_0
      obtain ⟨_, _, ⟨T23, L23, k23, n23⟩, -, X23, ⟨Lc23, hQ23, l23, y23, z23⟩, st23⟩ := X21.virtualBack hx (y := (⟨"com/example/enact/enact/engine/Marking", "isEmpty", "()Z"⟩ : MethodName)) (z := (⟨"com/example/enact/enact/engine/Marking", "isEmpty", "()Z"⟩ : MethodName)) hown (mvT hZ (hw _ (List.mem_of_getElem? (i := 17) rfl))) (mvT hZ (hw _ (List.mem_of_getElem? (i := 18) rfl))) (notFace_of_selects (args := #[]) (mvT hZ (hw _ (List.mem_of_getElem? (i := 20) rfl)))) (mvT hZ (hw _ (List.mem_of_getElem? (i := 20) rfl))) (mvT hZ (hw _ (List.mem_of_getElem? (i := 19) rfl))) (by decide) (backOf (W := 0) (rm4v1 l Z a0 hw [] b19 (b16) (k16) ((own_pick p2 (0 : Int32) p3)) T21.heap n0  Fq21_1 V17'22) hZ (hw _ (List.mem_of_getElem? (i := 21) rfl)) (hw _ (List.mem_of_getElem? (i := 8) rfl)) (by decide) (by decide)) qa23 qc23 (g := (mkF m 166 #[.val (.int p1), .val (.int p2), .val (.int p3), .val (.int p4), .val (.int p5), .val (.int p6), .val (.int (1 : Int32)), .val (.int (own_pick p2 (0 : Int32) p3)), .val (.int (own_pick p2 (1 : Int32) p4)), .val (.int (own_pick p2 (2 : Int32) p5)), .val (.int (own_pick p2 (3 : Int32) p6)), .val (.ref b16), .val (.int z111l12), .val (.ref b19)] [(.ref b19)])) rfl (by rw [hml]; rfl) (Steps.refl _) (argsL := []) (rest := []) (lenOf pd_2 rfl) rfl (by show 2 * 0 + _ ≤ _; exact Nat.le_of_eq rfl) (hb hby at_166) (fun _ _ => ⟨rfl, rfl, (by decide : 2 + 0 ≤ _), (by decide : 3 + 0 ≤ _)⟩)
      dsimp only [Pt.U, Pt.locs, Pt.cells, Pt.slots] at X23 l23 y23 z23 st23 hQ23
      subst l23 y23 z23
      obtain ⟨rfl, N23q, e23⟩ := hQ23
      have N23 := Fr.app N21 N23q
      refine Gl.to st23 ?_
      show Gl _ _ _ _ _ _ _ (T23.setTop (mkF m 169 #[.val (.int p1), .val (.int p2), .val (.int p3), .val (.int p4), .val (.int p5), .val (.int p6), .val (.int (1 : Int32)), .val (.int (own_pick p2 (0 : Int32) p3)), .val (.int (own_pick p2 (1 : Int32) p4)), .val (.int (own_pick p2 (2 : Int32) p5)), .val (.int (own_pick p2 (3 : Int32) p6)), .val (.ref b16), .val (.int z111l12), .val (.ref b19)] [(.int (own_empty1 (own_pick p2 (0 : Int32) p3)))]))
      refine Gl.st (fun t k => XS.iload X23.here hx rfl (hb hby at_169) rfl  k) ?_
      show Gl _ _ _ _ _ _ _ (T23.setTop (mkF m 171 #[.val (.int p1), .val (.int p2), .val (.int p3), .val (.int p4), .val (.int p5), .val (.int p6), .val (.int (1 : Int32)), .val (.int (own_pick p2 (0 : Int32) p3)), .val (.int (own_pick p2 (1 : Int32) p4)), .val (.int (own_pick p2 (2 : Int32) p5)), .val (.int (own_pick p2 (3 : Int32) p6)), .val (.ref b16), .val (.int z111l12), .val (.ref b19)] [(.int z111l12), (.int (own_empty1 (own_pick p2 (0 : Int32) p3)))]))
      have hc171_24 : (own_empty1 (own_pick p2 (0 : Int32) p3)) = z111l12 := by 
        subst_vars; unfold own_empty1; repeat' split
        all_goals first | rfl | contradiction | simp_all
      refine Gl.st (fun t k => XS.icmpNo X23.here hx rfl (hb hby at_171) rfl (teq hc171_24).2 k) ?_
      show Gl _ _ _ _ _ _ _ (T23.setTop (mkF m 174 #[.val (.int p1), .val (.int p2), .val (.int p3), .val (.int p4), .val (.int p5), .val (.int p6), .val (.int (1 : Int32)), .val (.int (own_pick p2 (0 : Int32) p3)), .val (.int (own_pick p2 (1 : Int32) p4)), .val (.int (own_pick p2 (2 : Int32) p5)), .val (.int (own_pick p2 (3 : Int32) p6)), .val (.ref b16), .val (.int z111l12), .val (.ref b19)] []))
      refine Gl.st (fun t k => XS.iconst X23.here hx rfl (hb hby at_174) k) ?_
      show Gl _ _ _ _ _ _ _ (T23.setTop (mkF m 175 #[.val (.int p1), .val (.int p2), .val (.int p3), .val (.int p4), .val (.int p5), .val (.int p6), .val (.int (1 : Int32)), .val (.int (own_pick p2 (0 : Int32) p3)), .val (.int (own_pick p2 (1 : Int32) p4)), .val (.int (own_pick p2 (2 : Int32) p5)), .val (.int (own_pick p2 (3 : Int32) p6)), .val (.ref b16), .val (.int z111l12), .val (.ref b19)] [(.int (1 : Int32))]))
      refine Gl.st (fun t k => XS.goto X23.here hx rfl (pc0 := 175) (pc' := 179) rfl (hb hby at_175) (by decide) (by decide) k) ?_
      show Gl _ _ _ _ _ _ _ (T23.setTop (mkF m 179 #[.val (.int p1), .val (.int p2), .val (.int p3), .val (.int p4), .val (.int p5), .val (.int p6), .val (.int (1 : Int32)), .val (.int (own_pick p2 (0 : Int32) p3)), .val (.int (own_pick p2 (1 : Int32) p4)), .val (.int (own_pick p2 (2 : Int32) p5)), .val (.int (own_pick p2 (3 : Int32) p6)), .val (.ref b16), .val (.int z111l12), .val (.ref b19)] [(.int (1 : Int32))]))
      exact Gl.retN X23 hx hlk Bd.returns (by simp) (hb hby at_179) (⟨rfl, N23⟩) (by decide) (by decide)
    by_cases hc105 : (own_pick p2 (0 : Int32) p3) = (0 : Int32)
    · refine Gl.st (fun t k => XS.ifYes X17.here hx rfl (pc0 := 105) (pc' := 111) rfl (hb hby at_105) rfl ((if0 _ _).trans (teq hc105).1) (by decide) (by decide) k) ?_
      show Gl _ _ _ _ _ _ _ (T17.setTop (mkF m 111 #[.val (.int p1), .val (.int p2), .val (.int p3), .val (.int p4), .val (.int p5), .val (.int p6), .val (.int (1 : Int32)), .val (.int (own_pick p2 (0 : Int32) p3)), .val (.int (own_pick p2 (1 : Int32) p4)), .val (.int (own_pick p2 (2 : Int32) p5)), .val (.int (own_pick p2 (3 : Int32) p6)), .val (.ref b16), .val (.int (1 : Int32)), .unset] []))
      exact J18 _ _ X17 e17 N17 _ (by simp only [if_pos hc105])
    · refine Gl.st (fun t k => XS.ifNo X17.here hx rfl (hb hby at_105) rfl ((if0 _ _).trans (feq hc105).1) k) ?_
      show Gl _ _ _ _ _ _ _ (T17.setTop (mkF m 108 #[.val (.int p1), .val (.int p2), .val (.int p3), .val (.int p4), .val (.int p5), .val (.int p6), .val (.int (1 : Int32)), .val (.int (own_pick p2 (0 : Int32) p3)), .val (.int (own_pick p2 (1 : Int32) p4)), .val (.int (own_pick p2 (2 : Int32) p5)), .val (.int (own_pick p2 (3 : Int32) p6)), .val (.ref b16), .val (.int (1 : Int32)), .unset] []))
      refine Gl.st (fun t k => XS.iconst X17.here hx rfl (hb hby at_108) k) ?_
      show Gl _ _ _ _ _ _ _ (T17.setTop (mkF m 109 #[.val (.int p1), .val (.int p2), .val (.int p3), .val (.int p4), .val (.int p5), .val (.int p6), .val (.int (1 : Int32)), .val (.int (own_pick p2 (0 : Int32) p3)), .val (.int (own_pick p2 (1 : Int32) p4)), .val (.int (own_pick p2 (2 : Int32) p5)), .val (.int (own_pick p2 (3 : Int32) p6)), .val (.ref b16), .val (.int (1 : Int32)), .unset] [(.int (0 : Int32))]))
      refine Gl.st (fun t k => XS.istore X17.here hx rfl (hb hby at_109) rfl (l' := #[.val (.int p1), .val (.int p2), .val (.int p3), .val (.int p4), .val (.int p5), .val (.int p6), .val (.int (1 : Int32)), .val (.int (own_pick p2 (0 : Int32) p3)), .val (.int (own_pick p2 (1 : Int32) p4)), .val (.int (own_pick p2 (2 : Int32) p5)), .val (.int (own_pick p2 (3 : Int32) p6)), .val (.ref b16), .val (.int (0 : Int32)), .unset]) rfl k) ?_
      show Gl _ _ _ _ _ _ _ (T17.setTop (mkF m 111 #[.val (.int p1), .val (.int p2), .val (.int p3), .val (.int p4), .val (.int p5), .val (.int p6), .val (.int (1 : Int32)), .val (.int (own_pick p2 (0 : Int32) p3)), .val (.int (own_pick p2 (1 : Int32) p4)), .val (.int (own_pick p2 (2 : Int32) p5)), .val (.int (own_pick p2 (3 : Int32) p6)), .val (.ref b16), .val (.int (0 : Int32)), .unset] []))
      exact J18 _ _ X17 e17 N17 _ (by simp only [if_neg hc105])
  · skip
    show Gl _ _ _ _ _ _ _ (s₁.setTop (mkF m 8 #[.val (.int p1), .val (.int p2), .val (.int p3), .val (.int p4), .val (.int p5), .val (.int p6), .val (.int (2 : Int32)), .unset, .unset, .unset, .unset, .unset, .unset, .unset] []))
    refine Gl.st (fun t k => XS.iloadN X0.here hx rfl (hb hby at_8) rfl  k) ?_
    show Gl _ _ _ _ _ _ _ (s₁.setTop (mkF m 9 #[.val (.int p1), .val (.int p2), .val (.int p3), .val (.int p4), .val (.int p5), .val (.int p6), .val (.int (2 : Int32)), .unset, .unset, .unset, .unset, .unset, .unset, .unset] [(.int p2)]))
    refine Gl.st (fun t k => XS.iconst X0.here hx rfl (hb hby at_9) k) ?_
    show Gl _ _ _ _ _ _ _ (s₁.setTop (mkF m 10 #[.val (.int p1), .val (.int p2), .val (.int p3), .val (.int p4), .val (.int p5), .val (.int p6), .val (.int (2 : Int32)), .unset, .unset, .unset, .unset, .unset, .unset, .unset] [(.int (0 : Int32)), (.int p2)]))
    refine Gl.st (fun t k => XS.iloadN X0.here hx rfl (hb hby at_10) rfl  k) ?_
    show Gl _ _ _ _ _ _ _ (s₁.setTop (mkF m 11 #[.val (.int p1), .val (.int p2), .val (.int p3), .val (.int p4), .val (.int p5), .val (.int p6), .val (.int (2 : Int32)), .unset, .unset, .unset, .unset, .unset, .unset, .unset] [(.int p3), (.int (0 : Int32)), (.int p2)]))
    obtain ⟨_, _, ⟨T25, L25, k25, n25⟩, -, X25, ⟨Lc25, hQ25, l25, y25, z25⟩, st25⟩ := Jvm.LawKit.callS X0 hx (y := (⟨"com/example/enact/enact/engine/MarkingIsEmptyPinLaw", "pick", "(III)I"⟩ : MethodName)) hown (mvT hZ (hw _ (List.mem_of_getElem? (i := 0) rfl))) (mvT hZ (hw _ (List.mem_of_getElem? (i := 1) rfl))) (mvT hZ (hw _ (List.mem_of_getElem? (i := 2) rfl))) (mvT hZ (hw _ (List.mem_of_getElem? (i := 3) rfl))) (by decide) (backOf (W := 0) (rm1 l Z a0 hw [] p2 (0 : Int32) p3 h0 n0) hZ (hw _ (List.mem_of_getElem? (i := 3) rfl)) (hw _ (List.mem_of_getElem? (i := 2) rfl)) (by decide) (by decide)) (g := (mkF m 11 #[.val (.int p1), .val (.int p2), .val (.int p3), .val (.int p4), .val (.int p5), .val (.int p6), .val (.int (2 : Int32)), .unset, .unset, .unset, .unset, .unset, .unset, .unset] [(.int p3), (.int (0 : Int32)), (.int p2)])) rfl (by rw [hml]; rfl) (argsL := [(.int p2), (.int (0 : Int32)), (.int p3)]) (rest := []) (lenOf pd_0 rfl) rfl (by show 2 * 0 + _ ≤ _; exact Nat.le_of_eq rfl) (hb hby at_11) (fun _ _ => ⟨rfl, e0, (by decide : 0 + 0 ≤ _), (by decide : 0 + 0 ≤ _)⟩)
    dsimp only [Pt.U, Pt.locs, Pt.cells, Pt.slots] at X25 l25 y25 z25 st25 hQ25
    subst l25 y25 z25
    obtain ⟨rfl, N25q, e25⟩ := hQ25
    have N25 := Fr.app N0 N25q
    refine Gl.st st25 ?_
    show Gl _ _ _ _ _ _ _ (T25.setTop (mkF m 14 #[.val (.int p1), .val (.int p2), .val (.int p3), .val (.int p4), .val (.int p5), .val (.int p6), .val (.int (2 : Int32)), .unset, .unset, .unset, .unset, .unset, .unset, .unset] [(.int (own_pick p2 (0 : Int32) p3))]))
    refine Gl.st (fun t k => XS.istore X25.here hx rfl (hb hby at_14) rfl (l' := #[.val (.int p1), .val (.int p2), .val (.int p3), .val (.int p4), .val (.int p5), .val (.int p6), .val (.int (2 : Int32)), .val (.int (own_pick p2 (0 : Int32) p3)), .unset, .unset, .unset, .unset, .unset, .unset]) rfl k) ?_
    show Gl _ _ _ _ _ _ _ (T25.setTop (mkF m 16 #[.val (.int p1), .val (.int p2), .val (.int p3), .val (.int p4), .val (.int p5), .val (.int p6), .val (.int (2 : Int32)), .val (.int (own_pick p2 (0 : Int32) p3)), .unset, .unset, .unset, .unset, .unset, .unset] []))
    refine Gl.st (fun t k => XS.iloadN X25.here hx rfl (hb hby at_16) rfl  k) ?_
    show Gl _ _ _ _ _ _ _ (T25.setTop (mkF m 17 #[.val (.int p1), .val (.int p2), .val (.int p3), .val (.int p4), .val (.int p5), .val (.int p6), .val (.int (2 : Int32)), .val (.int (own_pick p2 (0 : Int32) p3)), .unset, .unset, .unset, .unset, .unset, .unset] [(.int p2)]))
    refine Gl.st (fun t k => XS.iconst X25.here hx rfl (hb hby at_17) k) ?_
    show Gl _ _ _ _ _ _ _ (T25.setTop (mkF m 18 #[.val (.int p1), .val (.int p2), .val (.int p3), .val (.int p4), .val (.int p5), .val (.int p6), .val (.int (2 : Int32)), .val (.int (own_pick p2 (0 : Int32) p3)), .unset, .unset, .unset, .unset, .unset, .unset] [(.int (1 : Int32)), (.int p2)]))
    refine Gl.st (fun t k => XS.iloadN X25.here hx rfl (hb hby at_18) rfl  k) ?_
    show Gl _ _ _ _ _ _ _ (T25.setTop (mkF m 19 #[.val (.int p1), .val (.int p2), .val (.int p3), .val (.int p4), .val (.int p5), .val (.int p6), .val (.int (2 : Int32)), .val (.int (own_pick p2 (0 : Int32) p3)), .unset, .unset, .unset, .unset, .unset, .unset] [(.int p4), (.int (1 : Int32)), (.int p2)]))
    obtain ⟨_, _, ⟨T26, L26, k26, n26⟩, -, X26, ⟨Lc26, hQ26, l26, y26, z26⟩, st26⟩ := Jvm.LawKit.callS X25 hx (y := (⟨"com/example/enact/enact/engine/MarkingIsEmptyPinLaw", "pick", "(III)I"⟩ : MethodName)) hown (mvT hZ (hw _ (List.mem_of_getElem? (i := 0) rfl))) (mvT hZ (hw _ (List.mem_of_getElem? (i := 1) rfl))) (mvT hZ (hw _ (List.mem_of_getElem? (i := 2) rfl))) (mvT hZ (hw _ (List.mem_of_getElem? (i := 3) rfl))) (by decide) (backOf (W := 0) (rm1 l Z a0 hw [] p2 (1 : Int32) p4 h0 n0) hZ (hw _ (List.mem_of_getElem? (i := 3) rfl)) (hw _ (List.mem_of_getElem? (i := 2) rfl)) (by decide) (by decide)) (g := (mkF m 19 #[.val (.int p1), .val (.int p2), .val (.int p3), .val (.int p4), .val (.int p5), .val (.int p6), .val (.int (2 : Int32)), .val (.int (own_pick p2 (0 : Int32) p3)), .unset, .unset, .unset, .unset, .unset, .unset] [(.int p4), (.int (1 : Int32)), (.int p2)])) rfl (by rw [hml]; rfl) (argsL := [(.int p2), (.int (1 : Int32)), (.int p4)]) (rest := []) (lenOf pd_0 rfl) rfl (by show 2 * 0 + _ ≤ _; exact Nat.le_of_eq rfl) (hb hby at_19) (fun _ _ => ⟨rfl, e25, (by decide : 0 + 0 ≤ _), (by decide : 0 + 0 ≤ _)⟩)
    dsimp only [Pt.U, Pt.locs, Pt.cells, Pt.slots] at X26 l26 y26 z26 st26 hQ26
    subst l26 y26 z26
    obtain ⟨rfl, N26q, e26⟩ := hQ26
    have N26 := Fr.app N25 N26q
    refine Gl.st st26 ?_
    show Gl _ _ _ _ _ _ _ (T26.setTop (mkF m 22 #[.val (.int p1), .val (.int p2), .val (.int p3), .val (.int p4), .val (.int p5), .val (.int p6), .val (.int (2 : Int32)), .val (.int (own_pick p2 (0 : Int32) p3)), .unset, .unset, .unset, .unset, .unset, .unset] [(.int (own_pick p2 (1 : Int32) p4))]))
    refine Gl.st (fun t k => XS.istore X26.here hx rfl (hb hby at_22) rfl (l' := #[.val (.int p1), .val (.int p2), .val (.int p3), .val (.int p4), .val (.int p5), .val (.int p6), .val (.int (2 : Int32)), .val (.int (own_pick p2 (0 : Int32) p3)), .val (.int (own_pick p2 (1 : Int32) p4)), .unset, .unset, .unset, .unset, .unset]) rfl k) ?_
    show Gl _ _ _ _ _ _ _ (T26.setTop (mkF m 24 #[.val (.int p1), .val (.int p2), .val (.int p3), .val (.int p4), .val (.int p5), .val (.int p6), .val (.int (2 : Int32)), .val (.int (own_pick p2 (0 : Int32) p3)), .val (.int (own_pick p2 (1 : Int32) p4)), .unset, .unset, .unset, .unset, .unset] []))
    refine Gl.st (fun t k => XS.iloadN X26.here hx rfl (hb hby at_24) rfl  k) ?_
    show Gl _ _ _ _ _ _ _ (T26.setTop (mkF m 25 #[.val (.int p1), .val (.int p2), .val (.int p3), .val (.int p4), .val (.int p5), .val (.int p6), .val (.int (2 : Int32)), .val (.int (own_pick p2 (0 : Int32) p3)), .val (.int (own_pick p2 (1 : Int32) p4)), .unset, .unset, .unset, .unset, .unset] [(.int p2)]))
    refine Gl.st (fun t k => XS.iconst X26.here hx rfl (hb hby at_25) k) ?_
    show Gl _ _ _ _ _ _ _ (T26.setTop (mkF m 26 #[.val (.int p1), .val (.int p2), .val (.int p3), .val (.int p4), .val (.int p5), .val (.int p6), .val (.int (2 : Int32)), .val (.int (own_pick p2 (0 : Int32) p3)), .val (.int (own_pick p2 (1 : Int32) p4)), .unset, .unset, .unset, .unset, .unset] [(.int (2 : Int32)), (.int p2)]))
    refine Gl.st (fun t k => XS.iload X26.here hx rfl (hb hby at_26) rfl  k) ?_
    show Gl _ _ _ _ _ _ _ (T26.setTop (mkF m 28 #[.val (.int p1), .val (.int p2), .val (.int p3), .val (.int p4), .val (.int p5), .val (.int p6), .val (.int (2 : Int32)), .val (.int (own_pick p2 (0 : Int32) p3)), .val (.int (own_pick p2 (1 : Int32) p4)), .unset, .unset, .unset, .unset, .unset] [(.int p5), (.int (2 : Int32)), (.int p2)]))
    obtain ⟨_, _, ⟨T27, L27, k27, n27⟩, -, X27, ⟨Lc27, hQ27, l27, y27, z27⟩, st27⟩ := Jvm.LawKit.callS X26 hx (y := (⟨"com/example/enact/enact/engine/MarkingIsEmptyPinLaw", "pick", "(III)I"⟩ : MethodName)) hown (mvT hZ (hw _ (List.mem_of_getElem? (i := 0) rfl))) (mvT hZ (hw _ (List.mem_of_getElem? (i := 1) rfl))) (mvT hZ (hw _ (List.mem_of_getElem? (i := 2) rfl))) (mvT hZ (hw _ (List.mem_of_getElem? (i := 3) rfl))) (by decide) (backOf (W := 0) (rm1 l Z a0 hw [] p2 (2 : Int32) p5 h0 n0) hZ (hw _ (List.mem_of_getElem? (i := 3) rfl)) (hw _ (List.mem_of_getElem? (i := 2) rfl)) (by decide) (by decide)) (g := (mkF m 28 #[.val (.int p1), .val (.int p2), .val (.int p3), .val (.int p4), .val (.int p5), .val (.int p6), .val (.int (2 : Int32)), .val (.int (own_pick p2 (0 : Int32) p3)), .val (.int (own_pick p2 (1 : Int32) p4)), .unset, .unset, .unset, .unset, .unset] [(.int p5), (.int (2 : Int32)), (.int p2)])) rfl (by rw [hml]; rfl) (argsL := [(.int p2), (.int (2 : Int32)), (.int p5)]) (rest := []) (lenOf pd_0 rfl) rfl (by show 2 * 0 + _ ≤ _; exact Nat.le_of_eq rfl) (hb hby at_28) (fun _ _ => ⟨rfl, e26, (by decide : 0 + 0 ≤ _), (by decide : 0 + 0 ≤ _)⟩)
    dsimp only [Pt.U, Pt.locs, Pt.cells, Pt.slots] at X27 l27 y27 z27 st27 hQ27
    subst l27 y27 z27
    obtain ⟨rfl, N27q, e27⟩ := hQ27
    have N27 := Fr.app N26 N27q
    refine Gl.st st27 ?_
    show Gl _ _ _ _ _ _ _ (T27.setTop (mkF m 31 #[.val (.int p1), .val (.int p2), .val (.int p3), .val (.int p4), .val (.int p5), .val (.int p6), .val (.int (2 : Int32)), .val (.int (own_pick p2 (0 : Int32) p3)), .val (.int (own_pick p2 (1 : Int32) p4)), .unset, .unset, .unset, .unset, .unset] [(.int (own_pick p2 (2 : Int32) p5))]))
    refine Gl.st (fun t k => XS.istore X27.here hx rfl (hb hby at_31) rfl (l' := #[.val (.int p1), .val (.int p2), .val (.int p3), .val (.int p4), .val (.int p5), .val (.int p6), .val (.int (2 : Int32)), .val (.int (own_pick p2 (0 : Int32) p3)), .val (.int (own_pick p2 (1 : Int32) p4)), .val (.int (own_pick p2 (2 : Int32) p5)), .unset, .unset, .unset, .unset]) rfl k) ?_
    show Gl _ _ _ _ _ _ _ (T27.setTop (mkF m 33 #[.val (.int p1), .val (.int p2), .val (.int p3), .val (.int p4), .val (.int p5), .val (.int p6), .val (.int (2 : Int32)), .val (.int (own_pick p2 (0 : Int32) p3)), .val (.int (own_pick p2 (1 : Int32) p4)), .val (.int (own_pick p2 (2 : Int32) p5)), .unset, .unset, .unset, .unset] []))
    refine Gl.st (fun t k => XS.iloadN X27.here hx rfl (hb hby at_33) rfl  k) ?_
    show Gl _ _ _ _ _ _ _ (T27.setTop (mkF m 34 #[.val (.int p1), .val (.int p2), .val (.int p3), .val (.int p4), .val (.int p5), .val (.int p6), .val (.int (2 : Int32)), .val (.int (own_pick p2 (0 : Int32) p3)), .val (.int (own_pick p2 (1 : Int32) p4)), .val (.int (own_pick p2 (2 : Int32) p5)), .unset, .unset, .unset, .unset] [(.int p2)]))
    refine Gl.st (fun t k => XS.iconst X27.here hx rfl (hb hby at_34) k) ?_
    show Gl _ _ _ _ _ _ _ (T27.setTop (mkF m 35 #[.val (.int p1), .val (.int p2), .val (.int p3), .val (.int p4), .val (.int p5), .val (.int p6), .val (.int (2 : Int32)), .val (.int (own_pick p2 (0 : Int32) p3)), .val (.int (own_pick p2 (1 : Int32) p4)), .val (.int (own_pick p2 (2 : Int32) p5)), .unset, .unset, .unset, .unset] [(.int (3 : Int32)), (.int p2)]))
    refine Gl.st (fun t k => XS.iload X27.here hx rfl (hb hby at_35) rfl  k) ?_
    show Gl _ _ _ _ _ _ _ (T27.setTop (mkF m 37 #[.val (.int p1), .val (.int p2), .val (.int p3), .val (.int p4), .val (.int p5), .val (.int p6), .val (.int (2 : Int32)), .val (.int (own_pick p2 (0 : Int32) p3)), .val (.int (own_pick p2 (1 : Int32) p4)), .val (.int (own_pick p2 (2 : Int32) p5)), .unset, .unset, .unset, .unset] [(.int p6), (.int (3 : Int32)), (.int p2)]))
    obtain ⟨_, _, ⟨T28, L28, k28, n28⟩, -, X28, ⟨Lc28, hQ28, l28, y28, z28⟩, st28⟩ := Jvm.LawKit.callS X27 hx (y := (⟨"com/example/enact/enact/engine/MarkingIsEmptyPinLaw", "pick", "(III)I"⟩ : MethodName)) hown (mvT hZ (hw _ (List.mem_of_getElem? (i := 0) rfl))) (mvT hZ (hw _ (List.mem_of_getElem? (i := 1) rfl))) (mvT hZ (hw _ (List.mem_of_getElem? (i := 2) rfl))) (mvT hZ (hw _ (List.mem_of_getElem? (i := 3) rfl))) (by decide) (backOf (W := 0) (rm1 l Z a0 hw [] p2 (3 : Int32) p6 h0 n0) hZ (hw _ (List.mem_of_getElem? (i := 3) rfl)) (hw _ (List.mem_of_getElem? (i := 2) rfl)) (by decide) (by decide)) (g := (mkF m 37 #[.val (.int p1), .val (.int p2), .val (.int p3), .val (.int p4), .val (.int p5), .val (.int p6), .val (.int (2 : Int32)), .val (.int (own_pick p2 (0 : Int32) p3)), .val (.int (own_pick p2 (1 : Int32) p4)), .val (.int (own_pick p2 (2 : Int32) p5)), .unset, .unset, .unset, .unset] [(.int p6), (.int (3 : Int32)), (.int p2)])) rfl (by rw [hml]; rfl) (argsL := [(.int p2), (.int (3 : Int32)), (.int p6)]) (rest := []) (lenOf pd_0 rfl) rfl (by show 2 * 0 + _ ≤ _; exact Nat.le_of_eq rfl) (hb hby at_37) (fun _ _ => ⟨rfl, e27, (by decide : 0 + 0 ≤ _), (by decide : 0 + 0 ≤ _)⟩)
    dsimp only [Pt.U, Pt.locs, Pt.cells, Pt.slots] at X28 l28 y28 z28 st28 hQ28
    subst l28 y28 z28
    obtain ⟨rfl, N28q, e28⟩ := hQ28
    have N28 := Fr.app N27 N28q
    refine Gl.st st28 ?_
    show Gl _ _ _ _ _ _ _ (T28.setTop (mkF m 40 #[.val (.int p1), .val (.int p2), .val (.int p3), .val (.int p4), .val (.int p5), .val (.int p6), .val (.int (2 : Int32)), .val (.int (own_pick p2 (0 : Int32) p3)), .val (.int (own_pick p2 (1 : Int32) p4)), .val (.int (own_pick p2 (2 : Int32) p5)), .unset, .unset, .unset, .unset] [(.int (own_pick p2 (3 : Int32) p6))]))
    refine Gl.st (fun t k => XS.istore X28.here hx rfl (hb hby at_40) rfl (l' := #[.val (.int p1), .val (.int p2), .val (.int p3), .val (.int p4), .val (.int p5), .val (.int p6), .val (.int (2 : Int32)), .val (.int (own_pick p2 (0 : Int32) p3)), .val (.int (own_pick p2 (1 : Int32) p4)), .val (.int (own_pick p2 (2 : Int32) p5)), .val (.int (own_pick p2 (3 : Int32) p6)), .unset, .unset, .unset]) rfl k) ?_
    show Gl _ _ _ _ _ _ _ (T28.setTop (mkF m 42 #[.val (.int p1), .val (.int p2), .val (.int p3), .val (.int p4), .val (.int p5), .val (.int p6), .val (.int (2 : Int32)), .val (.int (own_pick p2 (0 : Int32) p3)), .val (.int (own_pick p2 (1 : Int32) p4)), .val (.int (own_pick p2 (2 : Int32) p5)), .val (.int (own_pick p2 (3 : Int32) p6)), .unset, .unset, .unset] []))
    refine Gl.st (fun t k => XS.iload X28.here hx rfl (hb hby at_42) rfl  k) ?_
    show Gl _ _ _ _ _ _ _ (T28.setTop (mkF m 44 #[.val (.int p1), .val (.int p2), .val (.int p3), .val (.int p4), .val (.int p5), .val (.int p6), .val (.int (2 : Int32)), .val (.int (own_pick p2 (0 : Int32) p3)), .val (.int (own_pick p2 (1 : Int32) p4)), .val (.int (own_pick p2 (2 : Int32) p5)), .val (.int (own_pick p2 (3 : Int32) p6)), .unset, .unset, .unset] [(.int (2 : Int32))]))
    obtain ⟨T29, h29, k29, X29, e29, E29, A29, st29⟩ := newP X28 hx hZ (hw _ (List.mem_of_getElem? (i := 5) rfl)) e28 (g := (mkF m 44 #[.val (.int p1), .val (.int p2), .val (.int p3), .val (.int p4), .val (.int p5), .val (.int p6), .val (.int (2 : Int32)), .val (.int (own_pick p2 (0 : Int32) p3)), .val (.int (own_pick p2 (1 : Int32) p4)), .val (.int (own_pick p2 (2 : Int32) p5)), .val (.int (own_pick p2 (3 : Int32) p6)), .unset, .unset, .unset] [(.int (2 : Int32))])) rfl (hb hby at_44) rfl (by decide) (cap := 2) (by decide) (by decide) (by decide) (by decide)
    obtain ⟨b29, g29⟩ : ∃ z, z = h0.size := ⟨_, rfl⟩
    rw [← g29] at A29 st29
    refine Gl.st st29 ?_
    have gzb29 : n0 ≤ b29 := Nat.le_trans Z0 (Nat.le_of_eq g29.symm)
    have Z29 : n0 ≤ h29.size := Nat.le_trans Z0 E29.1
    have V29 : Arv Z h29 b29 k29 .int (2 : Int32) [(.int (0 : Int32)), (.int (0 : Int32))] (.int (0 : Int32)) := (Arv.new A29 (by decide)).pad (pad_rep [] (.int (0 : Int32)) 2)
    show Gl _ _ _ _ _ _ _ (T29.setTop (mkF m 46 #[.val (.int p1), .val (.int p2), .val (.int p3), .val (.int p4), .val (.int p5), .val (.int p6), .val (.int (2 : Int32)), .val (.int (own_pick p2 (0 : Int32) p3)), .val (.int (own_pick p2 (1 : Int32) p4)), .val (.int (own_pick p2 (2 : Int32) p5)), .val (.int (own_pick p2 (3 : Int32) p6)), .unset, .unset, .unset] [(.ref b29)]))
    refine Gl.st (fun t k => XS.astore X29.here hx rfl (hb hby at_46) rfl rfl (l' := #[.val (.int p1), .val (.int p2), .val (.int p3), .val (.int p4), .val (.int p5), .val (.int p6), .val (.int (2 : Int32)), .val (.int (own_pick p2 (0 : Int32) p3)), .val (.int (own_pick p2 (1 : Int32) p4)), .val (.int (own_pick p2 (2 : Int32) p5)), .val (.int (own_pick p2 (3 : Int32) p6)), .val (.ref b29), .unset, .unset]) rfl k) ?_
    show Gl _ _ _ _ _ _ _ (T29.setTop (mkF m 48 #[.val (.int p1), .val (.int p2), .val (.int p3), .val (.int p4), .val (.int p5), .val (.int p6), .val (.int (2 : Int32)), .val (.int (own_pick p2 (0 : Int32) p3)), .val (.int (own_pick p2 (1 : Int32) p4)), .val (.int (own_pick p2 (2 : Int32) p5)), .val (.int (own_pick p2 (3 : Int32) p6)), .val (.ref b29), .unset, .unset] []))
    refine Gl.st (fun t k => XS.iload X29.here hx rfl (hb hby at_48) rfl  k) ?_
    show Gl _ _ _ _ _ _ _ (T29.setTop (mkF m 50 #[.val (.int p1), .val (.int p2), .val (.int p3), .val (.int p4), .val (.int p5), .val (.int p6), .val (.int (2 : Int32)), .val (.int (own_pick p2 (0 : Int32) p3)), .val (.int (own_pick p2 (1 : Int32) p4)), .val (.int (own_pick p2 (2 : Int32) p5)), .val (.int (own_pick p2 (3 : Int32) p6)), .val (.ref b29), .unset, .unset] [(.int (2 : Int32))]))
    refine Gl.st (fun t k => XS.ifNo X29.here hx rfl (hb hby at_50) rfl ((if0 _ _).trans (tlt (by decide : (0 : Int32) < (2 : Int32))).2.2.2) k) ?_
    show Gl _ _ _ _ _ _ _ (T29.setTop (mkF m 53 #[.val (.int p1), .val (.int p2), .val (.int p3), .val (.int p4), .val (.int p5), .val (.int p6), .val (.int (2 : Int32)), .val (.int (own_pick p2 (0 : Int32) p3)), .val (.int (own_pick p2 (1 : Int32) p4)), .val (.int (own_pick p2 (2 : Int32) p5)), .val (.int (own_pick p2 (3 : Int32) p6)), .val (.ref b29), .unset, .unset] []))
    refine Gl.st (fun t k => XS.aload X29.here hx rfl (hb hby at_53) rfl rfl k) ?_
    show Gl _ _ _ _ _ _ _ (T29.setTop (mkF m 55 #[.val (.int p1), .val (.int p2), .val (.int p3), .val (.int p4), .val (.int p5), .val (.int p6), .val (.int (2 : Int32)), .val (.int (own_pick p2 (0 : Int32) p3)), .val (.int (own_pick p2 (1 : Int32) p4)), .val (.int (own_pick p2 (2 : Int32) p5)), .val (.int (own_pick p2 (3 : Int32) p6)), .val (.ref b29), .unset, .unset] [(.ref b29)]))
    refine Gl.st (fun t k => XS.iconst X29.here hx rfl (hb hby at_55) k) ?_
    show Gl _ _ _ _ _ _ _ (T29.setTop (mkF m 56 #[.val (.int p1), .val (.int p2), .val (.int p3), .val (.int p4), .val (.int p5), .val (.int p6), .val (.int (2 : Int32)), .val (.int (own_pick p2 (0 : Int32) p3)), .val (.int (own_pick p2 (1 : Int32) p4)), .val (.int (own_pick p2 (2 : Int32) p5)), .val (.int (own_pick p2 (3 : Int32) p6)), .val (.ref b29), .unset, .unset] [(.int (0 : Int32)), (.ref b29)]))
    refine Gl.st (fun t k => XS.iload X29.here hx rfl (hb hby at_56) rfl  k) ?_
    show Gl _ _ _ _ _ _ _ (T29.setTop (mkF m 58 #[.val (.int p1), .val (.int p2), .val (.int p3), .val (.int p4), .val (.int p5), .val (.int p6), .val (.int (2 : Int32)), .val (.int (own_pick p2 (0 : Int32) p3)), .val (.int (own_pick p2 (1 : Int32) p4)), .val (.int (own_pick p2 (2 : Int32) p5)), .val (.int (own_pick p2 (3 : Int32) p6)), .val (.ref b29), .unset, .unset] [(.int (own_pick p2 (0 : Int32) p3)), (.int (0 : Int32)), (.ref b29)]))
    have Vx30 := V29
    obtain ⟨cl30, Ar30, qk30, S30, M30, H30, G30⟩ := Vx30
    have hin30 : ¬ ((0 : Int32) < 0 ∨ cl30.slots.size ≤ ((0 : Int32)).toNatClampNeg) := inb_of S30 ⟨by decide, by decide⟩
    obtain ⟨T30, h30, X30, e30, W30, st30⟩ := stI X29 hx hZ e29 Ar30 (j := (0 : Int32)) hin30 (g := (mkF m 58 #[.val (.int p1), .val (.int p2), .val (.int p3), .val (.int p4), .val (.int p5), .val (.int p6), .val (.int (2 : Int32)), .val (.int (own_pick p2 (0 : Int32) p3)), .val (.int (own_pick p2 (1 : Int32) p4)), .val (.int (own_pick p2 (2 : Int32) p5)), .val (.int (own_pick p2 (3 : Int32) p6)), .val (.ref b29), .unset, .unset] [(.int (own_pick p2 (0 : Int32) p3)), (.int (0 : Int32)), (.ref b29)])) rfl rfl (hb hby at_58)
    refine Gl.st st30 ?_
    have Z30 : n0 ≤ h30.size := Nat.le_trans Z29 (Keep.of_wr W30).1
    have N30 := Fr.snoc X30 N28 gzb29
    have V30 : Arv Z h30 b29 k29 .int (2 : Int32) [(.int (own_pick p2 (0 : Int32) p3)), (.int (0 : Int32))] (.int (0 : Int32)) := Arv.set Ar30 qk30 S30 M30 H30 G30 rfl W30 0 rfl (Nat.le_of_ble_eq_true rfl)
    show Gl _ _ _ _ _ _ _ (T30.setTop (mkF m 59 #[.val (.int p1), .val (.int p2), .val (.int p3), .val (.int p4), .val (.int p5), .val (.int p6), .val (.int (2 : Int32)), .val (.int (own_pick p2 (0 : Int32) p3)), .val (.int (own_pick p2 (1 : Int32) p4)), .val (.int (own_pick p2 (2 : Int32) p5)), .val (.int (own_pick p2 (3 : Int32) p6)), .val (.ref b29), .unset, .unset] []))
    refine Gl.st (fun t k => XS.iload X30.here hx rfl (hb hby at_59) rfl  k) ?_
    show Gl _ _ _ _ _ _ _ (T30.setTop (mkF m 61 #[.val (.int p1), .val (.int p2), .val (.int p3), .val (.int p4), .val (.int p5), .val (.int p6), .val (.int (2 : Int32)), .val (.int (own_pick p2 (0 : Int32) p3)), .val (.int (own_pick p2 (1 : Int32) p4)), .val (.int (own_pick p2 (2 : Int32) p5)), .val (.int (own_pick p2 (3 : Int32) p6)), .val (.ref b29), .unset, .unset] [(.int (2 : Int32))]))
    refine Gl.st (fun t k => XS.iconst X30.here hx rfl (hb hby at_61) k) ?_
    show Gl _ _ _ _ _ _ _ (T30.setTop (mkF m 62 #[.val (.int p1), .val (.int p2), .val (.int p3), .val (.int p4), .val (.int p5), .val (.int p6), .val (.int (2 : Int32)), .val (.int (own_pick p2 (0 : Int32) p3)), .val (.int (own_pick p2 (1 : Int32) p4)), .val (.int (own_pick p2 (2 : Int32) p5)), .val (.int (own_pick p2 (3 : Int32) p6)), .val (.ref b29), .unset, .unset] [(.int (1 : Int32)), (.int (2 : Int32))]))
    refine Gl.st (fun t k => XS.icmpNo X30.here hx rfl (hb hby at_62) rfl (tlt (by decide : (1 : Int32) < (2 : Int32))).2.2.2 k) ?_
    show Gl _ _ _ _ _ _ _ (T30.setTop (mkF m 65 #[.val (.int p1), .val (.int p2), .val (.int p3), .val (.int p4), .val (.int p5), .val (.int p6), .val (.int (2 : Int32)), .val (.int (own_pick p2 (0 : Int32) p3)), .val (.int (own_pick p2 (1 : Int32) p4)), .val (.int (own_pick p2 (2 : Int32) p5)), .val (.int (own_pick p2 (3 : Int32) p6)), .val (.ref b29), .unset, .unset] []))
    refine Gl.st (fun t k => XS.aload X30.here hx rfl (hb hby at_65) rfl rfl k) ?_
    show Gl _ _ _ _ _ _ _ (T30.setTop (mkF m 67 #[.val (.int p1), .val (.int p2), .val (.int p3), .val (.int p4), .val (.int p5), .val (.int p6), .val (.int (2 : Int32)), .val (.int (own_pick p2 (0 : Int32) p3)), .val (.int (own_pick p2 (1 : Int32) p4)), .val (.int (own_pick p2 (2 : Int32) p5)), .val (.int (own_pick p2 (3 : Int32) p6)), .val (.ref b29), .unset, .unset] [(.ref b29)]))
    refine Gl.st (fun t k => XS.iconst X30.here hx rfl (hb hby at_67) k) ?_
    show Gl _ _ _ _ _ _ _ (T30.setTop (mkF m 68 #[.val (.int p1), .val (.int p2), .val (.int p3), .val (.int p4), .val (.int p5), .val (.int p6), .val (.int (2 : Int32)), .val (.int (own_pick p2 (0 : Int32) p3)), .val (.int (own_pick p2 (1 : Int32) p4)), .val (.int (own_pick p2 (2 : Int32) p5)), .val (.int (own_pick p2 (3 : Int32) p6)), .val (.ref b29), .unset, .unset] [(.int (1 : Int32)), (.ref b29)]))
    refine Gl.st (fun t k => XS.iload X30.here hx rfl (hb hby at_68) rfl  k) ?_
    show Gl _ _ _ _ _ _ _ (T30.setTop (mkF m 70 #[.val (.int p1), .val (.int p2), .val (.int p3), .val (.int p4), .val (.int p5), .val (.int p6), .val (.int (2 : Int32)), .val (.int (own_pick p2 (0 : Int32) p3)), .val (.int (own_pick p2 (1 : Int32) p4)), .val (.int (own_pick p2 (2 : Int32) p5)), .val (.int (own_pick p2 (3 : Int32) p6)), .val (.ref b29), .unset, .unset] [(.int (own_pick p2 (1 : Int32) p4)), (.int (1 : Int32)), (.ref b29)]))
    have Vx31 := V30
    obtain ⟨cl31, Ar31, qk31, S31, M31, H31, G31⟩ := Vx31
    have hin31 : ¬ ((1 : Int32) < 0 ∨ cl31.slots.size ≤ ((1 : Int32)).toNatClampNeg) := inb_of S31 ⟨by decide, by decide⟩
    obtain ⟨T31, h31, X31, e31, W31, st31⟩ := stI X30 hx hZ e30 Ar31 (j := (1 : Int32)) hin31 (g := (mkF m 70 #[.val (.int p1), .val (.int p2), .val (.int p3), .val (.int p4), .val (.int p5), .val (.int p6), .val (.int (2 : Int32)), .val (.int (own_pick p2 (0 : Int32) p3)), .val (.int (own_pick p2 (1 : Int32) p4)), .val (.int (own_pick p2 (2 : Int32) p5)), .val (.int (own_pick p2 (3 : Int32) p6)), .val (.ref b29), .unset, .unset] [(.int (own_pick p2 (1 : Int32) p4)), (.int (1 : Int32)), (.ref b29)])) rfl rfl (hb hby at_70)
    refine Gl.st st31 ?_
    have Z31 : n0 ≤ h31.size := Nat.le_trans Z30 (Keep.of_wr W31).1
    have N31 := Fr.snoc X31 N30 gzb29
    have V31 : Arv Z h31 b29 k29 .int (2 : Int32) [(.int (own_pick p2 (0 : Int32) p3)), (.int (own_pick p2 (1 : Int32) p4))] (.int (0 : Int32)) := Arv.set Ar31 qk31 S31 M31 H31 G31 rfl W31 1 rfl (Nat.le_of_ble_eq_true rfl)
    show Gl _ _ _ _ _ _ _ (T31.setTop (mkF m 71 #[.val (.int p1), .val (.int p2), .val (.int p3), .val (.int p4), .val (.int p5), .val (.int p6), .val (.int (2 : Int32)), .val (.int (own_pick p2 (0 : Int32) p3)), .val (.int (own_pick p2 (1 : Int32) p4)), .val (.int (own_pick p2 (2 : Int32) p5)), .val (.int (own_pick p2 (3 : Int32) p6)), .val (.ref b29), .unset, .unset] []))
    refine Gl.st (fun t k => XS.iload X31.here hx rfl (hb hby at_71) rfl  k) ?_
    show Gl _ _ _ _ _ _ _ (T31.setTop (mkF m 73 #[.val (.int p1), .val (.int p2), .val (.int p3), .val (.int p4), .val (.int p5), .val (.int p6), .val (.int (2 : Int32)), .val (.int (own_pick p2 (0 : Int32) p3)), .val (.int (own_pick p2 (1 : Int32) p4)), .val (.int (own_pick p2 (2 : Int32) p5)), .val (.int (own_pick p2 (3 : Int32) p6)), .val (.ref b29), .unset, .unset] [(.int (2 : Int32))]))
    refine Gl.st (fun t k => XS.iconst X31.here hx rfl (hb hby at_73) k) ?_
    show Gl _ _ _ _ _ _ _ (T31.setTop (mkF m 74 #[.val (.int p1), .val (.int p2), .val (.int p3), .val (.int p4), .val (.int p5), .val (.int p6), .val (.int (2 : Int32)), .val (.int (own_pick p2 (0 : Int32) p3)), .val (.int (own_pick p2 (1 : Int32) p4)), .val (.int (own_pick p2 (2 : Int32) p5)), .val (.int (own_pick p2 (3 : Int32) p6)), .val (.ref b29), .unset, .unset] [(.int (2 : Int32)), (.int (2 : Int32))]))
    refine Gl.st (fun t k => XS.icmpYes X31.here hx rfl (pc0 := 74) (pc' := 83) rfl (hb hby at_74) rfl (flt (by decide : ¬ ((2 : Int32) < (2 : Int32)))).2.2.2 (by decide) (by decide) k) ?_
    show Gl _ _ _ _ _ _ _ (T31.setTop (mkF m 83 #[.val (.int p1), .val (.int p2), .val (.int p3), .val (.int p4), .val (.int p5), .val (.int p6), .val (.int (2 : Int32)), .val (.int (own_pick p2 (0 : Int32) p3)), .val (.int (own_pick p2 (1 : Int32) p4)), .val (.int (own_pick p2 (2 : Int32) p5)), .val (.int (own_pick p2 (3 : Int32) p6)), .val (.ref b29), .unset, .unset] []))
    refine Gl.st (fun t k => XS.iload X31.here hx rfl (hb hby at_83) rfl  k) ?_
    show Gl _ _ _ _ _ _ _ (T31.setTop (mkF m 85 #[.val (.int p1), .val (.int p2), .val (.int p3), .val (.int p4), .val (.int p5), .val (.int p6), .val (.int (2 : Int32)), .val (.int (own_pick p2 (0 : Int32) p3)), .val (.int (own_pick p2 (1 : Int32) p4)), .val (.int (own_pick p2 (2 : Int32) p5)), .val (.int (own_pick p2 (3 : Int32) p6)), .val (.ref b29), .unset, .unset] [(.int (2 : Int32))]))
    refine Gl.st (fun t k => XS.iconst X31.here hx rfl (hb hby at_85) k) ?_
    show Gl _ _ _ _ _ _ _ (T31.setTop (mkF m 86 #[.val (.int p1), .val (.int p2), .val (.int p3), .val (.int p4), .val (.int p5), .val (.int p6), .val (.int (2 : Int32)), .val (.int (own_pick p2 (0 : Int32) p3)), .val (.int (own_pick p2 (1 : Int32) p4)), .val (.int (own_pick p2 (2 : Int32) p5)), .val (.int (own_pick p2 (3 : Int32) p6)), .val (.ref b29), .unset, .unset] [(.int (3 : Int32)), (.int (2 : Int32))]))
    refine Gl.st (fun t k => XS.icmpYes X31.here hx rfl (pc0 := 86) (pc' := 95) rfl (hb hby at_86) rfl (flt (by decide : ¬ ((3 : Int32) < (2 : Int32)))).2.2.2 (by decide) (by decide) k) ?_
    show Gl _ _ _ _ _ _ _ (T31.setTop (mkF m 95 #[.val (.int p1), .val (.int p2), .val (.int p3), .val (.int p4), .val (.int p5), .val (.int p6), .val (.int (2 : Int32)), .val (.int (own_pick p2 (0 : Int32) p3)), .val (.int (own_pick p2 (1 : Int32) p4)), .val (.int (own_pick p2 (2 : Int32) p5)), .val (.int (own_pick p2 (3 : Int32) p6)), .val (.ref b29), .unset, .unset] []))
    refine Gl.st (fun t k => XS.iconst X31.here hx rfl (hb hby at_95) k) ?_
    show Gl _ _ _ _ _ _ _ (T31.setTop (mkF m 96 #[.val (.int p1), .val (.int p2), .val (.int p3), .val (.int p4), .val (.int p5), .val (.int p6), .val (.int (2 : Int32)), .val (.int (own_pick p2 (0 : Int32) p3)), .val (.int (own_pick p2 (1 : Int32) p4)), .val (.int (own_pick p2 (2 : Int32) p5)), .val (.int (own_pick p2 (3 : Int32) p6)), .val (.ref b29), .unset, .unset] [(.int (1 : Int32))]))
    refine Gl.st (fun t k => XS.istore X31.here hx rfl (hb hby at_96) rfl (l' := #[.val (.int p1), .val (.int p2), .val (.int p3), .val (.int p4), .val (.int p5), .val (.int p6), .val (.int (2 : Int32)), .val (.int (own_pick p2 (0 : Int32) p3)), .val (.int (own_pick p2 (1 : Int32) p4)), .val (.int (own_pick p2 (2 : Int32) p5)), .val (.int (own_pick p2 (3 : Int32) p6)), .val (.ref b29), .val (.int (1 : Int32)), .unset]) rfl k) ?_
    show Gl _ _ _ _ _ _ _ (T31.setTop (mkF m 98 #[.val (.int p1), .val (.int p2), .val (.int p3), .val (.int p4), .val (.int p5), .val (.int p6), .val (.int (2 : Int32)), .val (.int (own_pick p2 (0 : Int32) p3)), .val (.int (own_pick p2 (1 : Int32) p4)), .val (.int (own_pick p2 (2 : Int32) p5)), .val (.int (own_pick p2 (3 : Int32) p6)), .val (.ref b29), .val (.int (1 : Int32)), .unset] []))
    refine Gl.st (fun t k => XS.iload X31.here hx rfl (hb hby at_98) rfl  k) ?_
    show Gl _ _ _ _ _ _ _ (T31.setTop (mkF m 100 #[.val (.int p1), .val (.int p2), .val (.int p3), .val (.int p4), .val (.int p5), .val (.int p6), .val (.int (2 : Int32)), .val (.int (own_pick p2 (0 : Int32) p3)), .val (.int (own_pick p2 (1 : Int32) p4)), .val (.int (own_pick p2 (2 : Int32) p5)), .val (.int (own_pick p2 (3 : Int32) p6)), .val (.ref b29), .val (.int (1 : Int32)), .unset] [(.int (2 : Int32))]))
    refine Gl.st (fun t k => XS.ifNo X31.here hx rfl (hb hby at_100) rfl ((if0 _ _).trans (tlt (by decide : (0 : Int32) < (2 : Int32))).2.2.2) k) ?_
    show Gl _ _ _ _ _ _ _ (T31.setTop (mkF m 103 #[.val (.int p1), .val (.int p2), .val (.int p3), .val (.int p4), .val (.int p5), .val (.int p6), .val (.int (2 : Int32)), .val (.int (own_pick p2 (0 : Int32) p3)), .val (.int (own_pick p2 (1 : Int32) p4)), .val (.int (own_pick p2 (2 : Int32) p5)), .val (.int (own_pick p2 (3 : Int32) p6)), .val (.ref b29), .val (.int (1 : Int32)), .unset] []))
    refine Gl.st (fun t k => XS.iload X31.here hx rfl (hb hby at_103) rfl  k) ?_
    show Gl _ _ _ _ _ _ _ (T31.setTop (mkF m 105 #[.val (.int p1), .val (.int p2), .val (.int p3), .val (.int p4), .val (.int p5), .val (.int p6), .val (.int (2 : Int32)), .val (.int (own_pick p2 (0 : Int32) p3)), .val (.int (own_pick p2 (1 : Int32) p4)), .val (.int (own_pick p2 (2 : Int32) p5)), .val (.int (own_pick p2 (3 : Int32) p6)), .val (.ref b29), .val (.int (1 : Int32)), .unset] [(.int (own_pick p2 (0 : Int32) p3))]))
    have J32 : ∀ (Tj32 : State) (Lj32 : List Loc) (Xj32 : Stand p l e room_1 s m #[(.int p1), (.int p2), (.int p3), (.int p4), (.int p5), (.int p6)] below meth c Tj32 Lj32 1 2) (ej32 : Tj32.heap = h31) (Nj32 : Fr n0 Lj32) (z111l12 : Int32) (hz111l12 : z111l12 = (if (own_pick p2 (0 : Int32) p3) = (0 : Int32) then (1 : Int32) else (0 : Int32))), Gl p e below s (Q0 Z p1 p2 p3 p4 p5 p6 h0 n0) room_1.cells room_1.slots (Tj32.setTop (mkF m 111 #[.val (.int p1), .val (.int p2), .val (.int p3), .val (.int p4), .val (.int p5), .val (.int p6), .val (.int (2 : Int32)), .val (.int (own_pick p2 (0 : Int32) p3)), .val (.int (own_pick p2 (1 : Int32) p4)), .val (.int (own_pick p2 (2 : Int32) p5)), .val (.int (own_pick p2 (3 : Int32) p6)), .val (.ref b29), .val (.int z111l12), .unset] [])) := by
      intro Tj32 Lj32 Xj32 ej32 Nj32 z111l12 hz111l12
      show Gl _ _ _ _ _ _ _ (Tj32.setTop (mkF m 111 #[.val (.int p1), .val (.int p2), .val (.int p3), .val (.int p4), .val (.int p5), .val (.int p6), .val (.int (2 : Int32)), .val (.int (own_pick p2 (0 : Int32) p3)), .val (.int (own_pick p2 (1 : Int32) p4)), .val (.int (own_pick p2 (2 : Int32) p5)), .val (.int (own_pick p2 (3 : Int32) p6)), .val (.ref b29), .val (.int z111l12), .unset] []))
      refine Gl.st (fun t k => XS.iload Xj32.here hx rfl (hb hby at_111) rfl  k) ?_
      show Gl _ _ _ _ _ _ _ (Tj32.setTop (mkF m 113 #[.val (.int p1), .val (.int p2), .val (.int p3), .val (.int p4), .val (.int p5), .val (.int p6), .val (.int (2 : Int32)), .val (.int (own_pick p2 (0 : Int32) p3)), .val (.int (own_pick p2 (1 : Int32) p4)), .val (.int (own_pick p2 (2 : Int32) p5)), .val (.int (own_pick p2 (3 : Int32) p6)), .val (.ref b29), .val (.int z111l12), .unset] [(.int (2 : Int32))]))
      refine Gl.st (fun t k => XS.iconst Xj32.here hx rfl (hb hby at_113) k) ?_
      show Gl _ _ _ _ _ _ _ (Tj32.setTop (mkF m 114 #[.val (.int p1), .val (.int p2), .val (.int p3), .val (.int p4), .val (.int p5), .val (.int p6), .val (.int (2 : Int32)), .val (.int (own_pick p2 (0 : Int32) p3)), .val (.int (own_pick p2 (1 : Int32) p4)), .val (.int (own_pick p2 (2 : Int32) p5)), .val (.int (own_pick p2 (3 : Int32) p6)), .val (.ref b29), .val (.int z111l12), .unset] [(.int (1 : Int32)), (.int (2 : Int32))]))
      refine Gl.st (fun t k => XS.icmpNo Xj32.here hx rfl (hb hby at_114) rfl (tlt (by decide : (1 : Int32) < (2 : Int32))).2.2.2 k) ?_
      show Gl _ _ _ _ _ _ _ (Tj32.setTop (mkF m 117 #[.val (.int p1), .val (.int p2), .val (.int p3), .val (.int p4), .val (.int p5), .val (.int p6), .val (.int (2 : Int32)), .val (.int (own_pick p2 (0 : Int32) p3)), .val (.int (own_pick p2 (1 : Int32) p4)), .val (.int (own_pick p2 (2 : Int32) p5)), .val (.int (own_pick p2 (3 : Int32) p6)), .val (.ref b29), .val (.int z111l12), .unset] []))
      refine Gl.st (fun t k => XS.iload Xj32.here hx rfl (hb hby at_117) rfl  k) ?_
      show Gl _ _ _ _ _ _ _ (Tj32.setTop (mkF m 119 #[.val (.int p1), .val (.int p2), .val (.int p3), .val (.int p4), .val (.int p5), .val (.int p6), .val (.int (2 : Int32)), .val (.int (own_pick p2 (0 : Int32) p3)), .val (.int (own_pick p2 (1 : Int32) p4)), .val (.int (own_pick p2 (2 : Int32) p5)), .val (.int (own_pick p2 (3 : Int32) p6)), .val (.ref b29), .val (.int z111l12), .unset] [(.int (own_pick p2 (1 : Int32) p4))]))
      have J33 : ∀ (Tj33 : State) (Lj33 : List Loc) (Xj33 : Stand p l e room_1 s m #[(.int p1), (.int p2), (.int p3), (.int p4), (.int p5), (.int p6)] below meth c Tj33 Lj33 1 2) (ej33 : Tj33.heap = h31) (Nj33 : Fr n0 Lj33) (z125l12 : Int32) (hz125l12 : z125l12 = (if (own_pick p2 (1 : Int32) p4) = (0 : Int32) then z111l12 else (0 : Int32))), Gl p e below s (Q0 Z p1 p2 p3 p4 p5 p6 h0 n0) room_1.cells room_1.slots (Tj33.setTop (mkF m 125 #[.val (.int p1), .val (.int p2), .val (.int p3), .val (.int p4), .val (.int p5), .val (.int p6), .val (.int (2 : Int32)), .val (.int (own_pick p2 (0 : Int32) p3)), .val (.int (own_pick p2 (1 : Int32) p4)), .val (.int (own_pick p2 (2 : Int32) p5)), .val (.int (own_pick p2 (3 : Int32) p6)), .val (.ref b29), .val (.int z125l12), .unset] [])) := by
        intro Tj33 Lj33 Xj33 ej33 Nj33 z125l12 hz125l12
        show Gl _ _ _ _ _ _ _ (Tj33.setTop (mkF m 125 #[.val (.int p1), .val (.int p2), .val (.int p3), .val (.int p4), .val (.int p5), .val (.int p6), .val (.int (2 : Int32)), .val (.int (own_pick p2 (0 : Int32) p3)), .val (.int (own_pick p2 (1 : Int32) p4)), .val (.int (own_pick p2 (2 : Int32) p5)), .val (.int (own_pick p2 (3 : Int32) p6)), .val (.ref b29), .val (.int z125l12), .unset] []))
        refine Gl.st (fun t k => XS.iload Xj33.here hx rfl (hb hby at_125) rfl  k) ?_
        show Gl _ _ _ _ _ _ _ (Tj33.setTop (mkF m 127 #[.val (.int p1), .val (.int p2), .val (.int p3), .val (.int p4), .val (.int p5), .val (.int p6), .val (.int (2 : Int32)), .val (.int (own_pick p2 (0 : Int32) p3)), .val (.int (own_pick p2 (1 : Int32) p4)), .val (.int (own_pick p2 (2 : Int32) p5)), .val (.int (own_pick p2 (3 : Int32) p6)), .val (.ref b29), .val (.int z125l12), .unset] [(.int (2 : Int32))]))
        refine Gl.st (fun t k => XS.iconst Xj33.here hx rfl (hb hby at_127) k) ?_
        show Gl _ _ _ _ _ _ _ (Tj33.setTop (mkF m 128 #[.val (.int p1), .val (.int p2), .val (.int p3), .val (.int p4), .val (.int p5), .val (.int p6), .val (.int (2 : Int32)), .val (.int (own_pick p2 (0 : Int32) p3)), .val (.int (own_pick p2 (1 : Int32) p4)), .val (.int (own_pick p2 (2 : Int32) p5)), .val (.int (own_pick p2 (3 : Int32) p6)), .val (.ref b29), .val (.int z125l12), .unset] [(.int (2 : Int32)), (.int (2 : Int32))]))
        refine Gl.st (fun t k => XS.icmpYes Xj33.here hx rfl (pc0 := 128) (pc' := 139) rfl (hb hby at_128) rfl (flt (by decide : ¬ ((2 : Int32) < (2 : Int32)))).2.2.2 (by decide) (by decide) k) ?_
        show Gl _ _ _ _ _ _ _ (Tj33.setTop (mkF m 139 #[.val (.int p1), .val (.int p2), .val (.int p3), .val (.int p4), .val (.int p5), .val (.int p6), .val (.int (2 : Int32)), .val (.int (own_pick p2 (0 : Int32) p3)), .val (.int (own_pick p2 (1 : Int32) p4)), .val (.int (own_pick p2 (2 : Int32) p5)), .val (.int (own_pick p2 (3 : Int32) p6)), .val (.ref b29), .val (.int z125l12), .unset] []))
        refine Gl.st (fun t k => XS.iload Xj33.here hx rfl (hb hby at_139) rfl  k) ?_
        show Gl _ _ _ _ _ _ _ (Tj33.setTop (mkF m 141 #[.val (.int p1), .val (.int p2), .val (.int p3), .val (.int p4), .val (.int p5), .val (.int p6), .val (.int (2 : Int32)), .val (.int (own_pick p2 (0 : Int32) p3)), .val (.int (own_pick p2 (1 : Int32) p4)), .val (.int (own_pick p2 (2 : Int32) p5)), .val (.int (own_pick p2 (3 : Int32) p6)), .val (.ref b29), .val (.int z125l12), .unset] [(.int (2 : Int32))]))
        refine Gl.st (fun t k => XS.iconst Xj33.here hx rfl (hb hby at_141) k) ?_
        show Gl _ _ _ _ _ _ _ (Tj33.setTop (mkF m 142 #[.val (.int p1), .val (.int p2), .val (.int p3), .val (.int p4), .val (.int p5), .val (.int p6), .val (.int (2 : Int32)), .val (.int (own_pick p2 (0 : Int32) p3)), .val (.int (own_pick p2 (1 : Int32) p4)), .val (.int (own_pick p2 (2 : Int32) p5)), .val (.int (own_pick p2 (3 : Int32) p6)), .val (.ref b29), .val (.int z125l12), .unset] [(.int (3 : Int32)), (.int (2 : Int32))]))
        refine Gl.st (fun t k => XS.icmpYes Xj33.here hx rfl (pc0 := 142) (pc' := 153) rfl (hb hby at_142) rfl (flt (by decide : ¬ ((3 : Int32) < (2 : Int32)))).2.2.2 (by decide) (by decide) k) ?_
        show Gl _ _ _ _ _ _ _ (Tj33.setTop (mkF m 153 #[.val (.int p1), .val (.int p2), .val (.int p3), .val (.int p4), .val (.int p5), .val (.int p6), .val (.int (2 : Int32)), .val (.int (own_pick p2 (0 : Int32) p3)), .val (.int (own_pick p2 (1 : Int32) p4)), .val (.int (own_pick p2 (2 : Int32) p5)), .val (.int (own_pick p2 (3 : Int32) p6)), .val (.ref b29), .val (.int z125l12), .unset] []))
        obtain ⟨T34, h34, X34, e34, E34, A34, D34, -, st34⟩ := newO Xj33 hx hZ hown (hw _ (List.mem_of_getElem? (i := 6) rfl)) (hw _ (List.mem_of_getElem? (i := 7) rfl)) (hw _ (List.mem_of_getElem? (i := 8) rfl)) ej33 (g := (mkF m 153 #[.val (.int p1), .val (.int p2), .val (.int p3), .val (.int p4), .val (.int p5), .val (.int p6), .val (.int (2 : Int32)), .val (.int (own_pick p2 (0 : Int32) p3)), .val (.int (own_pick p2 (1 : Int32) p4)), .val (.int (own_pick p2 (2 : Int32) p5)), .val (.int (own_pick p2 (3 : Int32) p6)), .val (.ref b29), .val (.int z125l12), .unset] [])) rfl (hb hby at_153) (by decide) (by decide)
        obtain ⟨b34, g34⟩ : ∃ z, z = h31.size := ⟨_, rfl⟩
        rw [← g34] at A34 D34 st34
        refine Gl.st st34 ?_
        have ne_b29_b34 : b29 ≠ b34 := Nat.ne_of_lt (Nat.lt_of_lt_of_le V31.lt (Nat.le_of_eq g34.symm))
        have gzb34 : n0 ≤ b34 := Nat.le_trans Z31 (Nat.le_of_eq g34.symm)
        have Z34 : n0 ≤ h34.size := Nat.le_trans Z31 E34.1
        have V31'35 : Arv Z h34 b29 k29 .int (2 : Int32) [(.int (own_pick p2 (0 : Int32) p3)), (.int (own_pick p2 (1 : Int32) p4))] (.int (0 : Int32)) := V31.ext E34
        have F34_tokens : Fld Z h34 b34 "com/example/enact/enact/engine/Marking" "tokens" "[I" .null := D34 (Or.inr (hw _ (List.mem_of_getElem? (i := 16) rfl))) (ty := (.array .int)) (by decide)
        show Gl _ _ _ _ _ _ _ (T34.setTop (mkF m 156 #[.val (.int p1), .val (.int p2), .val (.int p3), .val (.int p4), .val (.int p5), .val (.int p6), .val (.int (2 : Int32)), .val (.int (own_pick p2 (0 : Int32) p3)), .val (.int (own_pick p2 (1 : Int32) p4)), .val (.int (own_pick p2 (2 : Int32) p5)), .val (.int (own_pick p2 (3 : Int32) p6)), .val (.ref b29), .val (.int z125l12), .unset] [(.ref b34)]))
        refine Gl.st (fun t k => XS.dup X34.here hx rfl (hb hby at_156) rfl rfl k) ?_
        show Gl _ _ _ _ _ _ _ (T34.setTop (mkF m 157 #[.val (.int p1), .val (.int p2), .val (.int p3), .val (.int p4), .val (.int p5), .val (.int p6), .val (.int (2 : Int32)), .val (.int (own_pick p2 (0 : Int32) p3)), .val (.int (own_pick p2 (1 : Int32) p4)), .val (.int (own_pick p2 (2 : Int32) p5)), .val (.int (own_pick p2 (3 : Int32) p6)), .val (.ref b29), .val (.int z125l12), .unset] [(.ref b34), (.ref b34)]))
        refine Gl.st (fun t k => XS.aload X34.here hx rfl (hb hby at_157) rfl rfl k) ?_
        show Gl _ _ _ _ _ _ _ (T34.setTop (mkF m 159 #[.val (.int p1), .val (.int p2), .val (.int p3), .val (.int p4), .val (.int p5), .val (.int p6), .val (.int (2 : Int32)), .val (.int (own_pick p2 (0 : Int32) p3)), .val (.int (own_pick p2 (1 : Int32) p4)), .val (.int (own_pick p2 (2 : Int32) p5)), .val (.int (own_pick p2 (3 : Int32) p6)), .val (.ref b29), .val (.int z125l12), .unset] [(.ref b29), (.ref b34), (.ref b34)]))
        obtain ⟨_, _, ⟨T36, L36, k36, n36⟩, -, X36, ⟨Lc36, hQ36, l36, y36, z36⟩, st36⟩ := X34.specialBack hx (y := (⟨"com/example/enact/enact/engine/Marking", "<init>", "([I)V"⟩ : MethodName)) rfl hown (mvT hZ (hw _ (List.mem_of_getElem? (i := 9) rfl))) (mvT hZ (hw _ (List.mem_of_getElem? (i := 10) rfl))) (mvT hZ (hw _ (List.mem_of_getElem? (i := 11) rfl))) (by decide) (backOf (W := 1) (rm2 l Z a0 hw [] b34 b29 (.null) h34 n0 Z34 A34 F34_tokens gzb34) hZ (hw _ (List.mem_of_getElem? (i := 11) rfl)) (hw _ (List.mem_of_getElem? (i := 8) rfl)) (by decide) (by decide)) (g := (mkF m 159 #[.val (.int p1), .val (.int p2), .val (.int p3), .val (.int p4), .val (.int p5), .val (.int p6), .val (.int (2 : Int32)), .val (.int (own_pick p2 (0 : Int32) p3)), .val (.int (own_pick p2 (1 : Int32) p4)), .val (.int (own_pick p2 (2 : Int32) p5)), .val (.int (own_pick p2 (3 : Int32) p6)), .val (.ref b29), .val (.int z125l12), .unset] [(.ref b29), (.ref b34), (.ref b34)])) rfl (by rw [hml]; rfl) (Steps.refl _) (a := b34) (argsL := [(.ref b29)]) (rest := [(.ref b34)]) (lenOf pd_1 rfl) rfl (by show 2 * 0 + _ ≤ _; exact Nat.le_of_eq rfl) (hb hby at_159) (fun _ _ => ⟨rfl, e34, (by decide : 2 + 0 ≤ _), (by decide : 4 + 0 ≤ _)⟩)
        dsimp only [Pt.U, Pt.locs, Pt.cells, Pt.slots] at X36 l36 y36 z36 st36 hQ36
        subst l36 y36 z36
        obtain ⟨rfl, N36q, Kq36, Fq36_0, Fq36_1⟩ := hQ36
        have N36 := Fr.app Nj33 N36q
        have Z36 : n0 ≤ T36.heap.size := Nat.le_trans Z34 Kq36.1
        have V31'37 : Arv Z T36.heap b29 k29 .int (2 : Int32) [(.int (own_pick p2 (0 : Int32) p3)), (.int (own_pick p2 (1 : Int32) p4))] (.int (0 : Int32)) := V31'35.keep Kq36 (ninS ne_b29_b34 nin0)
        refine Gl.to st36 ?_
        show Gl _ _ _ _ _ _ _ (T36.setTop (mkF m 162 #[.val (.int p1), .val (.int p2), .val (.int p3), .val (.int p4), .val (.int p5), .val (.int p6), .val (.int (2 : Int32)), .val (.int (own_pick p2 (0 : Int32) p3)), .val (.int (own_pick p2 (1 : Int32) p4)), .val (.int (own_pick p2 (2 : Int32) p5)), .val (.int (own_pick p2 (3 : Int32) p6)), .val (.ref b29), .val (.int z125l12), .unset] [(.ref b34)]))
        refine Gl.st (fun t k => XS.astore X36.here hx rfl (hb hby at_162) rfl rfl (l' := #[.val (.int p1), .val (.int p2), .val (.int p3), .val (.int p4), .val (.int p5), .val (.int p6), .val (.int (2 : Int32)), .val (.int (own_pick p2 (0 : Int32) p3)), .val (.int (own_pick p2 (1 : Int32) p4)), .val (.int (own_pick p2 (2 : Int32) p5)), .val (.int (own_pick p2 (3 : Int32) p6)), .val (.ref b29), .val (.int z125l12), .val (.ref b34)]) rfl k) ?_
        show Gl _ _ _ _ _ _ _ (T36.setTop (mkF m 164 #[.val (.int p1), .val (.int p2), .val (.int p3), .val (.int p4), .val (.int p5), .val (.int p6), .val (.int (2 : Int32)), .val (.int (own_pick p2 (0 : Int32) p3)), .val (.int (own_pick p2 (1 : Int32) p4)), .val (.int (own_pick p2 (2 : Int32) p5)), .val (.int (own_pick p2 (3 : Int32) p6)), .val (.ref b29), .val (.int z125l12), .val (.ref b34)] []))
        refine Gl.st (fun t k => XS.aload X36.here hx rfl (hb hby at_164) rfl rfl k) ?_
        show Gl _ _ _ _ _ _ _ (T36.setTop (mkF m 166 #[.val (.int p1), .val (.int p2), .val (.int p3), .val (.int p4), .val (.int p5), .val (.int p6), .val (.int (2 : Int32)), .val (.int (own_pick p2 (0 : Int32) p3)), .val (.int (own_pick p2 (1 : Int32) p4)), .val (.int (own_pick p2 (2 : Int32) p5)), .val (.int (own_pick p2 (3 : Int32) p6)), .val (.ref b29), .val (.int z125l12), .val (.ref b34)] [(.ref b34)]))
        obtain ⟨cq38, kq38, qa38, qb38, qc38⟩ := isOf hZ rfl Fq36_0
        obtain ⟨_, _, ⟨T38, L38, k38, n38⟩, -, X38, ⟨Lc38, hQ38, l38, y38, z38⟩, st38⟩ := X36.virtualBack hx (y := (⟨"com/example/enact/enact/engine/Marking", "isEmpty", "()Z"⟩ : MethodName)) (z := (⟨"com/example/enact/enact/engine/Marking", "isEmpty", "()Z"⟩ : MethodName)) hown (mvT hZ (hw _ (List.mem_of_getElem? (i := 17) rfl))) (mvT hZ (hw _ (List.mem_of_getElem? (i := 18) rfl))) (notFace_of_selects (args := #[]) (mvT hZ (hw _ (List.mem_of_getElem? (i := 20) rfl)))) (mvT hZ (hw _ (List.mem_of_getElem? (i := 20) rfl))) (mvT hZ (hw _ (List.mem_of_getElem? (i := 19) rfl))) (by decide) (backOf (W := 0) (rm4v2 l Z a0 hw [] b34 (b29) (k29) ((own_pick p2 (0 : Int32) p3)) ((own_pick p2 (1 : Int32) p4)) T36.heap n0  Fq36_1 V31'37) hZ (hw _ (List.mem_of_getElem? (i := 21) rfl)) (hw _ (List.mem_of_getElem? (i := 8) rfl)) (by decide) (by decide)) qa38 qc38 (g := (mkF m 166 #[.val (.int p1), .val (.int p2), .val (.int p3), .val (.int p4), .val (.int p5), .val (.int p6), .val (.int (2 : Int32)), .val (.int (own_pick p2 (0 : Int32) p3)), .val (.int (own_pick p2 (1 : Int32) p4)), .val (.int (own_pick p2 (2 : Int32) p5)), .val (.int (own_pick p2 (3 : Int32) p6)), .val (.ref b29), .val (.int z125l12), .val (.ref b34)] [(.ref b34)])) rfl (by rw [hml]; rfl) (Steps.refl _) (argsL := []) (rest := []) (lenOf pd_2 rfl) rfl (by show 2 * 0 + _ ≤ _; exact Nat.le_of_eq rfl) (hb hby at_166) (fun _ _ => ⟨rfl, rfl, (by decide : 2 + 0 ≤ _), (by decide : 4 + 0 ≤ _)⟩)
        dsimp only [Pt.U, Pt.locs, Pt.cells, Pt.slots] at X38 l38 y38 z38 st38 hQ38
        subst l38 y38 z38
        obtain ⟨rfl, N38q, e38⟩ := hQ38
        have N38 := Fr.app N36 N38q
        refine Gl.to st38 ?_
        show Gl _ _ _ _ _ _ _ (T38.setTop (mkF m 169 #[.val (.int p1), .val (.int p2), .val (.int p3), .val (.int p4), .val (.int p5), .val (.int p6), .val (.int (2 : Int32)), .val (.int (own_pick p2 (0 : Int32) p3)), .val (.int (own_pick p2 (1 : Int32) p4)), .val (.int (own_pick p2 (2 : Int32) p5)), .val (.int (own_pick p2 (3 : Int32) p6)), .val (.ref b29), .val (.int z125l12), .val (.ref b34)] [(.int (own_empty2 (own_pick p2 (0 : Int32) p3) (own_pick p2 (1 : Int32) p4)))]))
        refine Gl.st (fun t k => XS.iload X38.here hx rfl (hb hby at_169) rfl  k) ?_
        show Gl _ _ _ _ _ _ _ (T38.setTop (mkF m 171 #[.val (.int p1), .val (.int p2), .val (.int p3), .val (.int p4), .val (.int p5), .val (.int p6), .val (.int (2 : Int32)), .val (.int (own_pick p2 (0 : Int32) p3)), .val (.int (own_pick p2 (1 : Int32) p4)), .val (.int (own_pick p2 (2 : Int32) p5)), .val (.int (own_pick p2 (3 : Int32) p6)), .val (.ref b29), .val (.int z125l12), .val (.ref b34)] [(.int z125l12), (.int (own_empty2 (own_pick p2 (0 : Int32) p3) (own_pick p2 (1 : Int32) p4)))]))
        have hc171_39 : (own_empty2 (own_pick p2 (0 : Int32) p3) (own_pick p2 (1 : Int32) p4)) = z125l12 := by 
          subst_vars; unfold own_empty2; repeat' split
          all_goals first | rfl | contradiction | simp_all
        refine Gl.st (fun t k => XS.icmpNo X38.here hx rfl (hb hby at_171) rfl (teq hc171_39).2 k) ?_
        show Gl _ _ _ _ _ _ _ (T38.setTop (mkF m 174 #[.val (.int p1), .val (.int p2), .val (.int p3), .val (.int p4), .val (.int p5), .val (.int p6), .val (.int (2 : Int32)), .val (.int (own_pick p2 (0 : Int32) p3)), .val (.int (own_pick p2 (1 : Int32) p4)), .val (.int (own_pick p2 (2 : Int32) p5)), .val (.int (own_pick p2 (3 : Int32) p6)), .val (.ref b29), .val (.int z125l12), .val (.ref b34)] []))
        refine Gl.st (fun t k => XS.iconst X38.here hx rfl (hb hby at_174) k) ?_
        show Gl _ _ _ _ _ _ _ (T38.setTop (mkF m 175 #[.val (.int p1), .val (.int p2), .val (.int p3), .val (.int p4), .val (.int p5), .val (.int p6), .val (.int (2 : Int32)), .val (.int (own_pick p2 (0 : Int32) p3)), .val (.int (own_pick p2 (1 : Int32) p4)), .val (.int (own_pick p2 (2 : Int32) p5)), .val (.int (own_pick p2 (3 : Int32) p6)), .val (.ref b29), .val (.int z125l12), .val (.ref b34)] [(.int (1 : Int32))]))
        refine Gl.st (fun t k => XS.goto X38.here hx rfl (pc0 := 175) (pc' := 179) rfl (hb hby at_175) (by decide) (by decide) k) ?_
        show Gl _ _ _ _ _ _ _ (T38.setTop (mkF m 179 #[.val (.int p1), .val (.int p2), .val (.int p3), .val (.int p4), .val (.int p5), .val (.int p6), .val (.int (2 : Int32)), .val (.int (own_pick p2 (0 : Int32) p3)), .val (.int (own_pick p2 (1 : Int32) p4)), .val (.int (own_pick p2 (2 : Int32) p5)), .val (.int (own_pick p2 (3 : Int32) p6)), .val (.ref b29), .val (.int z125l12), .val (.ref b34)] [(.int (1 : Int32))]))
        exact Gl.retN X38 hx hlk Bd.returns (by simp) (hb hby at_179) (⟨rfl, N38⟩) (by decide) (by decide)
      by_cases hc119 : (own_pick p2 (1 : Int32) p4) = (0 : Int32)
      · refine Gl.st (fun t k => XS.ifYes Xj32.here hx rfl (pc0 := 119) (pc' := 125) rfl (hb hby at_119) rfl ((if0 _ _).trans (teq hc119).1) (by decide) (by decide) k) ?_
        show Gl _ _ _ _ _ _ _ (Tj32.setTop (mkF m 125 #[.val (.int p1), .val (.int p2), .val (.int p3), .val (.int p4), .val (.int p5), .val (.int p6), .val (.int (2 : Int32)), .val (.int (own_pick p2 (0 : Int32) p3)), .val (.int (own_pick p2 (1 : Int32) p4)), .val (.int (own_pick p2 (2 : Int32) p5)), .val (.int (own_pick p2 (3 : Int32) p6)), .val (.ref b29), .val (.int z111l12), .unset] []))
        exact J33 _ _ Xj32 ej32 Nj32 _ (by simp only [if_pos hc119])
      · refine Gl.st (fun t k => XS.ifNo Xj32.here hx rfl (hb hby at_119) rfl ((if0 _ _).trans (feq hc119).1) k) ?_
        show Gl _ _ _ _ _ _ _ (Tj32.setTop (mkF m 122 #[.val (.int p1), .val (.int p2), .val (.int p3), .val (.int p4), .val (.int p5), .val (.int p6), .val (.int (2 : Int32)), .val (.int (own_pick p2 (0 : Int32) p3)), .val (.int (own_pick p2 (1 : Int32) p4)), .val (.int (own_pick p2 (2 : Int32) p5)), .val (.int (own_pick p2 (3 : Int32) p6)), .val (.ref b29), .val (.int z111l12), .unset] []))
        refine Gl.st (fun t k => XS.iconst Xj32.here hx rfl (hb hby at_122) k) ?_
        show Gl _ _ _ _ _ _ _ (Tj32.setTop (mkF m 123 #[.val (.int p1), .val (.int p2), .val (.int p3), .val (.int p4), .val (.int p5), .val (.int p6), .val (.int (2 : Int32)), .val (.int (own_pick p2 (0 : Int32) p3)), .val (.int (own_pick p2 (1 : Int32) p4)), .val (.int (own_pick p2 (2 : Int32) p5)), .val (.int (own_pick p2 (3 : Int32) p6)), .val (.ref b29), .val (.int z111l12), .unset] [(.int (0 : Int32))]))
        refine Gl.st (fun t k => XS.istore Xj32.here hx rfl (hb hby at_123) rfl (l' := #[.val (.int p1), .val (.int p2), .val (.int p3), .val (.int p4), .val (.int p5), .val (.int p6), .val (.int (2 : Int32)), .val (.int (own_pick p2 (0 : Int32) p3)), .val (.int (own_pick p2 (1 : Int32) p4)), .val (.int (own_pick p2 (2 : Int32) p5)), .val (.int (own_pick p2 (3 : Int32) p6)), .val (.ref b29), .val (.int (0 : Int32)), .unset]) rfl k) ?_
        show Gl _ _ _ _ _ _ _ (Tj32.setTop (mkF m 125 #[.val (.int p1), .val (.int p2), .val (.int p3), .val (.int p4), .val (.int p5), .val (.int p6), .val (.int (2 : Int32)), .val (.int (own_pick p2 (0 : Int32) p3)), .val (.int (own_pick p2 (1 : Int32) p4)), .val (.int (own_pick p2 (2 : Int32) p5)), .val (.int (own_pick p2 (3 : Int32) p6)), .val (.ref b29), .val (.int (0 : Int32)), .unset] []))
        exact J33 _ _ Xj32 ej32 Nj32 _ (by simp only [if_neg hc119])
    by_cases hc105 : (own_pick p2 (0 : Int32) p3) = (0 : Int32)
    · refine Gl.st (fun t k => XS.ifYes X31.here hx rfl (pc0 := 105) (pc' := 111) rfl (hb hby at_105) rfl ((if0 _ _).trans (teq hc105).1) (by decide) (by decide) k) ?_
      show Gl _ _ _ _ _ _ _ (T31.setTop (mkF m 111 #[.val (.int p1), .val (.int p2), .val (.int p3), .val (.int p4), .val (.int p5), .val (.int p6), .val (.int (2 : Int32)), .val (.int (own_pick p2 (0 : Int32) p3)), .val (.int (own_pick p2 (1 : Int32) p4)), .val (.int (own_pick p2 (2 : Int32) p5)), .val (.int (own_pick p2 (3 : Int32) p6)), .val (.ref b29), .val (.int (1 : Int32)), .unset] []))
      exact J32 _ _ X31 e31 N31 _ (by simp only [if_pos hc105])
    · refine Gl.st (fun t k => XS.ifNo X31.here hx rfl (hb hby at_105) rfl ((if0 _ _).trans (feq hc105).1) k) ?_
      show Gl _ _ _ _ _ _ _ (T31.setTop (mkF m 108 #[.val (.int p1), .val (.int p2), .val (.int p3), .val (.int p4), .val (.int p5), .val (.int p6), .val (.int (2 : Int32)), .val (.int (own_pick p2 (0 : Int32) p3)), .val (.int (own_pick p2 (1 : Int32) p4)), .val (.int (own_pick p2 (2 : Int32) p5)), .val (.int (own_pick p2 (3 : Int32) p6)), .val (.ref b29), .val (.int (1 : Int32)), .unset] []))
      refine Gl.st (fun t k => XS.iconst X31.here hx rfl (hb hby at_108) k) ?_
      show Gl _ _ _ _ _ _ _ (T31.setTop (mkF m 109 #[.val (.int p1), .val (.int p2), .val (.int p3), .val (.int p4), .val (.int p5), .val (.int p6), .val (.int (2 : Int32)), .val (.int (own_pick p2 (0 : Int32) p3)), .val (.int (own_pick p2 (1 : Int32) p4)), .val (.int (own_pick p2 (2 : Int32) p5)), .val (.int (own_pick p2 (3 : Int32) p6)), .val (.ref b29), .val (.int (1 : Int32)), .unset] [(.int (0 : Int32))]))
      refine Gl.st (fun t k => XS.istore X31.here hx rfl (hb hby at_109) rfl (l' := #[.val (.int p1), .val (.int p2), .val (.int p3), .val (.int p4), .val (.int p5), .val (.int p6), .val (.int (2 : Int32)), .val (.int (own_pick p2 (0 : Int32) p3)), .val (.int (own_pick p2 (1 : Int32) p4)), .val (.int (own_pick p2 (2 : Int32) p5)), .val (.int (own_pick p2 (3 : Int32) p6)), .val (.ref b29), .val (.int (0 : Int32)), .unset]) rfl k) ?_
      show Gl _ _ _ _ _ _ _ (T31.setTop (mkF m 111 #[.val (.int p1), .val (.int p2), .val (.int p3), .val (.int p4), .val (.int p5), .val (.int p6), .val (.int (2 : Int32)), .val (.int (own_pick p2 (0 : Int32) p3)), .val (.int (own_pick p2 (1 : Int32) p4)), .val (.int (own_pick p2 (2 : Int32) p5)), .val (.int (own_pick p2 (3 : Int32) p6)), .val (.ref b29), .val (.int (0 : Int32)), .unset] []))
      exact J32 _ _ X31 e31 N31 _ (by simp only [if_neg hc105])
  · skip
    show Gl _ _ _ _ _ _ _ (s₁.setTop (mkF m 8 #[.val (.int p1), .val (.int p2), .val (.int p3), .val (.int p4), .val (.int p5), .val (.int p6), .val (.int (3 : Int32)), .unset, .unset, .unset, .unset, .unset, .unset, .unset] []))
    refine Gl.st (fun t k => XS.iloadN X0.here hx rfl (hb hby at_8) rfl  k) ?_
    show Gl _ _ _ _ _ _ _ (s₁.setTop (mkF m 9 #[.val (.int p1), .val (.int p2), .val (.int p3), .val (.int p4), .val (.int p5), .val (.int p6), .val (.int (3 : Int32)), .unset, .unset, .unset, .unset, .unset, .unset, .unset] [(.int p2)]))
    refine Gl.st (fun t k => XS.iconst X0.here hx rfl (hb hby at_9) k) ?_
    show Gl _ _ _ _ _ _ _ (s₁.setTop (mkF m 10 #[.val (.int p1), .val (.int p2), .val (.int p3), .val (.int p4), .val (.int p5), .val (.int p6), .val (.int (3 : Int32)), .unset, .unset, .unset, .unset, .unset, .unset, .unset] [(.int (0 : Int32)), (.int p2)]))
    refine Gl.st (fun t k => XS.iloadN X0.here hx rfl (hb hby at_10) rfl  k) ?_
    show Gl _ _ _ _ _ _ _ (s₁.setTop (mkF m 11 #[.val (.int p1), .val (.int p2), .val (.int p3), .val (.int p4), .val (.int p5), .val (.int p6), .val (.int (3 : Int32)), .unset, .unset, .unset, .unset, .unset, .unset, .unset] [(.int p3), (.int (0 : Int32)), (.int p2)]))
    obtain ⟨_, _, ⟨T40, L40, k40, n40⟩, -, X40, ⟨Lc40, hQ40, l40, y40, z40⟩, st40⟩ := Jvm.LawKit.callS X0 hx (y := (⟨"com/example/enact/enact/engine/MarkingIsEmptyPinLaw", "pick", "(III)I"⟩ : MethodName)) hown (mvT hZ (hw _ (List.mem_of_getElem? (i := 0) rfl))) (mvT hZ (hw _ (List.mem_of_getElem? (i := 1) rfl))) (mvT hZ (hw _ (List.mem_of_getElem? (i := 2) rfl))) (mvT hZ (hw _ (List.mem_of_getElem? (i := 3) rfl))) (by decide) (backOf (W := 0) (rm1 l Z a0 hw [] p2 (0 : Int32) p3 h0 n0) hZ (hw _ (List.mem_of_getElem? (i := 3) rfl)) (hw _ (List.mem_of_getElem? (i := 2) rfl)) (by decide) (by decide)) (g := (mkF m 11 #[.val (.int p1), .val (.int p2), .val (.int p3), .val (.int p4), .val (.int p5), .val (.int p6), .val (.int (3 : Int32)), .unset, .unset, .unset, .unset, .unset, .unset, .unset] [(.int p3), (.int (0 : Int32)), (.int p2)])) rfl (by rw [hml]; rfl) (argsL := [(.int p2), (.int (0 : Int32)), (.int p3)]) (rest := []) (lenOf pd_0 rfl) rfl (by show 2 * 0 + _ ≤ _; exact Nat.le_of_eq rfl) (hb hby at_11) (fun _ _ => ⟨rfl, e0, (by decide : 0 + 0 ≤ _), (by decide : 0 + 0 ≤ _)⟩)
    dsimp only [Pt.U, Pt.locs, Pt.cells, Pt.slots] at X40 l40 y40 z40 st40 hQ40
    subst l40 y40 z40
    obtain ⟨rfl, N40q, e40⟩ := hQ40
    have N40 := Fr.app N0 N40q
    refine Gl.st st40 ?_
    show Gl _ _ _ _ _ _ _ (T40.setTop (mkF m 14 #[.val (.int p1), .val (.int p2), .val (.int p3), .val (.int p4), .val (.int p5), .val (.int p6), .val (.int (3 : Int32)), .unset, .unset, .unset, .unset, .unset, .unset, .unset] [(.int (own_pick p2 (0 : Int32) p3))]))
    refine Gl.st (fun t k => XS.istore X40.here hx rfl (hb hby at_14) rfl (l' := #[.val (.int p1), .val (.int p2), .val (.int p3), .val (.int p4), .val (.int p5), .val (.int p6), .val (.int (3 : Int32)), .val (.int (own_pick p2 (0 : Int32) p3)), .unset, .unset, .unset, .unset, .unset, .unset]) rfl k) ?_
    show Gl _ _ _ _ _ _ _ (T40.setTop (mkF m 16 #[.val (.int p1), .val (.int p2), .val (.int p3), .val (.int p4), .val (.int p5), .val (.int p6), .val (.int (3 : Int32)), .val (.int (own_pick p2 (0 : Int32) p3)), .unset, .unset, .unset, .unset, .unset, .unset] []))
    refine Gl.st (fun t k => XS.iloadN X40.here hx rfl (hb hby at_16) rfl  k) ?_
    show Gl _ _ _ _ _ _ _ (T40.setTop (mkF m 17 #[.val (.int p1), .val (.int p2), .val (.int p3), .val (.int p4), .val (.int p5), .val (.int p6), .val (.int (3 : Int32)), .val (.int (own_pick p2 (0 : Int32) p3)), .unset, .unset, .unset, .unset, .unset, .unset] [(.int p2)]))
    refine Gl.st (fun t k => XS.iconst X40.here hx rfl (hb hby at_17) k) ?_
    show Gl _ _ _ _ _ _ _ (T40.setTop (mkF m 18 #[.val (.int p1), .val (.int p2), .val (.int p3), .val (.int p4), .val (.int p5), .val (.int p6), .val (.int (3 : Int32)), .val (.int (own_pick p2 (0 : Int32) p3)), .unset, .unset, .unset, .unset, .unset, .unset] [(.int (1 : Int32)), (.int p2)]))
    refine Gl.st (fun t k => XS.iloadN X40.here hx rfl (hb hby at_18) rfl  k) ?_
    show Gl _ _ _ _ _ _ _ (T40.setTop (mkF m 19 #[.val (.int p1), .val (.int p2), .val (.int p3), .val (.int p4), .val (.int p5), .val (.int p6), .val (.int (3 : Int32)), .val (.int (own_pick p2 (0 : Int32) p3)), .unset, .unset, .unset, .unset, .unset, .unset] [(.int p4), (.int (1 : Int32)), (.int p2)]))
    obtain ⟨_, _, ⟨T41, L41, k41, n41⟩, -, X41, ⟨Lc41, hQ41, l41, y41, z41⟩, st41⟩ := Jvm.LawKit.callS X40 hx (y := (⟨"com/example/enact/enact/engine/MarkingIsEmptyPinLaw", "pick", "(III)I"⟩ : MethodName)) hown (mvT hZ (hw _ (List.mem_of_getElem? (i := 0) rfl))) (mvT hZ (hw _ (List.mem_of_getElem? (i := 1) rfl))) (mvT hZ (hw _ (List.mem_of_getElem? (i := 2) rfl))) (mvT hZ (hw _ (List.mem_of_getElem? (i := 3) rfl))) (by decide) (backOf (W := 0) (rm1 l Z a0 hw [] p2 (1 : Int32) p4 h0 n0) hZ (hw _ (List.mem_of_getElem? (i := 3) rfl)) (hw _ (List.mem_of_getElem? (i := 2) rfl)) (by decide) (by decide)) (g := (mkF m 19 #[.val (.int p1), .val (.int p2), .val (.int p3), .val (.int p4), .val (.int p5), .val (.int p6), .val (.int (3 : Int32)), .val (.int (own_pick p2 (0 : Int32) p3)), .unset, .unset, .unset, .unset, .unset, .unset] [(.int p4), (.int (1 : Int32)), (.int p2)])) rfl (by rw [hml]; rfl) (argsL := [(.int p2), (.int (1 : Int32)), (.int p4)]) (rest := []) (lenOf pd_0 rfl) rfl (by show 2 * 0 + _ ≤ _; exact Nat.le_of_eq rfl) (hb hby at_19) (fun _ _ => ⟨rfl, e40, (by decide : 0 + 0 ≤ _), (by decide : 0 + 0 ≤ _)⟩)
    dsimp only [Pt.U, Pt.locs, Pt.cells, Pt.slots] at X41 l41 y41 z41 st41 hQ41
    subst l41 y41 z41
    obtain ⟨rfl, N41q, e41⟩ := hQ41
    have N41 := Fr.app N40 N41q
    refine Gl.st st41 ?_
    show Gl _ _ _ _ _ _ _ (T41.setTop (mkF m 22 #[.val (.int p1), .val (.int p2), .val (.int p3), .val (.int p4), .val (.int p5), .val (.int p6), .val (.int (3 : Int32)), .val (.int (own_pick p2 (0 : Int32) p3)), .unset, .unset, .unset, .unset, .unset, .unset] [(.int (own_pick p2 (1 : Int32) p4))]))
    refine Gl.st (fun t k => XS.istore X41.here hx rfl (hb hby at_22) rfl (l' := #[.val (.int p1), .val (.int p2), .val (.int p3), .val (.int p4), .val (.int p5), .val (.int p6), .val (.int (3 : Int32)), .val (.int (own_pick p2 (0 : Int32) p3)), .val (.int (own_pick p2 (1 : Int32) p4)), .unset, .unset, .unset, .unset, .unset]) rfl k) ?_
    show Gl _ _ _ _ _ _ _ (T41.setTop (mkF m 24 #[.val (.int p1), .val (.int p2), .val (.int p3), .val (.int p4), .val (.int p5), .val (.int p6), .val (.int (3 : Int32)), .val (.int (own_pick p2 (0 : Int32) p3)), .val (.int (own_pick p2 (1 : Int32) p4)), .unset, .unset, .unset, .unset, .unset] []))
    refine Gl.st (fun t k => XS.iloadN X41.here hx rfl (hb hby at_24) rfl  k) ?_
    show Gl _ _ _ _ _ _ _ (T41.setTop (mkF m 25 #[.val (.int p1), .val (.int p2), .val (.int p3), .val (.int p4), .val (.int p5), .val (.int p6), .val (.int (3 : Int32)), .val (.int (own_pick p2 (0 : Int32) p3)), .val (.int (own_pick p2 (1 : Int32) p4)), .unset, .unset, .unset, .unset, .unset] [(.int p2)]))
    refine Gl.st (fun t k => XS.iconst X41.here hx rfl (hb hby at_25) k) ?_
    show Gl _ _ _ _ _ _ _ (T41.setTop (mkF m 26 #[.val (.int p1), .val (.int p2), .val (.int p3), .val (.int p4), .val (.int p5), .val (.int p6), .val (.int (3 : Int32)), .val (.int (own_pick p2 (0 : Int32) p3)), .val (.int (own_pick p2 (1 : Int32) p4)), .unset, .unset, .unset, .unset, .unset] [(.int (2 : Int32)), (.int p2)]))
    refine Gl.st (fun t k => XS.iload X41.here hx rfl (hb hby at_26) rfl  k) ?_
    show Gl _ _ _ _ _ _ _ (T41.setTop (mkF m 28 #[.val (.int p1), .val (.int p2), .val (.int p3), .val (.int p4), .val (.int p5), .val (.int p6), .val (.int (3 : Int32)), .val (.int (own_pick p2 (0 : Int32) p3)), .val (.int (own_pick p2 (1 : Int32) p4)), .unset, .unset, .unset, .unset, .unset] [(.int p5), (.int (2 : Int32)), (.int p2)]))
    obtain ⟨_, _, ⟨T42, L42, k42, n42⟩, -, X42, ⟨Lc42, hQ42, l42, y42, z42⟩, st42⟩ := Jvm.LawKit.callS X41 hx (y := (⟨"com/example/enact/enact/engine/MarkingIsEmptyPinLaw", "pick", "(III)I"⟩ : MethodName)) hown (mvT hZ (hw _ (List.mem_of_getElem? (i := 0) rfl))) (mvT hZ (hw _ (List.mem_of_getElem? (i := 1) rfl))) (mvT hZ (hw _ (List.mem_of_getElem? (i := 2) rfl))) (mvT hZ (hw _ (List.mem_of_getElem? (i := 3) rfl))) (by decide) (backOf (W := 0) (rm1 l Z a0 hw [] p2 (2 : Int32) p5 h0 n0) hZ (hw _ (List.mem_of_getElem? (i := 3) rfl)) (hw _ (List.mem_of_getElem? (i := 2) rfl)) (by decide) (by decide)) (g := (mkF m 28 #[.val (.int p1), .val (.int p2), .val (.int p3), .val (.int p4), .val (.int p5), .val (.int p6), .val (.int (3 : Int32)), .val (.int (own_pick p2 (0 : Int32) p3)), .val (.int (own_pick p2 (1 : Int32) p4)), .unset, .unset, .unset, .unset, .unset] [(.int p5), (.int (2 : Int32)), (.int p2)])) rfl (by rw [hml]; rfl) (argsL := [(.int p2), (.int (2 : Int32)), (.int p5)]) (rest := []) (lenOf pd_0 rfl) rfl (by show 2 * 0 + _ ≤ _; exact Nat.le_of_eq rfl) (hb hby at_28) (fun _ _ => ⟨rfl, e41, (by decide : 0 + 0 ≤ _), (by decide : 0 + 0 ≤ _)⟩)
    dsimp only [Pt.U, Pt.locs, Pt.cells, Pt.slots] at X42 l42 y42 z42 st42 hQ42
    subst l42 y42 z42
    obtain ⟨rfl, N42q, e42⟩ := hQ42
    have N42 := Fr.app N41 N42q
    refine Gl.st st42 ?_
    show Gl _ _ _ _ _ _ _ (T42.setTop (mkF m 31 #[.val (.int p1), .val (.int p2), .val (.int p3), .val (.int p4), .val (.int p5), .val (.int p6), .val (.int (3 : Int32)), .val (.int (own_pick p2 (0 : Int32) p3)), .val (.int (own_pick p2 (1 : Int32) p4)), .unset, .unset, .unset, .unset, .unset] [(.int (own_pick p2 (2 : Int32) p5))]))
    refine Gl.st (fun t k => XS.istore X42.here hx rfl (hb hby at_31) rfl (l' := #[.val (.int p1), .val (.int p2), .val (.int p3), .val (.int p4), .val (.int p5), .val (.int p6), .val (.int (3 : Int32)), .val (.int (own_pick p2 (0 : Int32) p3)), .val (.int (own_pick p2 (1 : Int32) p4)), .val (.int (own_pick p2 (2 : Int32) p5)), .unset, .unset, .unset, .unset]) rfl k) ?_
    show Gl _ _ _ _ _ _ _ (T42.setTop (mkF m 33 #[.val (.int p1), .val (.int p2), .val (.int p3), .val (.int p4), .val (.int p5), .val (.int p6), .val (.int (3 : Int32)), .val (.int (own_pick p2 (0 : Int32) p3)), .val (.int (own_pick p2 (1 : Int32) p4)), .val (.int (own_pick p2 (2 : Int32) p5)), .unset, .unset, .unset, .unset] []))
    refine Gl.st (fun t k => XS.iloadN X42.here hx rfl (hb hby at_33) rfl  k) ?_
    show Gl _ _ _ _ _ _ _ (T42.setTop (mkF m 34 #[.val (.int p1), .val (.int p2), .val (.int p3), .val (.int p4), .val (.int p5), .val (.int p6), .val (.int (3 : Int32)), .val (.int (own_pick p2 (0 : Int32) p3)), .val (.int (own_pick p2 (1 : Int32) p4)), .val (.int (own_pick p2 (2 : Int32) p5)), .unset, .unset, .unset, .unset] [(.int p2)]))
    refine Gl.st (fun t k => XS.iconst X42.here hx rfl (hb hby at_34) k) ?_
    show Gl _ _ _ _ _ _ _ (T42.setTop (mkF m 35 #[.val (.int p1), .val (.int p2), .val (.int p3), .val (.int p4), .val (.int p5), .val (.int p6), .val (.int (3 : Int32)), .val (.int (own_pick p2 (0 : Int32) p3)), .val (.int (own_pick p2 (1 : Int32) p4)), .val (.int (own_pick p2 (2 : Int32) p5)), .unset, .unset, .unset, .unset] [(.int (3 : Int32)), (.int p2)]))
    refine Gl.st (fun t k => XS.iload X42.here hx rfl (hb hby at_35) rfl  k) ?_
    show Gl _ _ _ _ _ _ _ (T42.setTop (mkF m 37 #[.val (.int p1), .val (.int p2), .val (.int p3), .val (.int p4), .val (.int p5), .val (.int p6), .val (.int (3 : Int32)), .val (.int (own_pick p2 (0 : Int32) p3)), .val (.int (own_pick p2 (1 : Int32) p4)), .val (.int (own_pick p2 (2 : Int32) p5)), .unset, .unset, .unset, .unset] [(.int p6), (.int (3 : Int32)), (.int p2)]))
    obtain ⟨_, _, ⟨T43, L43, k43, n43⟩, -, X43, ⟨Lc43, hQ43, l43, y43, z43⟩, st43⟩ := Jvm.LawKit.callS X42 hx (y := (⟨"com/example/enact/enact/engine/MarkingIsEmptyPinLaw", "pick", "(III)I"⟩ : MethodName)) hown (mvT hZ (hw _ (List.mem_of_getElem? (i := 0) rfl))) (mvT hZ (hw _ (List.mem_of_getElem? (i := 1) rfl))) (mvT hZ (hw _ (List.mem_of_getElem? (i := 2) rfl))) (mvT hZ (hw _ (List.mem_of_getElem? (i := 3) rfl))) (by decide) (backOf (W := 0) (rm1 l Z a0 hw [] p2 (3 : Int32) p6 h0 n0) hZ (hw _ (List.mem_of_getElem? (i := 3) rfl)) (hw _ (List.mem_of_getElem? (i := 2) rfl)) (by decide) (by decide)) (g := (mkF m 37 #[.val (.int p1), .val (.int p2), .val (.int p3), .val (.int p4), .val (.int p5), .val (.int p6), .val (.int (3 : Int32)), .val (.int (own_pick p2 (0 : Int32) p3)), .val (.int (own_pick p2 (1 : Int32) p4)), .val (.int (own_pick p2 (2 : Int32) p5)), .unset, .unset, .unset, .unset] [(.int p6), (.int (3 : Int32)), (.int p2)])) rfl (by rw [hml]; rfl) (argsL := [(.int p2), (.int (3 : Int32)), (.int p6)]) (rest := []) (lenOf pd_0 rfl) rfl (by show 2 * 0 + _ ≤ _; exact Nat.le_of_eq rfl) (hb hby at_37) (fun _ _ => ⟨rfl, e42, (by decide : 0 + 0 ≤ _), (by decide : 0 + 0 ≤ _)⟩)
    dsimp only [Pt.U, Pt.locs, Pt.cells, Pt.slots] at X43 l43 y43 z43 st43 hQ43
    subst l43 y43 z43
    obtain ⟨rfl, N43q, e43⟩ := hQ43
    have N43 := Fr.app N42 N43q
    refine Gl.st st43 ?_
    show Gl _ _ _ _ _ _ _ (T43.setTop (mkF m 40 #[.val (.int p1), .val (.int p2), .val (.int p3), .val (.int p4), .val (.int p5), .val (.int p6), .val (.int (3 : Int32)), .val (.int (own_pick p2 (0 : Int32) p3)), .val (.int (own_pick p2 (1 : Int32) p4)), .val (.int (own_pick p2 (2 : Int32) p5)), .unset, .unset, .unset, .unset] [(.int (own_pick p2 (3 : Int32) p6))]))
    refine Gl.st (fun t k => XS.istore X43.here hx rfl (hb hby at_40) rfl (l' := #[.val (.int p1), .val (.int p2), .val (.int p3), .val (.int p4), .val (.int p5), .val (.int p6), .val (.int (3 : Int32)), .val (.int (own_pick p2 (0 : Int32) p3)), .val (.int (own_pick p2 (1 : Int32) p4)), .val (.int (own_pick p2 (2 : Int32) p5)), .val (.int (own_pick p2 (3 : Int32) p6)), .unset, .unset, .unset]) rfl k) ?_
    show Gl _ _ _ _ _ _ _ (T43.setTop (mkF m 42 #[.val (.int p1), .val (.int p2), .val (.int p3), .val (.int p4), .val (.int p5), .val (.int p6), .val (.int (3 : Int32)), .val (.int (own_pick p2 (0 : Int32) p3)), .val (.int (own_pick p2 (1 : Int32) p4)), .val (.int (own_pick p2 (2 : Int32) p5)), .val (.int (own_pick p2 (3 : Int32) p6)), .unset, .unset, .unset] []))
    refine Gl.st (fun t k => XS.iload X43.here hx rfl (hb hby at_42) rfl  k) ?_
    show Gl _ _ _ _ _ _ _ (T43.setTop (mkF m 44 #[.val (.int p1), .val (.int p2), .val (.int p3), .val (.int p4), .val (.int p5), .val (.int p6), .val (.int (3 : Int32)), .val (.int (own_pick p2 (0 : Int32) p3)), .val (.int (own_pick p2 (1 : Int32) p4)), .val (.int (own_pick p2 (2 : Int32) p5)), .val (.int (own_pick p2 (3 : Int32) p6)), .unset, .unset, .unset] [(.int (3 : Int32))]))
    obtain ⟨T44, h44, k44, X44, e44, E44, A44, st44⟩ := newP X43 hx hZ (hw _ (List.mem_of_getElem? (i := 5) rfl)) e43 (g := (mkF m 44 #[.val (.int p1), .val (.int p2), .val (.int p3), .val (.int p4), .val (.int p5), .val (.int p6), .val (.int (3 : Int32)), .val (.int (own_pick p2 (0 : Int32) p3)), .val (.int (own_pick p2 (1 : Int32) p4)), .val (.int (own_pick p2 (2 : Int32) p5)), .val (.int (own_pick p2 (3 : Int32) p6)), .unset, .unset, .unset] [(.int (3 : Int32))])) rfl (hb hby at_44) rfl (by decide) (cap := 3) (by decide) (by decide) (by decide) (by decide)
    obtain ⟨b44, g44⟩ : ∃ z, z = h0.size := ⟨_, rfl⟩
    rw [← g44] at A44 st44
    refine Gl.st st44 ?_
    have gzb44 : n0 ≤ b44 := Nat.le_trans Z0 (Nat.le_of_eq g44.symm)
    have Z44 : n0 ≤ h44.size := Nat.le_trans Z0 E44.1
    have V44 : Arv Z h44 b44 k44 .int (3 : Int32) [(.int (0 : Int32)), (.int (0 : Int32)), (.int (0 : Int32))] (.int (0 : Int32)) := (Arv.new A44 (by decide)).pad (pad_rep [] (.int (0 : Int32)) 3)
    show Gl _ _ _ _ _ _ _ (T44.setTop (mkF m 46 #[.val (.int p1), .val (.int p2), .val (.int p3), .val (.int p4), .val (.int p5), .val (.int p6), .val (.int (3 : Int32)), .val (.int (own_pick p2 (0 : Int32) p3)), .val (.int (own_pick p2 (1 : Int32) p4)), .val (.int (own_pick p2 (2 : Int32) p5)), .val (.int (own_pick p2 (3 : Int32) p6)), .unset, .unset, .unset] [(.ref b44)]))
    refine Gl.st (fun t k => XS.astore X44.here hx rfl (hb hby at_46) rfl rfl (l' := #[.val (.int p1), .val (.int p2), .val (.int p3), .val (.int p4), .val (.int p5), .val (.int p6), .val (.int (3 : Int32)), .val (.int (own_pick p2 (0 : Int32) p3)), .val (.int (own_pick p2 (1 : Int32) p4)), .val (.int (own_pick p2 (2 : Int32) p5)), .val (.int (own_pick p2 (3 : Int32) p6)), .val (.ref b44), .unset, .unset]) rfl k) ?_
    show Gl _ _ _ _ _ _ _ (T44.setTop (mkF m 48 #[.val (.int p1), .val (.int p2), .val (.int p3), .val (.int p4), .val (.int p5), .val (.int p6), .val (.int (3 : Int32)), .val (.int (own_pick p2 (0 : Int32) p3)), .val (.int (own_pick p2 (1 : Int32) p4)), .val (.int (own_pick p2 (2 : Int32) p5)), .val (.int (own_pick p2 (3 : Int32) p6)), .val (.ref b44), .unset, .unset] []))
    refine Gl.st (fun t k => XS.iload X44.here hx rfl (hb hby at_48) rfl  k) ?_
    show Gl _ _ _ _ _ _ _ (T44.setTop (mkF m 50 #[.val (.int p1), .val (.int p2), .val (.int p3), .val (.int p4), .val (.int p5), .val (.int p6), .val (.int (3 : Int32)), .val (.int (own_pick p2 (0 : Int32) p3)), .val (.int (own_pick p2 (1 : Int32) p4)), .val (.int (own_pick p2 (2 : Int32) p5)), .val (.int (own_pick p2 (3 : Int32) p6)), .val (.ref b44), .unset, .unset] [(.int (3 : Int32))]))
    refine Gl.st (fun t k => XS.ifNo X44.here hx rfl (hb hby at_50) rfl ((if0 _ _).trans (tlt (by decide : (0 : Int32) < (3 : Int32))).2.2.2) k) ?_
    show Gl _ _ _ _ _ _ _ (T44.setTop (mkF m 53 #[.val (.int p1), .val (.int p2), .val (.int p3), .val (.int p4), .val (.int p5), .val (.int p6), .val (.int (3 : Int32)), .val (.int (own_pick p2 (0 : Int32) p3)), .val (.int (own_pick p2 (1 : Int32) p4)), .val (.int (own_pick p2 (2 : Int32) p5)), .val (.int (own_pick p2 (3 : Int32) p6)), .val (.ref b44), .unset, .unset] []))
    refine Gl.st (fun t k => XS.aload X44.here hx rfl (hb hby at_53) rfl rfl k) ?_
    show Gl _ _ _ _ _ _ _ (T44.setTop (mkF m 55 #[.val (.int p1), .val (.int p2), .val (.int p3), .val (.int p4), .val (.int p5), .val (.int p6), .val (.int (3 : Int32)), .val (.int (own_pick p2 (0 : Int32) p3)), .val (.int (own_pick p2 (1 : Int32) p4)), .val (.int (own_pick p2 (2 : Int32) p5)), .val (.int (own_pick p2 (3 : Int32) p6)), .val (.ref b44), .unset, .unset] [(.ref b44)]))
    refine Gl.st (fun t k => XS.iconst X44.here hx rfl (hb hby at_55) k) ?_
    show Gl _ _ _ _ _ _ _ (T44.setTop (mkF m 56 #[.val (.int p1), .val (.int p2), .val (.int p3), .val (.int p4), .val (.int p5), .val (.int p6), .val (.int (3 : Int32)), .val (.int (own_pick p2 (0 : Int32) p3)), .val (.int (own_pick p2 (1 : Int32) p4)), .val (.int (own_pick p2 (2 : Int32) p5)), .val (.int (own_pick p2 (3 : Int32) p6)), .val (.ref b44), .unset, .unset] [(.int (0 : Int32)), (.ref b44)]))
    refine Gl.st (fun t k => XS.iload X44.here hx rfl (hb hby at_56) rfl  k) ?_
    show Gl _ _ _ _ _ _ _ (T44.setTop (mkF m 58 #[.val (.int p1), .val (.int p2), .val (.int p3), .val (.int p4), .val (.int p5), .val (.int p6), .val (.int (3 : Int32)), .val (.int (own_pick p2 (0 : Int32) p3)), .val (.int (own_pick p2 (1 : Int32) p4)), .val (.int (own_pick p2 (2 : Int32) p5)), .val (.int (own_pick p2 (3 : Int32) p6)), .val (.ref b44), .unset, .unset] [(.int (own_pick p2 (0 : Int32) p3)), (.int (0 : Int32)), (.ref b44)]))
    have Vx45 := V44
    obtain ⟨cl45, Ar45, qk45, S45, M45, H45, G45⟩ := Vx45
    have hin45 : ¬ ((0 : Int32) < 0 ∨ cl45.slots.size ≤ ((0 : Int32)).toNatClampNeg) := inb_of S45 ⟨by decide, by decide⟩
    obtain ⟨T45, h45, X45, e45, W45, st45⟩ := stI X44 hx hZ e44 Ar45 (j := (0 : Int32)) hin45 (g := (mkF m 58 #[.val (.int p1), .val (.int p2), .val (.int p3), .val (.int p4), .val (.int p5), .val (.int p6), .val (.int (3 : Int32)), .val (.int (own_pick p2 (0 : Int32) p3)), .val (.int (own_pick p2 (1 : Int32) p4)), .val (.int (own_pick p2 (2 : Int32) p5)), .val (.int (own_pick p2 (3 : Int32) p6)), .val (.ref b44), .unset, .unset] [(.int (own_pick p2 (0 : Int32) p3)), (.int (0 : Int32)), (.ref b44)])) rfl rfl (hb hby at_58)
    refine Gl.st st45 ?_
    have Z45 : n0 ≤ h45.size := Nat.le_trans Z44 (Keep.of_wr W45).1
    have N45 := Fr.snoc X45 N43 gzb44
    have V45 : Arv Z h45 b44 k44 .int (3 : Int32) [(.int (own_pick p2 (0 : Int32) p3)), (.int (0 : Int32)), (.int (0 : Int32))] (.int (0 : Int32)) := Arv.set Ar45 qk45 S45 M45 H45 G45 rfl W45 0 rfl (Nat.le_of_ble_eq_true rfl)
    show Gl _ _ _ _ _ _ _ (T45.setTop (mkF m 59 #[.val (.int p1), .val (.int p2), .val (.int p3), .val (.int p4), .val (.int p5), .val (.int p6), .val (.int (3 : Int32)), .val (.int (own_pick p2 (0 : Int32) p3)), .val (.int (own_pick p2 (1 : Int32) p4)), .val (.int (own_pick p2 (2 : Int32) p5)), .val (.int (own_pick p2 (3 : Int32) p6)), .val (.ref b44), .unset, .unset] []))
    refine Gl.st (fun t k => XS.iload X45.here hx rfl (hb hby at_59) rfl  k) ?_
    show Gl _ _ _ _ _ _ _ (T45.setTop (mkF m 61 #[.val (.int p1), .val (.int p2), .val (.int p3), .val (.int p4), .val (.int p5), .val (.int p6), .val (.int (3 : Int32)), .val (.int (own_pick p2 (0 : Int32) p3)), .val (.int (own_pick p2 (1 : Int32) p4)), .val (.int (own_pick p2 (2 : Int32) p5)), .val (.int (own_pick p2 (3 : Int32) p6)), .val (.ref b44), .unset, .unset] [(.int (3 : Int32))]))
    refine Gl.st (fun t k => XS.iconst X45.here hx rfl (hb hby at_61) k) ?_
    show Gl _ _ _ _ _ _ _ (T45.setTop (mkF m 62 #[.val (.int p1), .val (.int p2), .val (.int p3), .val (.int p4), .val (.int p5), .val (.int p6), .val (.int (3 : Int32)), .val (.int (own_pick p2 (0 : Int32) p3)), .val (.int (own_pick p2 (1 : Int32) p4)), .val (.int (own_pick p2 (2 : Int32) p5)), .val (.int (own_pick p2 (3 : Int32) p6)), .val (.ref b44), .unset, .unset] [(.int (1 : Int32)), (.int (3 : Int32))]))
    refine Gl.st (fun t k => XS.icmpNo X45.here hx rfl (hb hby at_62) rfl (tlt (by decide : (1 : Int32) < (3 : Int32))).2.2.2 k) ?_
    show Gl _ _ _ _ _ _ _ (T45.setTop (mkF m 65 #[.val (.int p1), .val (.int p2), .val (.int p3), .val (.int p4), .val (.int p5), .val (.int p6), .val (.int (3 : Int32)), .val (.int (own_pick p2 (0 : Int32) p3)), .val (.int (own_pick p2 (1 : Int32) p4)), .val (.int (own_pick p2 (2 : Int32) p5)), .val (.int (own_pick p2 (3 : Int32) p6)), .val (.ref b44), .unset, .unset] []))
    refine Gl.st (fun t k => XS.aload X45.here hx rfl (hb hby at_65) rfl rfl k) ?_
    show Gl _ _ _ _ _ _ _ (T45.setTop (mkF m 67 #[.val (.int p1), .val (.int p2), .val (.int p3), .val (.int p4), .val (.int p5), .val (.int p6), .val (.int (3 : Int32)), .val (.int (own_pick p2 (0 : Int32) p3)), .val (.int (own_pick p2 (1 : Int32) p4)), .val (.int (own_pick p2 (2 : Int32) p5)), .val (.int (own_pick p2 (3 : Int32) p6)), .val (.ref b44), .unset, .unset] [(.ref b44)]))
    refine Gl.st (fun t k => XS.iconst X45.here hx rfl (hb hby at_67) k) ?_
    show Gl _ _ _ _ _ _ _ (T45.setTop (mkF m 68 #[.val (.int p1), .val (.int p2), .val (.int p3), .val (.int p4), .val (.int p5), .val (.int p6), .val (.int (3 : Int32)), .val (.int (own_pick p2 (0 : Int32) p3)), .val (.int (own_pick p2 (1 : Int32) p4)), .val (.int (own_pick p2 (2 : Int32) p5)), .val (.int (own_pick p2 (3 : Int32) p6)), .val (.ref b44), .unset, .unset] [(.int (1 : Int32)), (.ref b44)]))
    refine Gl.st (fun t k => XS.iload X45.here hx rfl (hb hby at_68) rfl  k) ?_
    show Gl _ _ _ _ _ _ _ (T45.setTop (mkF m 70 #[.val (.int p1), .val (.int p2), .val (.int p3), .val (.int p4), .val (.int p5), .val (.int p6), .val (.int (3 : Int32)), .val (.int (own_pick p2 (0 : Int32) p3)), .val (.int (own_pick p2 (1 : Int32) p4)), .val (.int (own_pick p2 (2 : Int32) p5)), .val (.int (own_pick p2 (3 : Int32) p6)), .val (.ref b44), .unset, .unset] [(.int (own_pick p2 (1 : Int32) p4)), (.int (1 : Int32)), (.ref b44)]))
    have Vx46 := V45
    obtain ⟨cl46, Ar46, qk46, S46, M46, H46, G46⟩ := Vx46
    have hin46 : ¬ ((1 : Int32) < 0 ∨ cl46.slots.size ≤ ((1 : Int32)).toNatClampNeg) := inb_of S46 ⟨by decide, by decide⟩
    obtain ⟨T46, h46, X46, e46, W46, st46⟩ := stI X45 hx hZ e45 Ar46 (j := (1 : Int32)) hin46 (g := (mkF m 70 #[.val (.int p1), .val (.int p2), .val (.int p3), .val (.int p4), .val (.int p5), .val (.int p6), .val (.int (3 : Int32)), .val (.int (own_pick p2 (0 : Int32) p3)), .val (.int (own_pick p2 (1 : Int32) p4)), .val (.int (own_pick p2 (2 : Int32) p5)), .val (.int (own_pick p2 (3 : Int32) p6)), .val (.ref b44), .unset, .unset] [(.int (own_pick p2 (1 : Int32) p4)), (.int (1 : Int32)), (.ref b44)])) rfl rfl (hb hby at_70)
    refine Gl.st st46 ?_
    have Z46 : n0 ≤ h46.size := Nat.le_trans Z45 (Keep.of_wr W46).1
    have N46 := Fr.snoc X46 N45 gzb44
    have V46 : Arv Z h46 b44 k44 .int (3 : Int32) [(.int (own_pick p2 (0 : Int32) p3)), (.int (own_pick p2 (1 : Int32) p4)), (.int (0 : Int32))] (.int (0 : Int32)) := Arv.set Ar46 qk46 S46 M46 H46 G46 rfl W46 1 rfl (Nat.le_of_ble_eq_true rfl)
    show Gl _ _ _ _ _ _ _ (T46.setTop (mkF m 71 #[.val (.int p1), .val (.int p2), .val (.int p3), .val (.int p4), .val (.int p5), .val (.int p6), .val (.int (3 : Int32)), .val (.int (own_pick p2 (0 : Int32) p3)), .val (.int (own_pick p2 (1 : Int32) p4)), .val (.int (own_pick p2 (2 : Int32) p5)), .val (.int (own_pick p2 (3 : Int32) p6)), .val (.ref b44), .unset, .unset] []))
    refine Gl.st (fun t k => XS.iload X46.here hx rfl (hb hby at_71) rfl  k) ?_
    show Gl _ _ _ _ _ _ _ (T46.setTop (mkF m 73 #[.val (.int p1), .val (.int p2), .val (.int p3), .val (.int p4), .val (.int p5), .val (.int p6), .val (.int (3 : Int32)), .val (.int (own_pick p2 (0 : Int32) p3)), .val (.int (own_pick p2 (1 : Int32) p4)), .val (.int (own_pick p2 (2 : Int32) p5)), .val (.int (own_pick p2 (3 : Int32) p6)), .val (.ref b44), .unset, .unset] [(.int (3 : Int32))]))
    refine Gl.st (fun t k => XS.iconst X46.here hx rfl (hb hby at_73) k) ?_
    show Gl _ _ _ _ _ _ _ (T46.setTop (mkF m 74 #[.val (.int p1), .val (.int p2), .val (.int p3), .val (.int p4), .val (.int p5), .val (.int p6), .val (.int (3 : Int32)), .val (.int (own_pick p2 (0 : Int32) p3)), .val (.int (own_pick p2 (1 : Int32) p4)), .val (.int (own_pick p2 (2 : Int32) p5)), .val (.int (own_pick p2 (3 : Int32) p6)), .val (.ref b44), .unset, .unset] [(.int (2 : Int32)), (.int (3 : Int32))]))
    refine Gl.st (fun t k => XS.icmpNo X46.here hx rfl (hb hby at_74) rfl (tlt (by decide : (2 : Int32) < (3 : Int32))).2.2.2 k) ?_
    show Gl _ _ _ _ _ _ _ (T46.setTop (mkF m 77 #[.val (.int p1), .val (.int p2), .val (.int p3), .val (.int p4), .val (.int p5), .val (.int p6), .val (.int (3 : Int32)), .val (.int (own_pick p2 (0 : Int32) p3)), .val (.int (own_pick p2 (1 : Int32) p4)), .val (.int (own_pick p2 (2 : Int32) p5)), .val (.int (own_pick p2 (3 : Int32) p6)), .val (.ref b44), .unset, .unset] []))
    refine Gl.st (fun t k => XS.aload X46.here hx rfl (hb hby at_77) rfl rfl k) ?_
    show Gl _ _ _ _ _ _ _ (T46.setTop (mkF m 79 #[.val (.int p1), .val (.int p2), .val (.int p3), .val (.int p4), .val (.int p5), .val (.int p6), .val (.int (3 : Int32)), .val (.int (own_pick p2 (0 : Int32) p3)), .val (.int (own_pick p2 (1 : Int32) p4)), .val (.int (own_pick p2 (2 : Int32) p5)), .val (.int (own_pick p2 (3 : Int32) p6)), .val (.ref b44), .unset, .unset] [(.ref b44)]))
    refine Gl.st (fun t k => XS.iconst X46.here hx rfl (hb hby at_79) k) ?_
    show Gl _ _ _ _ _ _ _ (T46.setTop (mkF m 80 #[.val (.int p1), .val (.int p2), .val (.int p3), .val (.int p4), .val (.int p5), .val (.int p6), .val (.int (3 : Int32)), .val (.int (own_pick p2 (0 : Int32) p3)), .val (.int (own_pick p2 (1 : Int32) p4)), .val (.int (own_pick p2 (2 : Int32) p5)), .val (.int (own_pick p2 (3 : Int32) p6)), .val (.ref b44), .unset, .unset] [(.int (2 : Int32)), (.ref b44)]))
    refine Gl.st (fun t k => XS.iload X46.here hx rfl (hb hby at_80) rfl  k) ?_
    show Gl _ _ _ _ _ _ _ (T46.setTop (mkF m 82 #[.val (.int p1), .val (.int p2), .val (.int p3), .val (.int p4), .val (.int p5), .val (.int p6), .val (.int (3 : Int32)), .val (.int (own_pick p2 (0 : Int32) p3)), .val (.int (own_pick p2 (1 : Int32) p4)), .val (.int (own_pick p2 (2 : Int32) p5)), .val (.int (own_pick p2 (3 : Int32) p6)), .val (.ref b44), .unset, .unset] [(.int (own_pick p2 (2 : Int32) p5)), (.int (2 : Int32)), (.ref b44)]))
    have Vx47 := V46
    obtain ⟨cl47, Ar47, qk47, S47, M47, H47, G47⟩ := Vx47
    have hin47 : ¬ ((2 : Int32) < 0 ∨ cl47.slots.size ≤ ((2 : Int32)).toNatClampNeg) := inb_of S47 ⟨by decide, by decide⟩
    obtain ⟨T47, h47, X47, e47, W47, st47⟩ := stI X46 hx hZ e46 Ar47 (j := (2 : Int32)) hin47 (g := (mkF m 82 #[.val (.int p1), .val (.int p2), .val (.int p3), .val (.int p4), .val (.int p5), .val (.int p6), .val (.int (3 : Int32)), .val (.int (own_pick p2 (0 : Int32) p3)), .val (.int (own_pick p2 (1 : Int32) p4)), .val (.int (own_pick p2 (2 : Int32) p5)), .val (.int (own_pick p2 (3 : Int32) p6)), .val (.ref b44), .unset, .unset] [(.int (own_pick p2 (2 : Int32) p5)), (.int (2 : Int32)), (.ref b44)])) rfl rfl (hb hby at_82)
    refine Gl.st st47 ?_
    have Z47 : n0 ≤ h47.size := Nat.le_trans Z46 (Keep.of_wr W47).1
    have N47 := Fr.snoc X47 N46 gzb44
    have V47 : Arv Z h47 b44 k44 .int (3 : Int32) [(.int (own_pick p2 (0 : Int32) p3)), (.int (own_pick p2 (1 : Int32) p4)), (.int (own_pick p2 (2 : Int32) p5))] (.int (0 : Int32)) := Arv.set Ar47 qk47 S47 M47 H47 G47 rfl W47 2 rfl (Nat.le_of_ble_eq_true rfl)
    show Gl _ _ _ _ _ _ _ (T47.setTop (mkF m 83 #[.val (.int p1), .val (.int p2), .val (.int p3), .val (.int p4), .val (.int p5), .val (.int p6), .val (.int (3 : Int32)), .val (.int (own_pick p2 (0 : Int32) p3)), .val (.int (own_pick p2 (1 : Int32) p4)), .val (.int (own_pick p2 (2 : Int32) p5)), .val (.int (own_pick p2 (3 : Int32) p6)), .val (.ref b44), .unset, .unset] []))
    refine Gl.st (fun t k => XS.iload X47.here hx rfl (hb hby at_83) rfl  k) ?_
    show Gl _ _ _ _ _ _ _ (T47.setTop (mkF m 85 #[.val (.int p1), .val (.int p2), .val (.int p3), .val (.int p4), .val (.int p5), .val (.int p6), .val (.int (3 : Int32)), .val (.int (own_pick p2 (0 : Int32) p3)), .val (.int (own_pick p2 (1 : Int32) p4)), .val (.int (own_pick p2 (2 : Int32) p5)), .val (.int (own_pick p2 (3 : Int32) p6)), .val (.ref b44), .unset, .unset] [(.int (3 : Int32))]))
    refine Gl.st (fun t k => XS.iconst X47.here hx rfl (hb hby at_85) k) ?_
    show Gl _ _ _ _ _ _ _ (T47.setTop (mkF m 86 #[.val (.int p1), .val (.int p2), .val (.int p3), .val (.int p4), .val (.int p5), .val (.int p6), .val (.int (3 : Int32)), .val (.int (own_pick p2 (0 : Int32) p3)), .val (.int (own_pick p2 (1 : Int32) p4)), .val (.int (own_pick p2 (2 : Int32) p5)), .val (.int (own_pick p2 (3 : Int32) p6)), .val (.ref b44), .unset, .unset] [(.int (3 : Int32)), (.int (3 : Int32))]))
    refine Gl.st (fun t k => XS.icmpYes X47.here hx rfl (pc0 := 86) (pc' := 95) rfl (hb hby at_86) rfl (flt (by decide : ¬ ((3 : Int32) < (3 : Int32)))).2.2.2 (by decide) (by decide) k) ?_
    show Gl _ _ _ _ _ _ _ (T47.setTop (mkF m 95 #[.val (.int p1), .val (.int p2), .val (.int p3), .val (.int p4), .val (.int p5), .val (.int p6), .val (.int (3 : Int32)), .val (.int (own_pick p2 (0 : Int32) p3)), .val (.int (own_pick p2 (1 : Int32) p4)), .val (.int (own_pick p2 (2 : Int32) p5)), .val (.int (own_pick p2 (3 : Int32) p6)), .val (.ref b44), .unset, .unset] []))
    refine Gl.st (fun t k => XS.iconst X47.here hx rfl (hb hby at_95) k) ?_
    show Gl _ _ _ _ _ _ _ (T47.setTop (mkF m 96 #[.val (.int p1), .val (.int p2), .val (.int p3), .val (.int p4), .val (.int p5), .val (.int p6), .val (.int (3 : Int32)), .val (.int (own_pick p2 (0 : Int32) p3)), .val (.int (own_pick p2 (1 : Int32) p4)), .val (.int (own_pick p2 (2 : Int32) p5)), .val (.int (own_pick p2 (3 : Int32) p6)), .val (.ref b44), .unset, .unset] [(.int (1 : Int32))]))
    refine Gl.st (fun t k => XS.istore X47.here hx rfl (hb hby at_96) rfl (l' := #[.val (.int p1), .val (.int p2), .val (.int p3), .val (.int p4), .val (.int p5), .val (.int p6), .val (.int (3 : Int32)), .val (.int (own_pick p2 (0 : Int32) p3)), .val (.int (own_pick p2 (1 : Int32) p4)), .val (.int (own_pick p2 (2 : Int32) p5)), .val (.int (own_pick p2 (3 : Int32) p6)), .val (.ref b44), .val (.int (1 : Int32)), .unset]) rfl k) ?_
    show Gl _ _ _ _ _ _ _ (T47.setTop (mkF m 98 #[.val (.int p1), .val (.int p2), .val (.int p3), .val (.int p4), .val (.int p5), .val (.int p6), .val (.int (3 : Int32)), .val (.int (own_pick p2 (0 : Int32) p3)), .val (.int (own_pick p2 (1 : Int32) p4)), .val (.int (own_pick p2 (2 : Int32) p5)), .val (.int (own_pick p2 (3 : Int32) p6)), .val (.ref b44), .val (.int (1 : Int32)), .unset] []))
    refine Gl.st (fun t k => XS.iload X47.here hx rfl (hb hby at_98) rfl  k) ?_
    show Gl _ _ _ _ _ _ _ (T47.setTop (mkF m 100 #[.val (.int p1), .val (.int p2), .val (.int p3), .val (.int p4), .val (.int p5), .val (.int p6), .val (.int (3 : Int32)), .val (.int (own_pick p2 (0 : Int32) p3)), .val (.int (own_pick p2 (1 : Int32) p4)), .val (.int (own_pick p2 (2 : Int32) p5)), .val (.int (own_pick p2 (3 : Int32) p6)), .val (.ref b44), .val (.int (1 : Int32)), .unset] [(.int (3 : Int32))]))
    refine Gl.st (fun t k => XS.ifNo X47.here hx rfl (hb hby at_100) rfl ((if0 _ _).trans (tlt (by decide : (0 : Int32) < (3 : Int32))).2.2.2) k) ?_
    show Gl _ _ _ _ _ _ _ (T47.setTop (mkF m 103 #[.val (.int p1), .val (.int p2), .val (.int p3), .val (.int p4), .val (.int p5), .val (.int p6), .val (.int (3 : Int32)), .val (.int (own_pick p2 (0 : Int32) p3)), .val (.int (own_pick p2 (1 : Int32) p4)), .val (.int (own_pick p2 (2 : Int32) p5)), .val (.int (own_pick p2 (3 : Int32) p6)), .val (.ref b44), .val (.int (1 : Int32)), .unset] []))
    refine Gl.st (fun t k => XS.iload X47.here hx rfl (hb hby at_103) rfl  k) ?_
    show Gl _ _ _ _ _ _ _ (T47.setTop (mkF m 105 #[.val (.int p1), .val (.int p2), .val (.int p3), .val (.int p4), .val (.int p5), .val (.int p6), .val (.int (3 : Int32)), .val (.int (own_pick p2 (0 : Int32) p3)), .val (.int (own_pick p2 (1 : Int32) p4)), .val (.int (own_pick p2 (2 : Int32) p5)), .val (.int (own_pick p2 (3 : Int32) p6)), .val (.ref b44), .val (.int (1 : Int32)), .unset] [(.int (own_pick p2 (0 : Int32) p3))]))
    have J48 : ∀ (Tj48 : State) (Lj48 : List Loc) (Xj48 : Stand p l e room_1 s m #[(.int p1), (.int p2), (.int p3), (.int p4), (.int p5), (.int p6)] below meth c Tj48 Lj48 1 3) (ej48 : Tj48.heap = h47) (Nj48 : Fr n0 Lj48) (z111l12 : Int32) (hz111l12 : z111l12 = (if (own_pick p2 (0 : Int32) p3) = (0 : Int32) then (1 : Int32) else (0 : Int32))), Gl p e below s (Q0 Z p1 p2 p3 p4 p5 p6 h0 n0) room_1.cells room_1.slots (Tj48.setTop (mkF m 111 #[.val (.int p1), .val (.int p2), .val (.int p3), .val (.int p4), .val (.int p5), .val (.int p6), .val (.int (3 : Int32)), .val (.int (own_pick p2 (0 : Int32) p3)), .val (.int (own_pick p2 (1 : Int32) p4)), .val (.int (own_pick p2 (2 : Int32) p5)), .val (.int (own_pick p2 (3 : Int32) p6)), .val (.ref b44), .val (.int z111l12), .unset] [])) := by
      intro Tj48 Lj48 Xj48 ej48 Nj48 z111l12 hz111l12
      show Gl _ _ _ _ _ _ _ (Tj48.setTop (mkF m 111 #[.val (.int p1), .val (.int p2), .val (.int p3), .val (.int p4), .val (.int p5), .val (.int p6), .val (.int (3 : Int32)), .val (.int (own_pick p2 (0 : Int32) p3)), .val (.int (own_pick p2 (1 : Int32) p4)), .val (.int (own_pick p2 (2 : Int32) p5)), .val (.int (own_pick p2 (3 : Int32) p6)), .val (.ref b44), .val (.int z111l12), .unset] []))
      refine Gl.st (fun t k => XS.iload Xj48.here hx rfl (hb hby at_111) rfl  k) ?_
      show Gl _ _ _ _ _ _ _ (Tj48.setTop (mkF m 113 #[.val (.int p1), .val (.int p2), .val (.int p3), .val (.int p4), .val (.int p5), .val (.int p6), .val (.int (3 : Int32)), .val (.int (own_pick p2 (0 : Int32) p3)), .val (.int (own_pick p2 (1 : Int32) p4)), .val (.int (own_pick p2 (2 : Int32) p5)), .val (.int (own_pick p2 (3 : Int32) p6)), .val (.ref b44), .val (.int z111l12), .unset] [(.int (3 : Int32))]))
      refine Gl.st (fun t k => XS.iconst Xj48.here hx rfl (hb hby at_113) k) ?_
      show Gl _ _ _ _ _ _ _ (Tj48.setTop (mkF m 114 #[.val (.int p1), .val (.int p2), .val (.int p3), .val (.int p4), .val (.int p5), .val (.int p6), .val (.int (3 : Int32)), .val (.int (own_pick p2 (0 : Int32) p3)), .val (.int (own_pick p2 (1 : Int32) p4)), .val (.int (own_pick p2 (2 : Int32) p5)), .val (.int (own_pick p2 (3 : Int32) p6)), .val (.ref b44), .val (.int z111l12), .unset] [(.int (1 : Int32)), (.int (3 : Int32))]))
      refine Gl.st (fun t k => XS.icmpNo Xj48.here hx rfl (hb hby at_114) rfl (tlt (by decide : (1 : Int32) < (3 : Int32))).2.2.2 k) ?_
      show Gl _ _ _ _ _ _ _ (Tj48.setTop (mkF m 117 #[.val (.int p1), .val (.int p2), .val (.int p3), .val (.int p4), .val (.int p5), .val (.int p6), .val (.int (3 : Int32)), .val (.int (own_pick p2 (0 : Int32) p3)), .val (.int (own_pick p2 (1 : Int32) p4)), .val (.int (own_pick p2 (2 : Int32) p5)), .val (.int (own_pick p2 (3 : Int32) p6)), .val (.ref b44), .val (.int z111l12), .unset] []))
      refine Gl.st (fun t k => XS.iload Xj48.here hx rfl (hb hby at_117) rfl  k) ?_
      show Gl _ _ _ _ _ _ _ (Tj48.setTop (mkF m 119 #[.val (.int p1), .val (.int p2), .val (.int p3), .val (.int p4), .val (.int p5), .val (.int p6), .val (.int (3 : Int32)), .val (.int (own_pick p2 (0 : Int32) p3)), .val (.int (own_pick p2 (1 : Int32) p4)), .val (.int (own_pick p2 (2 : Int32) p5)), .val (.int (own_pick p2 (3 : Int32) p6)), .val (.ref b44), .val (.int z111l12), .unset] [(.int (own_pick p2 (1 : Int32) p4))]))
      have J49 : ∀ (Tj49 : State) (Lj49 : List Loc) (Xj49 : Stand p l e room_1 s m #[(.int p1), (.int p2), (.int p3), (.int p4), (.int p5), (.int p6)] below meth c Tj49 Lj49 1 3) (ej49 : Tj49.heap = h47) (Nj49 : Fr n0 Lj49) (z125l12 : Int32) (hz125l12 : z125l12 = (if (own_pick p2 (1 : Int32) p4) = (0 : Int32) then z111l12 else (0 : Int32))), Gl p e below s (Q0 Z p1 p2 p3 p4 p5 p6 h0 n0) room_1.cells room_1.slots (Tj49.setTop (mkF m 125 #[.val (.int p1), .val (.int p2), .val (.int p3), .val (.int p4), .val (.int p5), .val (.int p6), .val (.int (3 : Int32)), .val (.int (own_pick p2 (0 : Int32) p3)), .val (.int (own_pick p2 (1 : Int32) p4)), .val (.int (own_pick p2 (2 : Int32) p5)), .val (.int (own_pick p2 (3 : Int32) p6)), .val (.ref b44), .val (.int z125l12), .unset] [])) := by
        intro Tj49 Lj49 Xj49 ej49 Nj49 z125l12 hz125l12
        show Gl _ _ _ _ _ _ _ (Tj49.setTop (mkF m 125 #[.val (.int p1), .val (.int p2), .val (.int p3), .val (.int p4), .val (.int p5), .val (.int p6), .val (.int (3 : Int32)), .val (.int (own_pick p2 (0 : Int32) p3)), .val (.int (own_pick p2 (1 : Int32) p4)), .val (.int (own_pick p2 (2 : Int32) p5)), .val (.int (own_pick p2 (3 : Int32) p6)), .val (.ref b44), .val (.int z125l12), .unset] []))
        refine Gl.st (fun t k => XS.iload Xj49.here hx rfl (hb hby at_125) rfl  k) ?_
        show Gl _ _ _ _ _ _ _ (Tj49.setTop (mkF m 127 #[.val (.int p1), .val (.int p2), .val (.int p3), .val (.int p4), .val (.int p5), .val (.int p6), .val (.int (3 : Int32)), .val (.int (own_pick p2 (0 : Int32) p3)), .val (.int (own_pick p2 (1 : Int32) p4)), .val (.int (own_pick p2 (2 : Int32) p5)), .val (.int (own_pick p2 (3 : Int32) p6)), .val (.ref b44), .val (.int z125l12), .unset] [(.int (3 : Int32))]))
        refine Gl.st (fun t k => XS.iconst Xj49.here hx rfl (hb hby at_127) k) ?_
        show Gl _ _ _ _ _ _ _ (Tj49.setTop (mkF m 128 #[.val (.int p1), .val (.int p2), .val (.int p3), .val (.int p4), .val (.int p5), .val (.int p6), .val (.int (3 : Int32)), .val (.int (own_pick p2 (0 : Int32) p3)), .val (.int (own_pick p2 (1 : Int32) p4)), .val (.int (own_pick p2 (2 : Int32) p5)), .val (.int (own_pick p2 (3 : Int32) p6)), .val (.ref b44), .val (.int z125l12), .unset] [(.int (2 : Int32)), (.int (3 : Int32))]))
        refine Gl.st (fun t k => XS.icmpNo Xj49.here hx rfl (hb hby at_128) rfl (tlt (by decide : (2 : Int32) < (3 : Int32))).2.2.2 k) ?_
        show Gl _ _ _ _ _ _ _ (Tj49.setTop (mkF m 131 #[.val (.int p1), .val (.int p2), .val (.int p3), .val (.int p4), .val (.int p5), .val (.int p6), .val (.int (3 : Int32)), .val (.int (own_pick p2 (0 : Int32) p3)), .val (.int (own_pick p2 (1 : Int32) p4)), .val (.int (own_pick p2 (2 : Int32) p5)), .val (.int (own_pick p2 (3 : Int32) p6)), .val (.ref b44), .val (.int z125l12), .unset] []))
        refine Gl.st (fun t k => XS.iload Xj49.here hx rfl (hb hby at_131) rfl  k) ?_
        show Gl _ _ _ _ _ _ _ (Tj49.setTop (mkF m 133 #[.val (.int p1), .val (.int p2), .val (.int p3), .val (.int p4), .val (.int p5), .val (.int p6), .val (.int (3 : Int32)), .val (.int (own_pick p2 (0 : Int32) p3)), .val (.int (own_pick p2 (1 : Int32) p4)), .val (.int (own_pick p2 (2 : Int32) p5)), .val (.int (own_pick p2 (3 : Int32) p6)), .val (.ref b44), .val (.int z125l12), .unset] [(.int (own_pick p2 (2 : Int32) p5))]))
        have J50 : ∀ (Tj50 : State) (Lj50 : List Loc) (Xj50 : Stand p l e room_1 s m #[(.int p1), (.int p2), (.int p3), (.int p4), (.int p5), (.int p6)] below meth c Tj50 Lj50 1 3) (ej50 : Tj50.heap = h47) (Nj50 : Fr n0 Lj50) (z139l12 : Int32) (hz139l12 : z139l12 = (if (own_pick p2 (2 : Int32) p5) = (0 : Int32) then z125l12 else (0 : Int32))), Gl p e below s (Q0 Z p1 p2 p3 p4 p5 p6 h0 n0) room_1.cells room_1.slots (Tj50.setTop (mkF m 139 #[.val (.int p1), .val (.int p2), .val (.int p3), .val (.int p4), .val (.int p5), .val (.int p6), .val (.int (3 : Int32)), .val (.int (own_pick p2 (0 : Int32) p3)), .val (.int (own_pick p2 (1 : Int32) p4)), .val (.int (own_pick p2 (2 : Int32) p5)), .val (.int (own_pick p2 (3 : Int32) p6)), .val (.ref b44), .val (.int z139l12), .unset] [])) := by
          intro Tj50 Lj50 Xj50 ej50 Nj50 z139l12 hz139l12
          show Gl _ _ _ _ _ _ _ (Tj50.setTop (mkF m 139 #[.val (.int p1), .val (.int p2), .val (.int p3), .val (.int p4), .val (.int p5), .val (.int p6), .val (.int (3 : Int32)), .val (.int (own_pick p2 (0 : Int32) p3)), .val (.int (own_pick p2 (1 : Int32) p4)), .val (.int (own_pick p2 (2 : Int32) p5)), .val (.int (own_pick p2 (3 : Int32) p6)), .val (.ref b44), .val (.int z139l12), .unset] []))
          refine Gl.st (fun t k => XS.iload Xj50.here hx rfl (hb hby at_139) rfl  k) ?_
          show Gl _ _ _ _ _ _ _ (Tj50.setTop (mkF m 141 #[.val (.int p1), .val (.int p2), .val (.int p3), .val (.int p4), .val (.int p5), .val (.int p6), .val (.int (3 : Int32)), .val (.int (own_pick p2 (0 : Int32) p3)), .val (.int (own_pick p2 (1 : Int32) p4)), .val (.int (own_pick p2 (2 : Int32) p5)), .val (.int (own_pick p2 (3 : Int32) p6)), .val (.ref b44), .val (.int z139l12), .unset] [(.int (3 : Int32))]))
          refine Gl.st (fun t k => XS.iconst Xj50.here hx rfl (hb hby at_141) k) ?_
          show Gl _ _ _ _ _ _ _ (Tj50.setTop (mkF m 142 #[.val (.int p1), .val (.int p2), .val (.int p3), .val (.int p4), .val (.int p5), .val (.int p6), .val (.int (3 : Int32)), .val (.int (own_pick p2 (0 : Int32) p3)), .val (.int (own_pick p2 (1 : Int32) p4)), .val (.int (own_pick p2 (2 : Int32) p5)), .val (.int (own_pick p2 (3 : Int32) p6)), .val (.ref b44), .val (.int z139l12), .unset] [(.int (3 : Int32)), (.int (3 : Int32))]))
          refine Gl.st (fun t k => XS.icmpYes Xj50.here hx rfl (pc0 := 142) (pc' := 153) rfl (hb hby at_142) rfl (flt (by decide : ¬ ((3 : Int32) < (3 : Int32)))).2.2.2 (by decide) (by decide) k) ?_
          show Gl _ _ _ _ _ _ _ (Tj50.setTop (mkF m 153 #[.val (.int p1), .val (.int p2), .val (.int p3), .val (.int p4), .val (.int p5), .val (.int p6), .val (.int (3 : Int32)), .val (.int (own_pick p2 (0 : Int32) p3)), .val (.int (own_pick p2 (1 : Int32) p4)), .val (.int (own_pick p2 (2 : Int32) p5)), .val (.int (own_pick p2 (3 : Int32) p6)), .val (.ref b44), .val (.int z139l12), .unset] []))
          obtain ⟨T51, h51, X51, e51, E51, A51, D51, -, st51⟩ := newO Xj50 hx hZ hown (hw _ (List.mem_of_getElem? (i := 6) rfl)) (hw _ (List.mem_of_getElem? (i := 7) rfl)) (hw _ (List.mem_of_getElem? (i := 8) rfl)) ej50 (g := (mkF m 153 #[.val (.int p1), .val (.int p2), .val (.int p3), .val (.int p4), .val (.int p5), .val (.int p6), .val (.int (3 : Int32)), .val (.int (own_pick p2 (0 : Int32) p3)), .val (.int (own_pick p2 (1 : Int32) p4)), .val (.int (own_pick p2 (2 : Int32) p5)), .val (.int (own_pick p2 (3 : Int32) p6)), .val (.ref b44), .val (.int z139l12), .unset] [])) rfl (hb hby at_153) (by decide) (by decide)
          obtain ⟨b51, g51⟩ : ∃ z, z = h47.size := ⟨_, rfl⟩
          rw [← g51] at A51 D51 st51
          refine Gl.st st51 ?_
          have ne_b44_b51 : b44 ≠ b51 := Nat.ne_of_lt (Nat.lt_of_lt_of_le V47.lt (Nat.le_of_eq g51.symm))
          have gzb51 : n0 ≤ b51 := Nat.le_trans Z47 (Nat.le_of_eq g51.symm)
          have Z51 : n0 ≤ h51.size := Nat.le_trans Z47 E51.1
          have V47'52 : Arv Z h51 b44 k44 .int (3 : Int32) [(.int (own_pick p2 (0 : Int32) p3)), (.int (own_pick p2 (1 : Int32) p4)), (.int (own_pick p2 (2 : Int32) p5))] (.int (0 : Int32)) := V47.ext E51
          have F51_tokens : Fld Z h51 b51 "com/example/enact/enact/engine/Marking" "tokens" "[I" .null := D51 (Or.inr (hw _ (List.mem_of_getElem? (i := 16) rfl))) (ty := (.array .int)) (by decide)
          show Gl _ _ _ _ _ _ _ (T51.setTop (mkF m 156 #[.val (.int p1), .val (.int p2), .val (.int p3), .val (.int p4), .val (.int p5), .val (.int p6), .val (.int (3 : Int32)), .val (.int (own_pick p2 (0 : Int32) p3)), .val (.int (own_pick p2 (1 : Int32) p4)), .val (.int (own_pick p2 (2 : Int32) p5)), .val (.int (own_pick p2 (3 : Int32) p6)), .val (.ref b44), .val (.int z139l12), .unset] [(.ref b51)]))
          refine Gl.st (fun t k => XS.dup X51.here hx rfl (hb hby at_156) rfl rfl k) ?_
          show Gl _ _ _ _ _ _ _ (T51.setTop (mkF m 157 #[.val (.int p1), .val (.int p2), .val (.int p3), .val (.int p4), .val (.int p5), .val (.int p6), .val (.int (3 : Int32)), .val (.int (own_pick p2 (0 : Int32) p3)), .val (.int (own_pick p2 (1 : Int32) p4)), .val (.int (own_pick p2 (2 : Int32) p5)), .val (.int (own_pick p2 (3 : Int32) p6)), .val (.ref b44), .val (.int z139l12), .unset] [(.ref b51), (.ref b51)]))
          refine Gl.st (fun t k => XS.aload X51.here hx rfl (hb hby at_157) rfl rfl k) ?_
          show Gl _ _ _ _ _ _ _ (T51.setTop (mkF m 159 #[.val (.int p1), .val (.int p2), .val (.int p3), .val (.int p4), .val (.int p5), .val (.int p6), .val (.int (3 : Int32)), .val (.int (own_pick p2 (0 : Int32) p3)), .val (.int (own_pick p2 (1 : Int32) p4)), .val (.int (own_pick p2 (2 : Int32) p5)), .val (.int (own_pick p2 (3 : Int32) p6)), .val (.ref b44), .val (.int z139l12), .unset] [(.ref b44), (.ref b51), (.ref b51)]))
          obtain ⟨_, _, ⟨T53, L53, k53, n53⟩, -, X53, ⟨Lc53, hQ53, l53, y53, z53⟩, st53⟩ := X51.specialBack hx (y := (⟨"com/example/enact/enact/engine/Marking", "<init>", "([I)V"⟩ : MethodName)) rfl hown (mvT hZ (hw _ (List.mem_of_getElem? (i := 9) rfl))) (mvT hZ (hw _ (List.mem_of_getElem? (i := 10) rfl))) (mvT hZ (hw _ (List.mem_of_getElem? (i := 11) rfl))) (by decide) (backOf (W := 1) (rm2 l Z a0 hw [] b51 b44 (.null) h51 n0 Z51 A51 F51_tokens gzb51) hZ (hw _ (List.mem_of_getElem? (i := 11) rfl)) (hw _ (List.mem_of_getElem? (i := 8) rfl)) (by decide) (by decide)) (g := (mkF m 159 #[.val (.int p1), .val (.int p2), .val (.int p3), .val (.int p4), .val (.int p5), .val (.int p6), .val (.int (3 : Int32)), .val (.int (own_pick p2 (0 : Int32) p3)), .val (.int (own_pick p2 (1 : Int32) p4)), .val (.int (own_pick p2 (2 : Int32) p5)), .val (.int (own_pick p2 (3 : Int32) p6)), .val (.ref b44), .val (.int z139l12), .unset] [(.ref b44), (.ref b51), (.ref b51)])) rfl (by rw [hml]; rfl) (Steps.refl _) (a := b51) (argsL := [(.ref b44)]) (rest := [(.ref b51)]) (lenOf pd_1 rfl) rfl (by show 2 * 0 + _ ≤ _; exact Nat.le_of_eq rfl) (hb hby at_159) (fun _ _ => ⟨rfl, e51, (by decide : 2 + 0 ≤ _), (by decide : 5 + 0 ≤ _)⟩)
          dsimp only [Pt.U, Pt.locs, Pt.cells, Pt.slots] at X53 l53 y53 z53 st53 hQ53
          subst l53 y53 z53
          obtain ⟨rfl, N53q, Kq53, Fq53_0, Fq53_1⟩ := hQ53
          have N53 := Fr.app Nj50 N53q
          have Z53 : n0 ≤ T53.heap.size := Nat.le_trans Z51 Kq53.1
          have V47'54 : Arv Z T53.heap b44 k44 .int (3 : Int32) [(.int (own_pick p2 (0 : Int32) p3)), (.int (own_pick p2 (1 : Int32) p4)), (.int (own_pick p2 (2 : Int32) p5))] (.int (0 : Int32)) := V47'52.keep Kq53 (ninS ne_b44_b51 nin0)
          refine Gl.to st53 ?_
          show Gl _ _ _ _ _ _ _ (T53.setTop (mkF m 162 #[.val (.int p1), .val (.int p2), .val (.int p3), .val (.int p4), .val (.int p5), .val (.int p6), .val (.int (3 : Int32)), .val (.int (own_pick p2 (0 : Int32) p3)), .val (.int (own_pick p2 (1 : Int32) p4)), .val (.int (own_pick p2 (2 : Int32) p5)), .val (.int (own_pick p2 (3 : Int32) p6)), .val (.ref b44), .val (.int z139l12), .unset] [(.ref b51)]))
          refine Gl.st (fun t k => XS.astore X53.here hx rfl (hb hby at_162) rfl rfl (l' := #[.val (.int p1), .val (.int p2), .val (.int p3), .val (.int p4), .val (.int p5), .val (.int p6), .val (.int (3 : Int32)), .val (.int (own_pick p2 (0 : Int32) p3)), .val (.int (own_pick p2 (1 : Int32) p4)), .val (.int (own_pick p2 (2 : Int32) p5)), .val (.int (own_pick p2 (3 : Int32) p6)), .val (.ref b44), .val (.int z139l12), .val (.ref b51)]) rfl k) ?_
          show Gl _ _ _ _ _ _ _ (T53.setTop (mkF m 164 #[.val (.int p1), .val (.int p2), .val (.int p3), .val (.int p4), .val (.int p5), .val (.int p6), .val (.int (3 : Int32)), .val (.int (own_pick p2 (0 : Int32) p3)), .val (.int (own_pick p2 (1 : Int32) p4)), .val (.int (own_pick p2 (2 : Int32) p5)), .val (.int (own_pick p2 (3 : Int32) p6)), .val (.ref b44), .val (.int z139l12), .val (.ref b51)] []))
          refine Gl.st (fun t k => XS.aload X53.here hx rfl (hb hby at_164) rfl rfl k) ?_
          show Gl _ _ _ _ _ _ _ (T53.setTop (mkF m 166 #[.val (.int p1), .val (.int p2), .val (.int p3), .val (.int p4), .val (.int p5), .val (.int p6), .val (.int (3 : Int32)), .val (.int (own_pick p2 (0 : Int32) p3)), .val (.int (own_pick p2 (1 : Int32) p4)), .val (.int (own_pick p2 (2 : Int32) p5)), .val (.int (own_pick p2 (3 : Int32) p6)), .val (.ref b44), .val (.int z139l12), .val (.ref b51)] [(.ref b51)]))
          obtain ⟨cq55, kq55, qa55, qb55, qc55⟩ := isOf hZ rfl Fq53_0
          obtain ⟨_, _, ⟨T55, L55, k55, n55⟩, -, X55, ⟨Lc55, hQ55, l55, y55, z55⟩, st55⟩ := X53.virtualBack hx (y := (⟨"com/example/enact/enact/engine/Marking", "isEmpty", "()Z"⟩ : MethodName)) (z := (⟨"com/example/enact/enact/engine/Marking", "isEmpty", "()Z"⟩ : MethodName)) hown (mvT hZ (hw _ (List.mem_of_getElem? (i := 17) rfl))) (mvT hZ (hw _ (List.mem_of_getElem? (i := 18) rfl))) (notFace_of_selects (args := #[]) (mvT hZ (hw _ (List.mem_of_getElem? (i := 20) rfl)))) (mvT hZ (hw _ (List.mem_of_getElem? (i := 20) rfl))) (mvT hZ (hw _ (List.mem_of_getElem? (i := 19) rfl))) (by decide) (backOf (W := 0) (rm4v3 l Z a0 hw [] b51 (b44) (k44) ((own_pick p2 (0 : Int32) p3)) ((own_pick p2 (1 : Int32) p4)) ((own_pick p2 (2 : Int32) p5)) T53.heap n0  Fq53_1 V47'54) hZ (hw _ (List.mem_of_getElem? (i := 21) rfl)) (hw _ (List.mem_of_getElem? (i := 8) rfl)) (by decide) (by decide)) qa55 qc55 (g := (mkF m 166 #[.val (.int p1), .val (.int p2), .val (.int p3), .val (.int p4), .val (.int p5), .val (.int p6), .val (.int (3 : Int32)), .val (.int (own_pick p2 (0 : Int32) p3)), .val (.int (own_pick p2 (1 : Int32) p4)), .val (.int (own_pick p2 (2 : Int32) p5)), .val (.int (own_pick p2 (3 : Int32) p6)), .val (.ref b44), .val (.int z139l12), .val (.ref b51)] [(.ref b51)])) rfl (by rw [hml]; rfl) (Steps.refl _) (argsL := []) (rest := []) (lenOf pd_2 rfl) rfl (by show 2 * 0 + _ ≤ _; exact Nat.le_of_eq rfl) (hb hby at_166) (fun _ _ => ⟨rfl, rfl, (by decide : 2 + 0 ≤ _), (by decide : 5 + 0 ≤ _)⟩)
          dsimp only [Pt.U, Pt.locs, Pt.cells, Pt.slots] at X55 l55 y55 z55 st55 hQ55
          subst l55 y55 z55
          obtain ⟨rfl, N55q, e55⟩ := hQ55
          have N55 := Fr.app N53 N55q
          refine Gl.to st55 ?_
          show Gl _ _ _ _ _ _ _ (T55.setTop (mkF m 169 #[.val (.int p1), .val (.int p2), .val (.int p3), .val (.int p4), .val (.int p5), .val (.int p6), .val (.int (3 : Int32)), .val (.int (own_pick p2 (0 : Int32) p3)), .val (.int (own_pick p2 (1 : Int32) p4)), .val (.int (own_pick p2 (2 : Int32) p5)), .val (.int (own_pick p2 (3 : Int32) p6)), .val (.ref b44), .val (.int z139l12), .val (.ref b51)] [(.int (own_empty3 (own_pick p2 (0 : Int32) p3) (own_pick p2 (1 : Int32) p4) (own_pick p2 (2 : Int32) p5)))]))
          refine Gl.st (fun t k => XS.iload X55.here hx rfl (hb hby at_169) rfl  k) ?_
          show Gl _ _ _ _ _ _ _ (T55.setTop (mkF m 171 #[.val (.int p1), .val (.int p2), .val (.int p3), .val (.int p4), .val (.int p5), .val (.int p6), .val (.int (3 : Int32)), .val (.int (own_pick p2 (0 : Int32) p3)), .val (.int (own_pick p2 (1 : Int32) p4)), .val (.int (own_pick p2 (2 : Int32) p5)), .val (.int (own_pick p2 (3 : Int32) p6)), .val (.ref b44), .val (.int z139l12), .val (.ref b51)] [(.int z139l12), (.int (own_empty3 (own_pick p2 (0 : Int32) p3) (own_pick p2 (1 : Int32) p4) (own_pick p2 (2 : Int32) p5)))]))
          have hc171_56 : (own_empty3 (own_pick p2 (0 : Int32) p3) (own_pick p2 (1 : Int32) p4) (own_pick p2 (2 : Int32) p5)) = z139l12 := by 
            subst_vars; unfold own_empty3; repeat' split
            all_goals first | rfl | contradiction | simp_all
          refine Gl.st (fun t k => XS.icmpNo X55.here hx rfl (hb hby at_171) rfl (teq hc171_56).2 k) ?_
          show Gl _ _ _ _ _ _ _ (T55.setTop (mkF m 174 #[.val (.int p1), .val (.int p2), .val (.int p3), .val (.int p4), .val (.int p5), .val (.int p6), .val (.int (3 : Int32)), .val (.int (own_pick p2 (0 : Int32) p3)), .val (.int (own_pick p2 (1 : Int32) p4)), .val (.int (own_pick p2 (2 : Int32) p5)), .val (.int (own_pick p2 (3 : Int32) p6)), .val (.ref b44), .val (.int z139l12), .val (.ref b51)] []))
          refine Gl.st (fun t k => XS.iconst X55.here hx rfl (hb hby at_174) k) ?_
          show Gl _ _ _ _ _ _ _ (T55.setTop (mkF m 175 #[.val (.int p1), .val (.int p2), .val (.int p3), .val (.int p4), .val (.int p5), .val (.int p6), .val (.int (3 : Int32)), .val (.int (own_pick p2 (0 : Int32) p3)), .val (.int (own_pick p2 (1 : Int32) p4)), .val (.int (own_pick p2 (2 : Int32) p5)), .val (.int (own_pick p2 (3 : Int32) p6)), .val (.ref b44), .val (.int z139l12), .val (.ref b51)] [(.int (1 : Int32))]))
          refine Gl.st (fun t k => XS.goto X55.here hx rfl (pc0 := 175) (pc' := 179) rfl (hb hby at_175) (by decide) (by decide) k) ?_
          show Gl _ _ _ _ _ _ _ (T55.setTop (mkF m 179 #[.val (.int p1), .val (.int p2), .val (.int p3), .val (.int p4), .val (.int p5), .val (.int p6), .val (.int (3 : Int32)), .val (.int (own_pick p2 (0 : Int32) p3)), .val (.int (own_pick p2 (1 : Int32) p4)), .val (.int (own_pick p2 (2 : Int32) p5)), .val (.int (own_pick p2 (3 : Int32) p6)), .val (.ref b44), .val (.int z139l12), .val (.ref b51)] [(.int (1 : Int32))]))
          exact Gl.retN X55 hx hlk Bd.returns (by simp) (hb hby at_179) (⟨rfl, N55⟩) (by decide) (by decide)
        by_cases hc133 : (own_pick p2 (2 : Int32) p5) = (0 : Int32)
        · refine Gl.st (fun t k => XS.ifYes Xj49.here hx rfl (pc0 := 133) (pc' := 139) rfl (hb hby at_133) rfl ((if0 _ _).trans (teq hc133).1) (by decide) (by decide) k) ?_
          show Gl _ _ _ _ _ _ _ (Tj49.setTop (mkF m 139 #[.val (.int p1), .val (.int p2), .val (.int p3), .val (.int p4), .val (.int p5), .val (.int p6), .val (.int (3 : Int32)), .val (.int (own_pick p2 (0 : Int32) p3)), .val (.int (own_pick p2 (1 : Int32) p4)), .val (.int (own_pick p2 (2 : Int32) p5)), .val (.int (own_pick p2 (3 : Int32) p6)), .val (.ref b44), .val (.int z125l12), .unset] []))
          exact J50 _ _ Xj49 ej49 Nj49 _ (by simp only [if_pos hc133])
        · refine Gl.st (fun t k => XS.ifNo Xj49.here hx rfl (hb hby at_133) rfl ((if0 _ _).trans (feq hc133).1) k) ?_
          show Gl _ _ _ _ _ _ _ (Tj49.setTop (mkF m 136 #[.val (.int p1), .val (.int p2), .val (.int p3), .val (.int p4), .val (.int p5), .val (.int p6), .val (.int (3 : Int32)), .val (.int (own_pick p2 (0 : Int32) p3)), .val (.int (own_pick p2 (1 : Int32) p4)), .val (.int (own_pick p2 (2 : Int32) p5)), .val (.int (own_pick p2 (3 : Int32) p6)), .val (.ref b44), .val (.int z125l12), .unset] []))
          refine Gl.st (fun t k => XS.iconst Xj49.here hx rfl (hb hby at_136) k) ?_
          show Gl _ _ _ _ _ _ _ (Tj49.setTop (mkF m 137 #[.val (.int p1), .val (.int p2), .val (.int p3), .val (.int p4), .val (.int p5), .val (.int p6), .val (.int (3 : Int32)), .val (.int (own_pick p2 (0 : Int32) p3)), .val (.int (own_pick p2 (1 : Int32) p4)), .val (.int (own_pick p2 (2 : Int32) p5)), .val (.int (own_pick p2 (3 : Int32) p6)), .val (.ref b44), .val (.int z125l12), .unset] [(.int (0 : Int32))]))
          refine Gl.st (fun t k => XS.istore Xj49.here hx rfl (hb hby at_137) rfl (l' := #[.val (.int p1), .val (.int p2), .val (.int p3), .val (.int p4), .val (.int p5), .val (.int p6), .val (.int (3 : Int32)), .val (.int (own_pick p2 (0 : Int32) p3)), .val (.int (own_pick p2 (1 : Int32) p4)), .val (.int (own_pick p2 (2 : Int32) p5)), .val (.int (own_pick p2 (3 : Int32) p6)), .val (.ref b44), .val (.int (0 : Int32)), .unset]) rfl k) ?_
          show Gl _ _ _ _ _ _ _ (Tj49.setTop (mkF m 139 #[.val (.int p1), .val (.int p2), .val (.int p3), .val (.int p4), .val (.int p5), .val (.int p6), .val (.int (3 : Int32)), .val (.int (own_pick p2 (0 : Int32) p3)), .val (.int (own_pick p2 (1 : Int32) p4)), .val (.int (own_pick p2 (2 : Int32) p5)), .val (.int (own_pick p2 (3 : Int32) p6)), .val (.ref b44), .val (.int (0 : Int32)), .unset] []))
          exact J50 _ _ Xj49 ej49 Nj49 _ (by simp only [if_neg hc133])
      by_cases hc119 : (own_pick p2 (1 : Int32) p4) = (0 : Int32)
      · refine Gl.st (fun t k => XS.ifYes Xj48.here hx rfl (pc0 := 119) (pc' := 125) rfl (hb hby at_119) rfl ((if0 _ _).trans (teq hc119).1) (by decide) (by decide) k) ?_
        show Gl _ _ _ _ _ _ _ (Tj48.setTop (mkF m 125 #[.val (.int p1), .val (.int p2), .val (.int p3), .val (.int p4), .val (.int p5), .val (.int p6), .val (.int (3 : Int32)), .val (.int (own_pick p2 (0 : Int32) p3)), .val (.int (own_pick p2 (1 : Int32) p4)), .val (.int (own_pick p2 (2 : Int32) p5)), .val (.int (own_pick p2 (3 : Int32) p6)), .val (.ref b44), .val (.int z111l12), .unset] []))
        exact J49 _ _ Xj48 ej48 Nj48 _ (by simp only [if_pos hc119])
      · refine Gl.st (fun t k => XS.ifNo Xj48.here hx rfl (hb hby at_119) rfl ((if0 _ _).trans (feq hc119).1) k) ?_
        show Gl _ _ _ _ _ _ _ (Tj48.setTop (mkF m 122 #[.val (.int p1), .val (.int p2), .val (.int p3), .val (.int p4), .val (.int p5), .val (.int p6), .val (.int (3 : Int32)), .val (.int (own_pick p2 (0 : Int32) p3)), .val (.int (own_pick p2 (1 : Int32) p4)), .val (.int (own_pick p2 (2 : Int32) p5)), .val (.int (own_pick p2 (3 : Int32) p6)), .val (.ref b44), .val (.int z111l12), .unset] []))
        refine Gl.st (fun t k => XS.iconst Xj48.here hx rfl (hb hby at_122) k) ?_
        show Gl _ _ _ _ _ _ _ (Tj48.setTop (mkF m 123 #[.val (.int p1), .val (.int p2), .val (.int p3), .val (.int p4), .val (.int p5), .val (.int p6), .val (.int (3 : Int32)), .val (.int (own_pick p2 (0 : Int32) p3)), .val (.int (own_pick p2 (1 : Int32) p4)), .val (.int (own_pick p2 (2 : Int32) p5)), .val (.int (own_pick p2 (3 : Int32) p6)), .val (.ref b44), .val (.int z111l12), .unset] [(.int (0 : Int32))]))
        refine Gl.st (fun t k => XS.istore Xj48.here hx rfl (hb hby at_123) rfl (l' := #[.val (.int p1), .val (.int p2), .val (.int p3), .val (.int p4), .val (.int p5), .val (.int p6), .val (.int (3 : Int32)), .val (.int (own_pick p2 (0 : Int32) p3)), .val (.int (own_pick p2 (1 : Int32) p4)), .val (.int (own_pick p2 (2 : Int32) p5)), .val (.int (own_pick p2 (3 : Int32) p6)), .val (.ref b44), .val (.int (0 : Int32)), .unset]) rfl k) ?_
        show Gl _ _ _ _ _ _ _ (Tj48.setTop (mkF m 125 #[.val (.int p1), .val (.int p2), .val (.int p3), .val (.int p4), .val (.int p5), .val (.int p6), .val (.int (3 : Int32)), .val (.int (own_pick p2 (0 : Int32) p3)), .val (.int (own_pick p2 (1 : Int32) p4)), .val (.int (own_pick p2 (2 : Int32) p5)), .val (.int (own_pick p2 (3 : Int32) p6)), .val (.ref b44), .val (.int (0 : Int32)), .unset] []))
        exact J49 _ _ Xj48 ej48 Nj48 _ (by simp only [if_neg hc119])
    by_cases hc105 : (own_pick p2 (0 : Int32) p3) = (0 : Int32)
    · refine Gl.st (fun t k => XS.ifYes X47.here hx rfl (pc0 := 105) (pc' := 111) rfl (hb hby at_105) rfl ((if0 _ _).trans (teq hc105).1) (by decide) (by decide) k) ?_
      show Gl _ _ _ _ _ _ _ (T47.setTop (mkF m 111 #[.val (.int p1), .val (.int p2), .val (.int p3), .val (.int p4), .val (.int p5), .val (.int p6), .val (.int (3 : Int32)), .val (.int (own_pick p2 (0 : Int32) p3)), .val (.int (own_pick p2 (1 : Int32) p4)), .val (.int (own_pick p2 (2 : Int32) p5)), .val (.int (own_pick p2 (3 : Int32) p6)), .val (.ref b44), .val (.int (1 : Int32)), .unset] []))
      exact J48 _ _ X47 e47 N47 _ (by simp only [if_pos hc105])
    · refine Gl.st (fun t k => XS.ifNo X47.here hx rfl (hb hby at_105) rfl ((if0 _ _).trans (feq hc105).1) k) ?_
      show Gl _ _ _ _ _ _ _ (T47.setTop (mkF m 108 #[.val (.int p1), .val (.int p2), .val (.int p3), .val (.int p4), .val (.int p5), .val (.int p6), .val (.int (3 : Int32)), .val (.int (own_pick p2 (0 : Int32) p3)), .val (.int (own_pick p2 (1 : Int32) p4)), .val (.int (own_pick p2 (2 : Int32) p5)), .val (.int (own_pick p2 (3 : Int32) p6)), .val (.ref b44), .val (.int (1 : Int32)), .unset] []))
      refine Gl.st (fun t k => XS.iconst X47.here hx rfl (hb hby at_108) k) ?_
      show Gl _ _ _ _ _ _ _ (T47.setTop (mkF m 109 #[.val (.int p1), .val (.int p2), .val (.int p3), .val (.int p4), .val (.int p5), .val (.int p6), .val (.int (3 : Int32)), .val (.int (own_pick p2 (0 : Int32) p3)), .val (.int (own_pick p2 (1 : Int32) p4)), .val (.int (own_pick p2 (2 : Int32) p5)), .val (.int (own_pick p2 (3 : Int32) p6)), .val (.ref b44), .val (.int (1 : Int32)), .unset] [(.int (0 : Int32))]))
      refine Gl.st (fun t k => XS.istore X47.here hx rfl (hb hby at_109) rfl (l' := #[.val (.int p1), .val (.int p2), .val (.int p3), .val (.int p4), .val (.int p5), .val (.int p6), .val (.int (3 : Int32)), .val (.int (own_pick p2 (0 : Int32) p3)), .val (.int (own_pick p2 (1 : Int32) p4)), .val (.int (own_pick p2 (2 : Int32) p5)), .val (.int (own_pick p2 (3 : Int32) p6)), .val (.ref b44), .val (.int (0 : Int32)), .unset]) rfl k) ?_
      show Gl _ _ _ _ _ _ _ (T47.setTop (mkF m 111 #[.val (.int p1), .val (.int p2), .val (.int p3), .val (.int p4), .val (.int p5), .val (.int p6), .val (.int (3 : Int32)), .val (.int (own_pick p2 (0 : Int32) p3)), .val (.int (own_pick p2 (1 : Int32) p4)), .val (.int (own_pick p2 (2 : Int32) p5)), .val (.int (own_pick p2 (3 : Int32) p6)), .val (.ref b44), .val (.int (0 : Int32)), .unset] []))
      exact J48 _ _ X47 e47 N47 _ (by simp only [if_neg hc105])
  · skip
    show Gl _ _ _ _ _ _ _ (s₁.setTop (mkF m 8 #[.val (.int p1), .val (.int p2), .val (.int p3), .val (.int p4), .val (.int p5), .val (.int p6), .val (.int (4 : Int32)), .unset, .unset, .unset, .unset, .unset, .unset, .unset] []))
    refine Gl.st (fun t k => XS.iloadN X0.here hx rfl (hb hby at_8) rfl  k) ?_
    show Gl _ _ _ _ _ _ _ (s₁.setTop (mkF m 9 #[.val (.int p1), .val (.int p2), .val (.int p3), .val (.int p4), .val (.int p5), .val (.int p6), .val (.int (4 : Int32)), .unset, .unset, .unset, .unset, .unset, .unset, .unset] [(.int p2)]))
    refine Gl.st (fun t k => XS.iconst X0.here hx rfl (hb hby at_9) k) ?_
    show Gl _ _ _ _ _ _ _ (s₁.setTop (mkF m 10 #[.val (.int p1), .val (.int p2), .val (.int p3), .val (.int p4), .val (.int p5), .val (.int p6), .val (.int (4 : Int32)), .unset, .unset, .unset, .unset, .unset, .unset, .unset] [(.int (0 : Int32)), (.int p2)]))
    refine Gl.st (fun t k => XS.iloadN X0.here hx rfl (hb hby at_10) rfl  k) ?_
    show Gl _ _ _ _ _ _ _ (s₁.setTop (mkF m 11 #[.val (.int p1), .val (.int p2), .val (.int p3), .val (.int p4), .val (.int p5), .val (.int p6), .val (.int (4 : Int32)), .unset, .unset, .unset, .unset, .unset, .unset, .unset] [(.int p3), (.int (0 : Int32)), (.int p2)]))
    obtain ⟨_, _, ⟨T57, L57, k57, n57⟩, -, X57, ⟨Lc57, hQ57, l57, y57, z57⟩, st57⟩ := Jvm.LawKit.callS X0 hx (y := (⟨"com/example/enact/enact/engine/MarkingIsEmptyPinLaw", "pick", "(III)I"⟩ : MethodName)) hown (mvT hZ (hw _ (List.mem_of_getElem? (i := 0) rfl))) (mvT hZ (hw _ (List.mem_of_getElem? (i := 1) rfl))) (mvT hZ (hw _ (List.mem_of_getElem? (i := 2) rfl))) (mvT hZ (hw _ (List.mem_of_getElem? (i := 3) rfl))) (by decide) (backOf (W := 0) (rm1 l Z a0 hw [] p2 (0 : Int32) p3 h0 n0) hZ (hw _ (List.mem_of_getElem? (i := 3) rfl)) (hw _ (List.mem_of_getElem? (i := 2) rfl)) (by decide) (by decide)) (g := (mkF m 11 #[.val (.int p1), .val (.int p2), .val (.int p3), .val (.int p4), .val (.int p5), .val (.int p6), .val (.int (4 : Int32)), .unset, .unset, .unset, .unset, .unset, .unset, .unset] [(.int p3), (.int (0 : Int32)), (.int p2)])) rfl (by rw [hml]; rfl) (argsL := [(.int p2), (.int (0 : Int32)), (.int p3)]) (rest := []) (lenOf pd_0 rfl) rfl (by show 2 * 0 + _ ≤ _; exact Nat.le_of_eq rfl) (hb hby at_11) (fun _ _ => ⟨rfl, e0, (by decide : 0 + 0 ≤ _), (by decide : 0 + 0 ≤ _)⟩)
    dsimp only [Pt.U, Pt.locs, Pt.cells, Pt.slots] at X57 l57 y57 z57 st57 hQ57
    subst l57 y57 z57
    obtain ⟨rfl, N57q, e57⟩ := hQ57
    have N57 := Fr.app N0 N57q
    refine Gl.st st57 ?_
    show Gl _ _ _ _ _ _ _ (T57.setTop (mkF m 14 #[.val (.int p1), .val (.int p2), .val (.int p3), .val (.int p4), .val (.int p5), .val (.int p6), .val (.int (4 : Int32)), .unset, .unset, .unset, .unset, .unset, .unset, .unset] [(.int (own_pick p2 (0 : Int32) p3))]))
    refine Gl.st (fun t k => XS.istore X57.here hx rfl (hb hby at_14) rfl (l' := #[.val (.int p1), .val (.int p2), .val (.int p3), .val (.int p4), .val (.int p5), .val (.int p6), .val (.int (4 : Int32)), .val (.int (own_pick p2 (0 : Int32) p3)), .unset, .unset, .unset, .unset, .unset, .unset]) rfl k) ?_
    show Gl _ _ _ _ _ _ _ (T57.setTop (mkF m 16 #[.val (.int p1), .val (.int p2), .val (.int p3), .val (.int p4), .val (.int p5), .val (.int p6), .val (.int (4 : Int32)), .val (.int (own_pick p2 (0 : Int32) p3)), .unset, .unset, .unset, .unset, .unset, .unset] []))
    refine Gl.st (fun t k => XS.iloadN X57.here hx rfl (hb hby at_16) rfl  k) ?_
    show Gl _ _ _ _ _ _ _ (T57.setTop (mkF m 17 #[.val (.int p1), .val (.int p2), .val (.int p3), .val (.int p4), .val (.int p5), .val (.int p6), .val (.int (4 : Int32)), .val (.int (own_pick p2 (0 : Int32) p3)), .unset, .unset, .unset, .unset, .unset, .unset] [(.int p2)]))
    refine Gl.st (fun t k => XS.iconst X57.here hx rfl (hb hby at_17) k) ?_
    show Gl _ _ _ _ _ _ _ (T57.setTop (mkF m 18 #[.val (.int p1), .val (.int p2), .val (.int p3), .val (.int p4), .val (.int p5), .val (.int p6), .val (.int (4 : Int32)), .val (.int (own_pick p2 (0 : Int32) p3)), .unset, .unset, .unset, .unset, .unset, .unset] [(.int (1 : Int32)), (.int p2)]))
    refine Gl.st (fun t k => XS.iloadN X57.here hx rfl (hb hby at_18) rfl  k) ?_
    show Gl _ _ _ _ _ _ _ (T57.setTop (mkF m 19 #[.val (.int p1), .val (.int p2), .val (.int p3), .val (.int p4), .val (.int p5), .val (.int p6), .val (.int (4 : Int32)), .val (.int (own_pick p2 (0 : Int32) p3)), .unset, .unset, .unset, .unset, .unset, .unset] [(.int p4), (.int (1 : Int32)), (.int p2)]))
    obtain ⟨_, _, ⟨T58, L58, k58, n58⟩, -, X58, ⟨Lc58, hQ58, l58, y58, z58⟩, st58⟩ := Jvm.LawKit.callS X57 hx (y := (⟨"com/example/enact/enact/engine/MarkingIsEmptyPinLaw", "pick", "(III)I"⟩ : MethodName)) hown (mvT hZ (hw _ (List.mem_of_getElem? (i := 0) rfl))) (mvT hZ (hw _ (List.mem_of_getElem? (i := 1) rfl))) (mvT hZ (hw _ (List.mem_of_getElem? (i := 2) rfl))) (mvT hZ (hw _ (List.mem_of_getElem? (i := 3) rfl))) (by decide) (backOf (W := 0) (rm1 l Z a0 hw [] p2 (1 : Int32) p4 h0 n0) hZ (hw _ (List.mem_of_getElem? (i := 3) rfl)) (hw _ (List.mem_of_getElem? (i := 2) rfl)) (by decide) (by decide)) (g := (mkF m 19 #[.val (.int p1), .val (.int p2), .val (.int p3), .val (.int p4), .val (.int p5), .val (.int p6), .val (.int (4 : Int32)), .val (.int (own_pick p2 (0 : Int32) p3)), .unset, .unset, .unset, .unset, .unset, .unset] [(.int p4), (.int (1 : Int32)), (.int p2)])) rfl (by rw [hml]; rfl) (argsL := [(.int p2), (.int (1 : Int32)), (.int p4)]) (rest := []) (lenOf pd_0 rfl) rfl (by show 2 * 0 + _ ≤ _; exact Nat.le_of_eq rfl) (hb hby at_19) (fun _ _ => ⟨rfl, e57, (by decide : 0 + 0 ≤ _), (by decide : 0 + 0 ≤ _)⟩)
    dsimp only [Pt.U, Pt.locs, Pt.cells, Pt.slots] at X58 l58 y58 z58 st58 hQ58
    subst l58 y58 z58
    obtain ⟨rfl, N58q, e58⟩ := hQ58
    have N58 := Fr.app N57 N58q
    refine Gl.st st58 ?_
    show Gl _ _ _ _ _ _ _ (T58.setTop (mkF m 22 #[.val (.int p1), .val (.int p2), .val (.int p3), .val (.int p4), .val (.int p5), .val (.int p6), .val (.int (4 : Int32)), .val (.int (own_pick p2 (0 : Int32) p3)), .unset, .unset, .unset, .unset, .unset, .unset] [(.int (own_pick p2 (1 : Int32) p4))]))
    refine Gl.st (fun t k => XS.istore X58.here hx rfl (hb hby at_22) rfl (l' := #[.val (.int p1), .val (.int p2), .val (.int p3), .val (.int p4), .val (.int p5), .val (.int p6), .val (.int (4 : Int32)), .val (.int (own_pick p2 (0 : Int32) p3)), .val (.int (own_pick p2 (1 : Int32) p4)), .unset, .unset, .unset, .unset, .unset]) rfl k) ?_
    show Gl _ _ _ _ _ _ _ (T58.setTop (mkF m 24 #[.val (.int p1), .val (.int p2), .val (.int p3), .val (.int p4), .val (.int p5), .val (.int p6), .val (.int (4 : Int32)), .val (.int (own_pick p2 (0 : Int32) p3)), .val (.int (own_pick p2 (1 : Int32) p4)), .unset, .unset, .unset, .unset, .unset] []))
    refine Gl.st (fun t k => XS.iloadN X58.here hx rfl (hb hby at_24) rfl  k) ?_
    show Gl _ _ _ _ _ _ _ (T58.setTop (mkF m 25 #[.val (.int p1), .val (.int p2), .val (.int p3), .val (.int p4), .val (.int p5), .val (.int p6), .val (.int (4 : Int32)), .val (.int (own_pick p2 (0 : Int32) p3)), .val (.int (own_pick p2 (1 : Int32) p4)), .unset, .unset, .unset, .unset, .unset] [(.int p2)]))
    refine Gl.st (fun t k => XS.iconst X58.here hx rfl (hb hby at_25) k) ?_
    show Gl _ _ _ _ _ _ _ (T58.setTop (mkF m 26 #[.val (.int p1), .val (.int p2), .val (.int p3), .val (.int p4), .val (.int p5), .val (.int p6), .val (.int (4 : Int32)), .val (.int (own_pick p2 (0 : Int32) p3)), .val (.int (own_pick p2 (1 : Int32) p4)), .unset, .unset, .unset, .unset, .unset] [(.int (2 : Int32)), (.int p2)]))
    refine Gl.st (fun t k => XS.iload X58.here hx rfl (hb hby at_26) rfl  k) ?_
    show Gl _ _ _ _ _ _ _ (T58.setTop (mkF m 28 #[.val (.int p1), .val (.int p2), .val (.int p3), .val (.int p4), .val (.int p5), .val (.int p6), .val (.int (4 : Int32)), .val (.int (own_pick p2 (0 : Int32) p3)), .val (.int (own_pick p2 (1 : Int32) p4)), .unset, .unset, .unset, .unset, .unset] [(.int p5), (.int (2 : Int32)), (.int p2)]))
    obtain ⟨_, _, ⟨T59, L59, k59, n59⟩, -, X59, ⟨Lc59, hQ59, l59, y59, z59⟩, st59⟩ := Jvm.LawKit.callS X58 hx (y := (⟨"com/example/enact/enact/engine/MarkingIsEmptyPinLaw", "pick", "(III)I"⟩ : MethodName)) hown (mvT hZ (hw _ (List.mem_of_getElem? (i := 0) rfl))) (mvT hZ (hw _ (List.mem_of_getElem? (i := 1) rfl))) (mvT hZ (hw _ (List.mem_of_getElem? (i := 2) rfl))) (mvT hZ (hw _ (List.mem_of_getElem? (i := 3) rfl))) (by decide) (backOf (W := 0) (rm1 l Z a0 hw [] p2 (2 : Int32) p5 h0 n0) hZ (hw _ (List.mem_of_getElem? (i := 3) rfl)) (hw _ (List.mem_of_getElem? (i := 2) rfl)) (by decide) (by decide)) (g := (mkF m 28 #[.val (.int p1), .val (.int p2), .val (.int p3), .val (.int p4), .val (.int p5), .val (.int p6), .val (.int (4 : Int32)), .val (.int (own_pick p2 (0 : Int32) p3)), .val (.int (own_pick p2 (1 : Int32) p4)), .unset, .unset, .unset, .unset, .unset] [(.int p5), (.int (2 : Int32)), (.int p2)])) rfl (by rw [hml]; rfl) (argsL := [(.int p2), (.int (2 : Int32)), (.int p5)]) (rest := []) (lenOf pd_0 rfl) rfl (by show 2 * 0 + _ ≤ _; exact Nat.le_of_eq rfl) (hb hby at_28) (fun _ _ => ⟨rfl, e58, (by decide : 0 + 0 ≤ _), (by decide : 0 + 0 ≤ _)⟩)
    dsimp only [Pt.U, Pt.locs, Pt.cells, Pt.slots] at X59 l59 y59 z59 st59 hQ59
    subst l59 y59 z59
    obtain ⟨rfl, N59q, e59⟩ := hQ59
    have N59 := Fr.app N58 N59q
    refine Gl.st st59 ?_
    show Gl _ _ _ _ _ _ _ (T59.setTop (mkF m 31 #[.val (.int p1), .val (.int p2), .val (.int p3), .val (.int p4), .val (.int p5), .val (.int p6), .val (.int (4 : Int32)), .val (.int (own_pick p2 (0 : Int32) p3)), .val (.int (own_pick p2 (1 : Int32) p4)), .unset, .unset, .unset, .unset, .unset] [(.int (own_pick p2 (2 : Int32) p5))]))
    refine Gl.st (fun t k => XS.istore X59.here hx rfl (hb hby at_31) rfl (l' := #[.val (.int p1), .val (.int p2), .val (.int p3), .val (.int p4), .val (.int p5), .val (.int p6), .val (.int (4 : Int32)), .val (.int (own_pick p2 (0 : Int32) p3)), .val (.int (own_pick p2 (1 : Int32) p4)), .val (.int (own_pick p2 (2 : Int32) p5)), .unset, .unset, .unset, .unset]) rfl k) ?_
    show Gl _ _ _ _ _ _ _ (T59.setTop (mkF m 33 #[.val (.int p1), .val (.int p2), .val (.int p3), .val (.int p4), .val (.int p5), .val (.int p6), .val (.int (4 : Int32)), .val (.int (own_pick p2 (0 : Int32) p3)), .val (.int (own_pick p2 (1 : Int32) p4)), .val (.int (own_pick p2 (2 : Int32) p5)), .unset, .unset, .unset, .unset] []))
    refine Gl.st (fun t k => XS.iloadN X59.here hx rfl (hb hby at_33) rfl  k) ?_
    show Gl _ _ _ _ _ _ _ (T59.setTop (mkF m 34 #[.val (.int p1), .val (.int p2), .val (.int p3), .val (.int p4), .val (.int p5), .val (.int p6), .val (.int (4 : Int32)), .val (.int (own_pick p2 (0 : Int32) p3)), .val (.int (own_pick p2 (1 : Int32) p4)), .val (.int (own_pick p2 (2 : Int32) p5)), .unset, .unset, .unset, .unset] [(.int p2)]))
    refine Gl.st (fun t k => XS.iconst X59.here hx rfl (hb hby at_34) k) ?_
    show Gl _ _ _ _ _ _ _ (T59.setTop (mkF m 35 #[.val (.int p1), .val (.int p2), .val (.int p3), .val (.int p4), .val (.int p5), .val (.int p6), .val (.int (4 : Int32)), .val (.int (own_pick p2 (0 : Int32) p3)), .val (.int (own_pick p2 (1 : Int32) p4)), .val (.int (own_pick p2 (2 : Int32) p5)), .unset, .unset, .unset, .unset] [(.int (3 : Int32)), (.int p2)]))
    refine Gl.st (fun t k => XS.iload X59.here hx rfl (hb hby at_35) rfl  k) ?_
    show Gl _ _ _ _ _ _ _ (T59.setTop (mkF m 37 #[.val (.int p1), .val (.int p2), .val (.int p3), .val (.int p4), .val (.int p5), .val (.int p6), .val (.int (4 : Int32)), .val (.int (own_pick p2 (0 : Int32) p3)), .val (.int (own_pick p2 (1 : Int32) p4)), .val (.int (own_pick p2 (2 : Int32) p5)), .unset, .unset, .unset, .unset] [(.int p6), (.int (3 : Int32)), (.int p2)]))
    obtain ⟨_, _, ⟨T60, L60, k60, n60⟩, -, X60, ⟨Lc60, hQ60, l60, y60, z60⟩, st60⟩ := Jvm.LawKit.callS X59 hx (y := (⟨"com/example/enact/enact/engine/MarkingIsEmptyPinLaw", "pick", "(III)I"⟩ : MethodName)) hown (mvT hZ (hw _ (List.mem_of_getElem? (i := 0) rfl))) (mvT hZ (hw _ (List.mem_of_getElem? (i := 1) rfl))) (mvT hZ (hw _ (List.mem_of_getElem? (i := 2) rfl))) (mvT hZ (hw _ (List.mem_of_getElem? (i := 3) rfl))) (by decide) (backOf (W := 0) (rm1 l Z a0 hw [] p2 (3 : Int32) p6 h0 n0) hZ (hw _ (List.mem_of_getElem? (i := 3) rfl)) (hw _ (List.mem_of_getElem? (i := 2) rfl)) (by decide) (by decide)) (g := (mkF m 37 #[.val (.int p1), .val (.int p2), .val (.int p3), .val (.int p4), .val (.int p5), .val (.int p6), .val (.int (4 : Int32)), .val (.int (own_pick p2 (0 : Int32) p3)), .val (.int (own_pick p2 (1 : Int32) p4)), .val (.int (own_pick p2 (2 : Int32) p5)), .unset, .unset, .unset, .unset] [(.int p6), (.int (3 : Int32)), (.int p2)])) rfl (by rw [hml]; rfl) (argsL := [(.int p2), (.int (3 : Int32)), (.int p6)]) (rest := []) (lenOf pd_0 rfl) rfl (by show 2 * 0 + _ ≤ _; exact Nat.le_of_eq rfl) (hb hby at_37) (fun _ _ => ⟨rfl, e59, (by decide : 0 + 0 ≤ _), (by decide : 0 + 0 ≤ _)⟩)
    dsimp only [Pt.U, Pt.locs, Pt.cells, Pt.slots] at X60 l60 y60 z60 st60 hQ60
    subst l60 y60 z60
    obtain ⟨rfl, N60q, e60⟩ := hQ60
    have N60 := Fr.app N59 N60q
    refine Gl.st st60 ?_
    show Gl _ _ _ _ _ _ _ (T60.setTop (mkF m 40 #[.val (.int p1), .val (.int p2), .val (.int p3), .val (.int p4), .val (.int p5), .val (.int p6), .val (.int (4 : Int32)), .val (.int (own_pick p2 (0 : Int32) p3)), .val (.int (own_pick p2 (1 : Int32) p4)), .val (.int (own_pick p2 (2 : Int32) p5)), .unset, .unset, .unset, .unset] [(.int (own_pick p2 (3 : Int32) p6))]))
    refine Gl.st (fun t k => XS.istore X60.here hx rfl (hb hby at_40) rfl (l' := #[.val (.int p1), .val (.int p2), .val (.int p3), .val (.int p4), .val (.int p5), .val (.int p6), .val (.int (4 : Int32)), .val (.int (own_pick p2 (0 : Int32) p3)), .val (.int (own_pick p2 (1 : Int32) p4)), .val (.int (own_pick p2 (2 : Int32) p5)), .val (.int (own_pick p2 (3 : Int32) p6)), .unset, .unset, .unset]) rfl k) ?_
    show Gl _ _ _ _ _ _ _ (T60.setTop (mkF m 42 #[.val (.int p1), .val (.int p2), .val (.int p3), .val (.int p4), .val (.int p5), .val (.int p6), .val (.int (4 : Int32)), .val (.int (own_pick p2 (0 : Int32) p3)), .val (.int (own_pick p2 (1 : Int32) p4)), .val (.int (own_pick p2 (2 : Int32) p5)), .val (.int (own_pick p2 (3 : Int32) p6)), .unset, .unset, .unset] []))
    refine Gl.st (fun t k => XS.iload X60.here hx rfl (hb hby at_42) rfl  k) ?_
    show Gl _ _ _ _ _ _ _ (T60.setTop (mkF m 44 #[.val (.int p1), .val (.int p2), .val (.int p3), .val (.int p4), .val (.int p5), .val (.int p6), .val (.int (4 : Int32)), .val (.int (own_pick p2 (0 : Int32) p3)), .val (.int (own_pick p2 (1 : Int32) p4)), .val (.int (own_pick p2 (2 : Int32) p5)), .val (.int (own_pick p2 (3 : Int32) p6)), .unset, .unset, .unset] [(.int (4 : Int32))]))
    obtain ⟨T61, h61, k61, X61, e61, E61, A61, st61⟩ := newP X60 hx hZ (hw _ (List.mem_of_getElem? (i := 5) rfl)) e60 (g := (mkF m 44 #[.val (.int p1), .val (.int p2), .val (.int p3), .val (.int p4), .val (.int p5), .val (.int p6), .val (.int (4 : Int32)), .val (.int (own_pick p2 (0 : Int32) p3)), .val (.int (own_pick p2 (1 : Int32) p4)), .val (.int (own_pick p2 (2 : Int32) p5)), .val (.int (own_pick p2 (3 : Int32) p6)), .unset, .unset, .unset] [(.int (4 : Int32))])) rfl (hb hby at_44) rfl (by decide) (cap := 4) (by decide) (by decide) (by decide) (by decide)
    obtain ⟨b61, g61⟩ : ∃ z, z = h0.size := ⟨_, rfl⟩
    rw [← g61] at A61 st61
    refine Gl.st st61 ?_
    have gzb61 : n0 ≤ b61 := Nat.le_trans Z0 (Nat.le_of_eq g61.symm)
    have Z61 : n0 ≤ h61.size := Nat.le_trans Z0 E61.1
    have V61 : Arv Z h61 b61 k61 .int (4 : Int32) [(.int (0 : Int32)), (.int (0 : Int32)), (.int (0 : Int32)), (.int (0 : Int32))] (.int (0 : Int32)) := (Arv.new A61 (by decide)).pad (pad_rep [] (.int (0 : Int32)) 4)
    show Gl _ _ _ _ _ _ _ (T61.setTop (mkF m 46 #[.val (.int p1), .val (.int p2), .val (.int p3), .val (.int p4), .val (.int p5), .val (.int p6), .val (.int (4 : Int32)), .val (.int (own_pick p2 (0 : Int32) p3)), .val (.int (own_pick p2 (1 : Int32) p4)), .val (.int (own_pick p2 (2 : Int32) p5)), .val (.int (own_pick p2 (3 : Int32) p6)), .unset, .unset, .unset] [(.ref b61)]))
    refine Gl.st (fun t k => XS.astore X61.here hx rfl (hb hby at_46) rfl rfl (l' := #[.val (.int p1), .val (.int p2), .val (.int p3), .val (.int p4), .val (.int p5), .val (.int p6), .val (.int (4 : Int32)), .val (.int (own_pick p2 (0 : Int32) p3)), .val (.int (own_pick p2 (1 : Int32) p4)), .val (.int (own_pick p2 (2 : Int32) p5)), .val (.int (own_pick p2 (3 : Int32) p6)), .val (.ref b61), .unset, .unset]) rfl k) ?_
    show Gl _ _ _ _ _ _ _ (T61.setTop (mkF m 48 #[.val (.int p1), .val (.int p2), .val (.int p3), .val (.int p4), .val (.int p5), .val (.int p6), .val (.int (4 : Int32)), .val (.int (own_pick p2 (0 : Int32) p3)), .val (.int (own_pick p2 (1 : Int32) p4)), .val (.int (own_pick p2 (2 : Int32) p5)), .val (.int (own_pick p2 (3 : Int32) p6)), .val (.ref b61), .unset, .unset] []))
    refine Gl.st (fun t k => XS.iload X61.here hx rfl (hb hby at_48) rfl  k) ?_
    show Gl _ _ _ _ _ _ _ (T61.setTop (mkF m 50 #[.val (.int p1), .val (.int p2), .val (.int p3), .val (.int p4), .val (.int p5), .val (.int p6), .val (.int (4 : Int32)), .val (.int (own_pick p2 (0 : Int32) p3)), .val (.int (own_pick p2 (1 : Int32) p4)), .val (.int (own_pick p2 (2 : Int32) p5)), .val (.int (own_pick p2 (3 : Int32) p6)), .val (.ref b61), .unset, .unset] [(.int (4 : Int32))]))
    refine Gl.st (fun t k => XS.ifNo X61.here hx rfl (hb hby at_50) rfl ((if0 _ _).trans (tlt (by decide : (0 : Int32) < (4 : Int32))).2.2.2) k) ?_
    show Gl _ _ _ _ _ _ _ (T61.setTop (mkF m 53 #[.val (.int p1), .val (.int p2), .val (.int p3), .val (.int p4), .val (.int p5), .val (.int p6), .val (.int (4 : Int32)), .val (.int (own_pick p2 (0 : Int32) p3)), .val (.int (own_pick p2 (1 : Int32) p4)), .val (.int (own_pick p2 (2 : Int32) p5)), .val (.int (own_pick p2 (3 : Int32) p6)), .val (.ref b61), .unset, .unset] []))
    refine Gl.st (fun t k => XS.aload X61.here hx rfl (hb hby at_53) rfl rfl k) ?_
    show Gl _ _ _ _ _ _ _ (T61.setTop (mkF m 55 #[.val (.int p1), .val (.int p2), .val (.int p3), .val (.int p4), .val (.int p5), .val (.int p6), .val (.int (4 : Int32)), .val (.int (own_pick p2 (0 : Int32) p3)), .val (.int (own_pick p2 (1 : Int32) p4)), .val (.int (own_pick p2 (2 : Int32) p5)), .val (.int (own_pick p2 (3 : Int32) p6)), .val (.ref b61), .unset, .unset] [(.ref b61)]))
    refine Gl.st (fun t k => XS.iconst X61.here hx rfl (hb hby at_55) k) ?_
    show Gl _ _ _ _ _ _ _ (T61.setTop (mkF m 56 #[.val (.int p1), .val (.int p2), .val (.int p3), .val (.int p4), .val (.int p5), .val (.int p6), .val (.int (4 : Int32)), .val (.int (own_pick p2 (0 : Int32) p3)), .val (.int (own_pick p2 (1 : Int32) p4)), .val (.int (own_pick p2 (2 : Int32) p5)), .val (.int (own_pick p2 (3 : Int32) p6)), .val (.ref b61), .unset, .unset] [(.int (0 : Int32)), (.ref b61)]))
    refine Gl.st (fun t k => XS.iload X61.here hx rfl (hb hby at_56) rfl  k) ?_
    show Gl _ _ _ _ _ _ _ (T61.setTop (mkF m 58 #[.val (.int p1), .val (.int p2), .val (.int p3), .val (.int p4), .val (.int p5), .val (.int p6), .val (.int (4 : Int32)), .val (.int (own_pick p2 (0 : Int32) p3)), .val (.int (own_pick p2 (1 : Int32) p4)), .val (.int (own_pick p2 (2 : Int32) p5)), .val (.int (own_pick p2 (3 : Int32) p6)), .val (.ref b61), .unset, .unset] [(.int (own_pick p2 (0 : Int32) p3)), (.int (0 : Int32)), (.ref b61)]))
    have Vx62 := V61
    obtain ⟨cl62, Ar62, qk62, S62, M62, H62, G62⟩ := Vx62
    have hin62 : ¬ ((0 : Int32) < 0 ∨ cl62.slots.size ≤ ((0 : Int32)).toNatClampNeg) := inb_of S62 ⟨by decide, by decide⟩
    obtain ⟨T62, h62, X62, e62, W62, st62⟩ := stI X61 hx hZ e61 Ar62 (j := (0 : Int32)) hin62 (g := (mkF m 58 #[.val (.int p1), .val (.int p2), .val (.int p3), .val (.int p4), .val (.int p5), .val (.int p6), .val (.int (4 : Int32)), .val (.int (own_pick p2 (0 : Int32) p3)), .val (.int (own_pick p2 (1 : Int32) p4)), .val (.int (own_pick p2 (2 : Int32) p5)), .val (.int (own_pick p2 (3 : Int32) p6)), .val (.ref b61), .unset, .unset] [(.int (own_pick p2 (0 : Int32) p3)), (.int (0 : Int32)), (.ref b61)])) rfl rfl (hb hby at_58)
    refine Gl.st st62 ?_
    have Z62 : n0 ≤ h62.size := Nat.le_trans Z61 (Keep.of_wr W62).1
    have N62 := Fr.snoc X62 N60 gzb61
    have V62 : Arv Z h62 b61 k61 .int (4 : Int32) [(.int (own_pick p2 (0 : Int32) p3)), (.int (0 : Int32)), (.int (0 : Int32)), (.int (0 : Int32))] (.int (0 : Int32)) := Arv.set Ar62 qk62 S62 M62 H62 G62 rfl W62 0 rfl (Nat.le_of_ble_eq_true rfl)
    show Gl _ _ _ _ _ _ _ (T62.setTop (mkF m 59 #[.val (.int p1), .val (.int p2), .val (.int p3), .val (.int p4), .val (.int p5), .val (.int p6), .val (.int (4 : Int32)), .val (.int (own_pick p2 (0 : Int32) p3)), .val (.int (own_pick p2 (1 : Int32) p4)), .val (.int (own_pick p2 (2 : Int32) p5)), .val (.int (own_pick p2 (3 : Int32) p6)), .val (.ref b61), .unset, .unset] []))
    refine Gl.st (fun t k => XS.iload X62.here hx rfl (hb hby at_59) rfl  k) ?_
    show Gl _ _ _ _ _ _ _ (T62.setTop (mkF m 61 #[.val (.int p1), .val (.int p2), .val (.int p3), .val (.int p4), .val (.int p5), .val (.int p6), .val (.int (4 : Int32)), .val (.int (own_pick p2 (0 : Int32) p3)), .val (.int (own_pick p2 (1 : Int32) p4)), .val (.int (own_pick p2 (2 : Int32) p5)), .val (.int (own_pick p2 (3 : Int32) p6)), .val (.ref b61), .unset, .unset] [(.int (4 : Int32))]))
    refine Gl.st (fun t k => XS.iconst X62.here hx rfl (hb hby at_61) k) ?_
    show Gl _ _ _ _ _ _ _ (T62.setTop (mkF m 62 #[.val (.int p1), .val (.int p2), .val (.int p3), .val (.int p4), .val (.int p5), .val (.int p6), .val (.int (4 : Int32)), .val (.int (own_pick p2 (0 : Int32) p3)), .val (.int (own_pick p2 (1 : Int32) p4)), .val (.int (own_pick p2 (2 : Int32) p5)), .val (.int (own_pick p2 (3 : Int32) p6)), .val (.ref b61), .unset, .unset] [(.int (1 : Int32)), (.int (4 : Int32))]))
    refine Gl.st (fun t k => XS.icmpNo X62.here hx rfl (hb hby at_62) rfl (tlt (by decide : (1 : Int32) < (4 : Int32))).2.2.2 k) ?_
    show Gl _ _ _ _ _ _ _ (T62.setTop (mkF m 65 #[.val (.int p1), .val (.int p2), .val (.int p3), .val (.int p4), .val (.int p5), .val (.int p6), .val (.int (4 : Int32)), .val (.int (own_pick p2 (0 : Int32) p3)), .val (.int (own_pick p2 (1 : Int32) p4)), .val (.int (own_pick p2 (2 : Int32) p5)), .val (.int (own_pick p2 (3 : Int32) p6)), .val (.ref b61), .unset, .unset] []))
    refine Gl.st (fun t k => XS.aload X62.here hx rfl (hb hby at_65) rfl rfl k) ?_
    show Gl _ _ _ _ _ _ _ (T62.setTop (mkF m 67 #[.val (.int p1), .val (.int p2), .val (.int p3), .val (.int p4), .val (.int p5), .val (.int p6), .val (.int (4 : Int32)), .val (.int (own_pick p2 (0 : Int32) p3)), .val (.int (own_pick p2 (1 : Int32) p4)), .val (.int (own_pick p2 (2 : Int32) p5)), .val (.int (own_pick p2 (3 : Int32) p6)), .val (.ref b61), .unset, .unset] [(.ref b61)]))
    refine Gl.st (fun t k => XS.iconst X62.here hx rfl (hb hby at_67) k) ?_
    show Gl _ _ _ _ _ _ _ (T62.setTop (mkF m 68 #[.val (.int p1), .val (.int p2), .val (.int p3), .val (.int p4), .val (.int p5), .val (.int p6), .val (.int (4 : Int32)), .val (.int (own_pick p2 (0 : Int32) p3)), .val (.int (own_pick p2 (1 : Int32) p4)), .val (.int (own_pick p2 (2 : Int32) p5)), .val (.int (own_pick p2 (3 : Int32) p6)), .val (.ref b61), .unset, .unset] [(.int (1 : Int32)), (.ref b61)]))
    refine Gl.st (fun t k => XS.iload X62.here hx rfl (hb hby at_68) rfl  k) ?_
    show Gl _ _ _ _ _ _ _ (T62.setTop (mkF m 70 #[.val (.int p1), .val (.int p2), .val (.int p3), .val (.int p4), .val (.int p5), .val (.int p6), .val (.int (4 : Int32)), .val (.int (own_pick p2 (0 : Int32) p3)), .val (.int (own_pick p2 (1 : Int32) p4)), .val (.int (own_pick p2 (2 : Int32) p5)), .val (.int (own_pick p2 (3 : Int32) p6)), .val (.ref b61), .unset, .unset] [(.int (own_pick p2 (1 : Int32) p4)), (.int (1 : Int32)), (.ref b61)]))
    have Vx63 := V62
    obtain ⟨cl63, Ar63, qk63, S63, M63, H63, G63⟩ := Vx63
    have hin63 : ¬ ((1 : Int32) < 0 ∨ cl63.slots.size ≤ ((1 : Int32)).toNatClampNeg) := inb_of S63 ⟨by decide, by decide⟩
    obtain ⟨T63, h63, X63, e63, W63, st63⟩ := stI X62 hx hZ e62 Ar63 (j := (1 : Int32)) hin63 (g := (mkF m 70 #[.val (.int p1), .val (.int p2), .val (.int p3), .val (.int p4), .val (.int p5), .val (.int p6), .val (.int (4 : Int32)), .val (.int (own_pick p2 (0 : Int32) p3)), .val (.int (own_pick p2 (1 : Int32) p4)), .val (.int (own_pick p2 (2 : Int32) p5)), .val (.int (own_pick p2 (3 : Int32) p6)), .val (.ref b61), .unset, .unset] [(.int (own_pick p2 (1 : Int32) p4)), (.int (1 : Int32)), (.ref b61)])) rfl rfl (hb hby at_70)
    refine Gl.st st63 ?_
    have Z63 : n0 ≤ h63.size := Nat.le_trans Z62 (Keep.of_wr W63).1
    have N63 := Fr.snoc X63 N62 gzb61
    have V63 : Arv Z h63 b61 k61 .int (4 : Int32) [(.int (own_pick p2 (0 : Int32) p3)), (.int (own_pick p2 (1 : Int32) p4)), (.int (0 : Int32)), (.int (0 : Int32))] (.int (0 : Int32)) := Arv.set Ar63 qk63 S63 M63 H63 G63 rfl W63 1 rfl (Nat.le_of_ble_eq_true rfl)
    show Gl _ _ _ _ _ _ _ (T63.setTop (mkF m 71 #[.val (.int p1), .val (.int p2), .val (.int p3), .val (.int p4), .val (.int p5), .val (.int p6), .val (.int (4 : Int32)), .val (.int (own_pick p2 (0 : Int32) p3)), .val (.int (own_pick p2 (1 : Int32) p4)), .val (.int (own_pick p2 (2 : Int32) p5)), .val (.int (own_pick p2 (3 : Int32) p6)), .val (.ref b61), .unset, .unset] []))
    refine Gl.st (fun t k => XS.iload X63.here hx rfl (hb hby at_71) rfl  k) ?_
    show Gl _ _ _ _ _ _ _ (T63.setTop (mkF m 73 #[.val (.int p1), .val (.int p2), .val (.int p3), .val (.int p4), .val (.int p5), .val (.int p6), .val (.int (4 : Int32)), .val (.int (own_pick p2 (0 : Int32) p3)), .val (.int (own_pick p2 (1 : Int32) p4)), .val (.int (own_pick p2 (2 : Int32) p5)), .val (.int (own_pick p2 (3 : Int32) p6)), .val (.ref b61), .unset, .unset] [(.int (4 : Int32))]))
    refine Gl.st (fun t k => XS.iconst X63.here hx rfl (hb hby at_73) k) ?_
    show Gl _ _ _ _ _ _ _ (T63.setTop (mkF m 74 #[.val (.int p1), .val (.int p2), .val (.int p3), .val (.int p4), .val (.int p5), .val (.int p6), .val (.int (4 : Int32)), .val (.int (own_pick p2 (0 : Int32) p3)), .val (.int (own_pick p2 (1 : Int32) p4)), .val (.int (own_pick p2 (2 : Int32) p5)), .val (.int (own_pick p2 (3 : Int32) p6)), .val (.ref b61), .unset, .unset] [(.int (2 : Int32)), (.int (4 : Int32))]))
    refine Gl.st (fun t k => XS.icmpNo X63.here hx rfl (hb hby at_74) rfl (tlt (by decide : (2 : Int32) < (4 : Int32))).2.2.2 k) ?_
    show Gl _ _ _ _ _ _ _ (T63.setTop (mkF m 77 #[.val (.int p1), .val (.int p2), .val (.int p3), .val (.int p4), .val (.int p5), .val (.int p6), .val (.int (4 : Int32)), .val (.int (own_pick p2 (0 : Int32) p3)), .val (.int (own_pick p2 (1 : Int32) p4)), .val (.int (own_pick p2 (2 : Int32) p5)), .val (.int (own_pick p2 (3 : Int32) p6)), .val (.ref b61), .unset, .unset] []))
    refine Gl.st (fun t k => XS.aload X63.here hx rfl (hb hby at_77) rfl rfl k) ?_
    show Gl _ _ _ _ _ _ _ (T63.setTop (mkF m 79 #[.val (.int p1), .val (.int p2), .val (.int p3), .val (.int p4), .val (.int p5), .val (.int p6), .val (.int (4 : Int32)), .val (.int (own_pick p2 (0 : Int32) p3)), .val (.int (own_pick p2 (1 : Int32) p4)), .val (.int (own_pick p2 (2 : Int32) p5)), .val (.int (own_pick p2 (3 : Int32) p6)), .val (.ref b61), .unset, .unset] [(.ref b61)]))
    refine Gl.st (fun t k => XS.iconst X63.here hx rfl (hb hby at_79) k) ?_
    show Gl _ _ _ _ _ _ _ (T63.setTop (mkF m 80 #[.val (.int p1), .val (.int p2), .val (.int p3), .val (.int p4), .val (.int p5), .val (.int p6), .val (.int (4 : Int32)), .val (.int (own_pick p2 (0 : Int32) p3)), .val (.int (own_pick p2 (1 : Int32) p4)), .val (.int (own_pick p2 (2 : Int32) p5)), .val (.int (own_pick p2 (3 : Int32) p6)), .val (.ref b61), .unset, .unset] [(.int (2 : Int32)), (.ref b61)]))
    refine Gl.st (fun t k => XS.iload X63.here hx rfl (hb hby at_80) rfl  k) ?_
    show Gl _ _ _ _ _ _ _ (T63.setTop (mkF m 82 #[.val (.int p1), .val (.int p2), .val (.int p3), .val (.int p4), .val (.int p5), .val (.int p6), .val (.int (4 : Int32)), .val (.int (own_pick p2 (0 : Int32) p3)), .val (.int (own_pick p2 (1 : Int32) p4)), .val (.int (own_pick p2 (2 : Int32) p5)), .val (.int (own_pick p2 (3 : Int32) p6)), .val (.ref b61), .unset, .unset] [(.int (own_pick p2 (2 : Int32) p5)), (.int (2 : Int32)), (.ref b61)]))
    have Vx64 := V63
    obtain ⟨cl64, Ar64, qk64, S64, M64, H64, G64⟩ := Vx64
    have hin64 : ¬ ((2 : Int32) < 0 ∨ cl64.slots.size ≤ ((2 : Int32)).toNatClampNeg) := inb_of S64 ⟨by decide, by decide⟩
    obtain ⟨T64, h64, X64, e64, W64, st64⟩ := stI X63 hx hZ e63 Ar64 (j := (2 : Int32)) hin64 (g := (mkF m 82 #[.val (.int p1), .val (.int p2), .val (.int p3), .val (.int p4), .val (.int p5), .val (.int p6), .val (.int (4 : Int32)), .val (.int (own_pick p2 (0 : Int32) p3)), .val (.int (own_pick p2 (1 : Int32) p4)), .val (.int (own_pick p2 (2 : Int32) p5)), .val (.int (own_pick p2 (3 : Int32) p6)), .val (.ref b61), .unset, .unset] [(.int (own_pick p2 (2 : Int32) p5)), (.int (2 : Int32)), (.ref b61)])) rfl rfl (hb hby at_82)
    refine Gl.st st64 ?_
    have Z64 : n0 ≤ h64.size := Nat.le_trans Z63 (Keep.of_wr W64).1
    have N64 := Fr.snoc X64 N63 gzb61
    have V64 : Arv Z h64 b61 k61 .int (4 : Int32) [(.int (own_pick p2 (0 : Int32) p3)), (.int (own_pick p2 (1 : Int32) p4)), (.int (own_pick p2 (2 : Int32) p5)), (.int (0 : Int32))] (.int (0 : Int32)) := Arv.set Ar64 qk64 S64 M64 H64 G64 rfl W64 2 rfl (Nat.le_of_ble_eq_true rfl)
    show Gl _ _ _ _ _ _ _ (T64.setTop (mkF m 83 #[.val (.int p1), .val (.int p2), .val (.int p3), .val (.int p4), .val (.int p5), .val (.int p6), .val (.int (4 : Int32)), .val (.int (own_pick p2 (0 : Int32) p3)), .val (.int (own_pick p2 (1 : Int32) p4)), .val (.int (own_pick p2 (2 : Int32) p5)), .val (.int (own_pick p2 (3 : Int32) p6)), .val (.ref b61), .unset, .unset] []))
    refine Gl.st (fun t k => XS.iload X64.here hx rfl (hb hby at_83) rfl  k) ?_
    show Gl _ _ _ _ _ _ _ (T64.setTop (mkF m 85 #[.val (.int p1), .val (.int p2), .val (.int p3), .val (.int p4), .val (.int p5), .val (.int p6), .val (.int (4 : Int32)), .val (.int (own_pick p2 (0 : Int32) p3)), .val (.int (own_pick p2 (1 : Int32) p4)), .val (.int (own_pick p2 (2 : Int32) p5)), .val (.int (own_pick p2 (3 : Int32) p6)), .val (.ref b61), .unset, .unset] [(.int (4 : Int32))]))
    refine Gl.st (fun t k => XS.iconst X64.here hx rfl (hb hby at_85) k) ?_
    show Gl _ _ _ _ _ _ _ (T64.setTop (mkF m 86 #[.val (.int p1), .val (.int p2), .val (.int p3), .val (.int p4), .val (.int p5), .val (.int p6), .val (.int (4 : Int32)), .val (.int (own_pick p2 (0 : Int32) p3)), .val (.int (own_pick p2 (1 : Int32) p4)), .val (.int (own_pick p2 (2 : Int32) p5)), .val (.int (own_pick p2 (3 : Int32) p6)), .val (.ref b61), .unset, .unset] [(.int (3 : Int32)), (.int (4 : Int32))]))
    refine Gl.st (fun t k => XS.icmpNo X64.here hx rfl (hb hby at_86) rfl (tlt (by decide : (3 : Int32) < (4 : Int32))).2.2.2 k) ?_
    show Gl _ _ _ _ _ _ _ (T64.setTop (mkF m 89 #[.val (.int p1), .val (.int p2), .val (.int p3), .val (.int p4), .val (.int p5), .val (.int p6), .val (.int (4 : Int32)), .val (.int (own_pick p2 (0 : Int32) p3)), .val (.int (own_pick p2 (1 : Int32) p4)), .val (.int (own_pick p2 (2 : Int32) p5)), .val (.int (own_pick p2 (3 : Int32) p6)), .val (.ref b61), .unset, .unset] []))
    refine Gl.st (fun t k => XS.aload X64.here hx rfl (hb hby at_89) rfl rfl k) ?_
    show Gl _ _ _ _ _ _ _ (T64.setTop (mkF m 91 #[.val (.int p1), .val (.int p2), .val (.int p3), .val (.int p4), .val (.int p5), .val (.int p6), .val (.int (4 : Int32)), .val (.int (own_pick p2 (0 : Int32) p3)), .val (.int (own_pick p2 (1 : Int32) p4)), .val (.int (own_pick p2 (2 : Int32) p5)), .val (.int (own_pick p2 (3 : Int32) p6)), .val (.ref b61), .unset, .unset] [(.ref b61)]))
    refine Gl.st (fun t k => XS.iconst X64.here hx rfl (hb hby at_91) k) ?_
    show Gl _ _ _ _ _ _ _ (T64.setTop (mkF m 92 #[.val (.int p1), .val (.int p2), .val (.int p3), .val (.int p4), .val (.int p5), .val (.int p6), .val (.int (4 : Int32)), .val (.int (own_pick p2 (0 : Int32) p3)), .val (.int (own_pick p2 (1 : Int32) p4)), .val (.int (own_pick p2 (2 : Int32) p5)), .val (.int (own_pick p2 (3 : Int32) p6)), .val (.ref b61), .unset, .unset] [(.int (3 : Int32)), (.ref b61)]))
    refine Gl.st (fun t k => XS.iload X64.here hx rfl (hb hby at_92) rfl  k) ?_
    show Gl _ _ _ _ _ _ _ (T64.setTop (mkF m 94 #[.val (.int p1), .val (.int p2), .val (.int p3), .val (.int p4), .val (.int p5), .val (.int p6), .val (.int (4 : Int32)), .val (.int (own_pick p2 (0 : Int32) p3)), .val (.int (own_pick p2 (1 : Int32) p4)), .val (.int (own_pick p2 (2 : Int32) p5)), .val (.int (own_pick p2 (3 : Int32) p6)), .val (.ref b61), .unset, .unset] [(.int (own_pick p2 (3 : Int32) p6)), (.int (3 : Int32)), (.ref b61)]))
    have Vx65 := V64
    obtain ⟨cl65, Ar65, qk65, S65, M65, H65, G65⟩ := Vx65
    have hin65 : ¬ ((3 : Int32) < 0 ∨ cl65.slots.size ≤ ((3 : Int32)).toNatClampNeg) := inb_of S65 ⟨by decide, by decide⟩
    obtain ⟨T65, h65, X65, e65, W65, st65⟩ := stI X64 hx hZ e64 Ar65 (j := (3 : Int32)) hin65 (g := (mkF m 94 #[.val (.int p1), .val (.int p2), .val (.int p3), .val (.int p4), .val (.int p5), .val (.int p6), .val (.int (4 : Int32)), .val (.int (own_pick p2 (0 : Int32) p3)), .val (.int (own_pick p2 (1 : Int32) p4)), .val (.int (own_pick p2 (2 : Int32) p5)), .val (.int (own_pick p2 (3 : Int32) p6)), .val (.ref b61), .unset, .unset] [(.int (own_pick p2 (3 : Int32) p6)), (.int (3 : Int32)), (.ref b61)])) rfl rfl (hb hby at_94)
    refine Gl.st st65 ?_
    have Z65 : n0 ≤ h65.size := Nat.le_trans Z64 (Keep.of_wr W65).1
    have N65 := Fr.snoc X65 N64 gzb61
    have V65 : Arv Z h65 b61 k61 .int (4 : Int32) [(.int (own_pick p2 (0 : Int32) p3)), (.int (own_pick p2 (1 : Int32) p4)), (.int (own_pick p2 (2 : Int32) p5)), (.int (own_pick p2 (3 : Int32) p6))] (.int (0 : Int32)) := Arv.set Ar65 qk65 S65 M65 H65 G65 rfl W65 3 rfl (Nat.le_of_ble_eq_true rfl)
    show Gl _ _ _ _ _ _ _ (T65.setTop (mkF m 95 #[.val (.int p1), .val (.int p2), .val (.int p3), .val (.int p4), .val (.int p5), .val (.int p6), .val (.int (4 : Int32)), .val (.int (own_pick p2 (0 : Int32) p3)), .val (.int (own_pick p2 (1 : Int32) p4)), .val (.int (own_pick p2 (2 : Int32) p5)), .val (.int (own_pick p2 (3 : Int32) p6)), .val (.ref b61), .unset, .unset] []))
    refine Gl.st (fun t k => XS.iconst X65.here hx rfl (hb hby at_95) k) ?_
    show Gl _ _ _ _ _ _ _ (T65.setTop (mkF m 96 #[.val (.int p1), .val (.int p2), .val (.int p3), .val (.int p4), .val (.int p5), .val (.int p6), .val (.int (4 : Int32)), .val (.int (own_pick p2 (0 : Int32) p3)), .val (.int (own_pick p2 (1 : Int32) p4)), .val (.int (own_pick p2 (2 : Int32) p5)), .val (.int (own_pick p2 (3 : Int32) p6)), .val (.ref b61), .unset, .unset] [(.int (1 : Int32))]))
    refine Gl.st (fun t k => XS.istore X65.here hx rfl (hb hby at_96) rfl (l' := #[.val (.int p1), .val (.int p2), .val (.int p3), .val (.int p4), .val (.int p5), .val (.int p6), .val (.int (4 : Int32)), .val (.int (own_pick p2 (0 : Int32) p3)), .val (.int (own_pick p2 (1 : Int32) p4)), .val (.int (own_pick p2 (2 : Int32) p5)), .val (.int (own_pick p2 (3 : Int32) p6)), .val (.ref b61), .val (.int (1 : Int32)), .unset]) rfl k) ?_
    show Gl _ _ _ _ _ _ _ (T65.setTop (mkF m 98 #[.val (.int p1), .val (.int p2), .val (.int p3), .val (.int p4), .val (.int p5), .val (.int p6), .val (.int (4 : Int32)), .val (.int (own_pick p2 (0 : Int32) p3)), .val (.int (own_pick p2 (1 : Int32) p4)), .val (.int (own_pick p2 (2 : Int32) p5)), .val (.int (own_pick p2 (3 : Int32) p6)), .val (.ref b61), .val (.int (1 : Int32)), .unset] []))
    refine Gl.st (fun t k => XS.iload X65.here hx rfl (hb hby at_98) rfl  k) ?_
    show Gl _ _ _ _ _ _ _ (T65.setTop (mkF m 100 #[.val (.int p1), .val (.int p2), .val (.int p3), .val (.int p4), .val (.int p5), .val (.int p6), .val (.int (4 : Int32)), .val (.int (own_pick p2 (0 : Int32) p3)), .val (.int (own_pick p2 (1 : Int32) p4)), .val (.int (own_pick p2 (2 : Int32) p5)), .val (.int (own_pick p2 (3 : Int32) p6)), .val (.ref b61), .val (.int (1 : Int32)), .unset] [(.int (4 : Int32))]))
    refine Gl.st (fun t k => XS.ifNo X65.here hx rfl (hb hby at_100) rfl ((if0 _ _).trans (tlt (by decide : (0 : Int32) < (4 : Int32))).2.2.2) k) ?_
    show Gl _ _ _ _ _ _ _ (T65.setTop (mkF m 103 #[.val (.int p1), .val (.int p2), .val (.int p3), .val (.int p4), .val (.int p5), .val (.int p6), .val (.int (4 : Int32)), .val (.int (own_pick p2 (0 : Int32) p3)), .val (.int (own_pick p2 (1 : Int32) p4)), .val (.int (own_pick p2 (2 : Int32) p5)), .val (.int (own_pick p2 (3 : Int32) p6)), .val (.ref b61), .val (.int (1 : Int32)), .unset] []))
    refine Gl.st (fun t k => XS.iload X65.here hx rfl (hb hby at_103) rfl  k) ?_
    show Gl _ _ _ _ _ _ _ (T65.setTop (mkF m 105 #[.val (.int p1), .val (.int p2), .val (.int p3), .val (.int p4), .val (.int p5), .val (.int p6), .val (.int (4 : Int32)), .val (.int (own_pick p2 (0 : Int32) p3)), .val (.int (own_pick p2 (1 : Int32) p4)), .val (.int (own_pick p2 (2 : Int32) p5)), .val (.int (own_pick p2 (3 : Int32) p6)), .val (.ref b61), .val (.int (1 : Int32)), .unset] [(.int (own_pick p2 (0 : Int32) p3))]))
    have J66 : ∀ (Tj66 : State) (Lj66 : List Loc) (Xj66 : Stand p l e room_1 s m #[(.int p1), (.int p2), (.int p3), (.int p4), (.int p5), (.int p6)] below meth c Tj66 Lj66 1 4) (ej66 : Tj66.heap = h65) (Nj66 : Fr n0 Lj66) (z111l12 : Int32) (hz111l12 : z111l12 = (if (own_pick p2 (0 : Int32) p3) = (0 : Int32) then (1 : Int32) else (0 : Int32))), Gl p e below s (Q0 Z p1 p2 p3 p4 p5 p6 h0 n0) room_1.cells room_1.slots (Tj66.setTop (mkF m 111 #[.val (.int p1), .val (.int p2), .val (.int p3), .val (.int p4), .val (.int p5), .val (.int p6), .val (.int (4 : Int32)), .val (.int (own_pick p2 (0 : Int32) p3)), .val (.int (own_pick p2 (1 : Int32) p4)), .val (.int (own_pick p2 (2 : Int32) p5)), .val (.int (own_pick p2 (3 : Int32) p6)), .val (.ref b61), .val (.int z111l12), .unset] [])) := by
      intro Tj66 Lj66 Xj66 ej66 Nj66 z111l12 hz111l12
      show Gl _ _ _ _ _ _ _ (Tj66.setTop (mkF m 111 #[.val (.int p1), .val (.int p2), .val (.int p3), .val (.int p4), .val (.int p5), .val (.int p6), .val (.int (4 : Int32)), .val (.int (own_pick p2 (0 : Int32) p3)), .val (.int (own_pick p2 (1 : Int32) p4)), .val (.int (own_pick p2 (2 : Int32) p5)), .val (.int (own_pick p2 (3 : Int32) p6)), .val (.ref b61), .val (.int z111l12), .unset] []))
      refine Gl.st (fun t k => XS.iload Xj66.here hx rfl (hb hby at_111) rfl  k) ?_
      show Gl _ _ _ _ _ _ _ (Tj66.setTop (mkF m 113 #[.val (.int p1), .val (.int p2), .val (.int p3), .val (.int p4), .val (.int p5), .val (.int p6), .val (.int (4 : Int32)), .val (.int (own_pick p2 (0 : Int32) p3)), .val (.int (own_pick p2 (1 : Int32) p4)), .val (.int (own_pick p2 (2 : Int32) p5)), .val (.int (own_pick p2 (3 : Int32) p6)), .val (.ref b61), .val (.int z111l12), .unset] [(.int (4 : Int32))]))
      refine Gl.st (fun t k => XS.iconst Xj66.here hx rfl (hb hby at_113) k) ?_
      show Gl _ _ _ _ _ _ _ (Tj66.setTop (mkF m 114 #[.val (.int p1), .val (.int p2), .val (.int p3), .val (.int p4), .val (.int p5), .val (.int p6), .val (.int (4 : Int32)), .val (.int (own_pick p2 (0 : Int32) p3)), .val (.int (own_pick p2 (1 : Int32) p4)), .val (.int (own_pick p2 (2 : Int32) p5)), .val (.int (own_pick p2 (3 : Int32) p6)), .val (.ref b61), .val (.int z111l12), .unset] [(.int (1 : Int32)), (.int (4 : Int32))]))
      refine Gl.st (fun t k => XS.icmpNo Xj66.here hx rfl (hb hby at_114) rfl (tlt (by decide : (1 : Int32) < (4 : Int32))).2.2.2 k) ?_
      show Gl _ _ _ _ _ _ _ (Tj66.setTop (mkF m 117 #[.val (.int p1), .val (.int p2), .val (.int p3), .val (.int p4), .val (.int p5), .val (.int p6), .val (.int (4 : Int32)), .val (.int (own_pick p2 (0 : Int32) p3)), .val (.int (own_pick p2 (1 : Int32) p4)), .val (.int (own_pick p2 (2 : Int32) p5)), .val (.int (own_pick p2 (3 : Int32) p6)), .val (.ref b61), .val (.int z111l12), .unset] []))
      refine Gl.st (fun t k => XS.iload Xj66.here hx rfl (hb hby at_117) rfl  k) ?_
      show Gl _ _ _ _ _ _ _ (Tj66.setTop (mkF m 119 #[.val (.int p1), .val (.int p2), .val (.int p3), .val (.int p4), .val (.int p5), .val (.int p6), .val (.int (4 : Int32)), .val (.int (own_pick p2 (0 : Int32) p3)), .val (.int (own_pick p2 (1 : Int32) p4)), .val (.int (own_pick p2 (2 : Int32) p5)), .val (.int (own_pick p2 (3 : Int32) p6)), .val (.ref b61), .val (.int z111l12), .unset] [(.int (own_pick p2 (1 : Int32) p4))]))
      have J67 : ∀ (Tj67 : State) (Lj67 : List Loc) (Xj67 : Stand p l e room_1 s m #[(.int p1), (.int p2), (.int p3), (.int p4), (.int p5), (.int p6)] below meth c Tj67 Lj67 1 4) (ej67 : Tj67.heap = h65) (Nj67 : Fr n0 Lj67) (z125l12 : Int32) (hz125l12 : z125l12 = (if (own_pick p2 (1 : Int32) p4) = (0 : Int32) then z111l12 else (0 : Int32))), Gl p e below s (Q0 Z p1 p2 p3 p4 p5 p6 h0 n0) room_1.cells room_1.slots (Tj67.setTop (mkF m 125 #[.val (.int p1), .val (.int p2), .val (.int p3), .val (.int p4), .val (.int p5), .val (.int p6), .val (.int (4 : Int32)), .val (.int (own_pick p2 (0 : Int32) p3)), .val (.int (own_pick p2 (1 : Int32) p4)), .val (.int (own_pick p2 (2 : Int32) p5)), .val (.int (own_pick p2 (3 : Int32) p6)), .val (.ref b61), .val (.int z125l12), .unset] [])) := by
        intro Tj67 Lj67 Xj67 ej67 Nj67 z125l12 hz125l12
        show Gl _ _ _ _ _ _ _ (Tj67.setTop (mkF m 125 #[.val (.int p1), .val (.int p2), .val (.int p3), .val (.int p4), .val (.int p5), .val (.int p6), .val (.int (4 : Int32)), .val (.int (own_pick p2 (0 : Int32) p3)), .val (.int (own_pick p2 (1 : Int32) p4)), .val (.int (own_pick p2 (2 : Int32) p5)), .val (.int (own_pick p2 (3 : Int32) p6)), .val (.ref b61), .val (.int z125l12), .unset] []))
        refine Gl.st (fun t k => XS.iload Xj67.here hx rfl (hb hby at_125) rfl  k) ?_
        show Gl _ _ _ _ _ _ _ (Tj67.setTop (mkF m 127 #[.val (.int p1), .val (.int p2), .val (.int p3), .val (.int p4), .val (.int p5), .val (.int p6), .val (.int (4 : Int32)), .val (.int (own_pick p2 (0 : Int32) p3)), .val (.int (own_pick p2 (1 : Int32) p4)), .val (.int (own_pick p2 (2 : Int32) p5)), .val (.int (own_pick p2 (3 : Int32) p6)), .val (.ref b61), .val (.int z125l12), .unset] [(.int (4 : Int32))]))
        refine Gl.st (fun t k => XS.iconst Xj67.here hx rfl (hb hby at_127) k) ?_
        show Gl _ _ _ _ _ _ _ (Tj67.setTop (mkF m 128 #[.val (.int p1), .val (.int p2), .val (.int p3), .val (.int p4), .val (.int p5), .val (.int p6), .val (.int (4 : Int32)), .val (.int (own_pick p2 (0 : Int32) p3)), .val (.int (own_pick p2 (1 : Int32) p4)), .val (.int (own_pick p2 (2 : Int32) p5)), .val (.int (own_pick p2 (3 : Int32) p6)), .val (.ref b61), .val (.int z125l12), .unset] [(.int (2 : Int32)), (.int (4 : Int32))]))
        refine Gl.st (fun t k => XS.icmpNo Xj67.here hx rfl (hb hby at_128) rfl (tlt (by decide : (2 : Int32) < (4 : Int32))).2.2.2 k) ?_
        show Gl _ _ _ _ _ _ _ (Tj67.setTop (mkF m 131 #[.val (.int p1), .val (.int p2), .val (.int p3), .val (.int p4), .val (.int p5), .val (.int p6), .val (.int (4 : Int32)), .val (.int (own_pick p2 (0 : Int32) p3)), .val (.int (own_pick p2 (1 : Int32) p4)), .val (.int (own_pick p2 (2 : Int32) p5)), .val (.int (own_pick p2 (3 : Int32) p6)), .val (.ref b61), .val (.int z125l12), .unset] []))
        refine Gl.st (fun t k => XS.iload Xj67.here hx rfl (hb hby at_131) rfl  k) ?_
        show Gl _ _ _ _ _ _ _ (Tj67.setTop (mkF m 133 #[.val (.int p1), .val (.int p2), .val (.int p3), .val (.int p4), .val (.int p5), .val (.int p6), .val (.int (4 : Int32)), .val (.int (own_pick p2 (0 : Int32) p3)), .val (.int (own_pick p2 (1 : Int32) p4)), .val (.int (own_pick p2 (2 : Int32) p5)), .val (.int (own_pick p2 (3 : Int32) p6)), .val (.ref b61), .val (.int z125l12), .unset] [(.int (own_pick p2 (2 : Int32) p5))]))
        have J68 : ∀ (Tj68 : State) (Lj68 : List Loc) (Xj68 : Stand p l e room_1 s m #[(.int p1), (.int p2), (.int p3), (.int p4), (.int p5), (.int p6)] below meth c Tj68 Lj68 1 4) (ej68 : Tj68.heap = h65) (Nj68 : Fr n0 Lj68) (z139l12 : Int32) (hz139l12 : z139l12 = (if (own_pick p2 (2 : Int32) p5) = (0 : Int32) then z125l12 else (0 : Int32))), Gl p e below s (Q0 Z p1 p2 p3 p4 p5 p6 h0 n0) room_1.cells room_1.slots (Tj68.setTop (mkF m 139 #[.val (.int p1), .val (.int p2), .val (.int p3), .val (.int p4), .val (.int p5), .val (.int p6), .val (.int (4 : Int32)), .val (.int (own_pick p2 (0 : Int32) p3)), .val (.int (own_pick p2 (1 : Int32) p4)), .val (.int (own_pick p2 (2 : Int32) p5)), .val (.int (own_pick p2 (3 : Int32) p6)), .val (.ref b61), .val (.int z139l12), .unset] [])) := by
          intro Tj68 Lj68 Xj68 ej68 Nj68 z139l12 hz139l12
          show Gl _ _ _ _ _ _ _ (Tj68.setTop (mkF m 139 #[.val (.int p1), .val (.int p2), .val (.int p3), .val (.int p4), .val (.int p5), .val (.int p6), .val (.int (4 : Int32)), .val (.int (own_pick p2 (0 : Int32) p3)), .val (.int (own_pick p2 (1 : Int32) p4)), .val (.int (own_pick p2 (2 : Int32) p5)), .val (.int (own_pick p2 (3 : Int32) p6)), .val (.ref b61), .val (.int z139l12), .unset] []))
          refine Gl.st (fun t k => XS.iload Xj68.here hx rfl (hb hby at_139) rfl  k) ?_
          show Gl _ _ _ _ _ _ _ (Tj68.setTop (mkF m 141 #[.val (.int p1), .val (.int p2), .val (.int p3), .val (.int p4), .val (.int p5), .val (.int p6), .val (.int (4 : Int32)), .val (.int (own_pick p2 (0 : Int32) p3)), .val (.int (own_pick p2 (1 : Int32) p4)), .val (.int (own_pick p2 (2 : Int32) p5)), .val (.int (own_pick p2 (3 : Int32) p6)), .val (.ref b61), .val (.int z139l12), .unset] [(.int (4 : Int32))]))
          refine Gl.st (fun t k => XS.iconst Xj68.here hx rfl (hb hby at_141) k) ?_
          show Gl _ _ _ _ _ _ _ (Tj68.setTop (mkF m 142 #[.val (.int p1), .val (.int p2), .val (.int p3), .val (.int p4), .val (.int p5), .val (.int p6), .val (.int (4 : Int32)), .val (.int (own_pick p2 (0 : Int32) p3)), .val (.int (own_pick p2 (1 : Int32) p4)), .val (.int (own_pick p2 (2 : Int32) p5)), .val (.int (own_pick p2 (3 : Int32) p6)), .val (.ref b61), .val (.int z139l12), .unset] [(.int (3 : Int32)), (.int (4 : Int32))]))
          refine Gl.st (fun t k => XS.icmpNo Xj68.here hx rfl (hb hby at_142) rfl (tlt (by decide : (3 : Int32) < (4 : Int32))).2.2.2 k) ?_
          show Gl _ _ _ _ _ _ _ (Tj68.setTop (mkF m 145 #[.val (.int p1), .val (.int p2), .val (.int p3), .val (.int p4), .val (.int p5), .val (.int p6), .val (.int (4 : Int32)), .val (.int (own_pick p2 (0 : Int32) p3)), .val (.int (own_pick p2 (1 : Int32) p4)), .val (.int (own_pick p2 (2 : Int32) p5)), .val (.int (own_pick p2 (3 : Int32) p6)), .val (.ref b61), .val (.int z139l12), .unset] []))
          refine Gl.st (fun t k => XS.iload Xj68.here hx rfl (hb hby at_145) rfl  k) ?_
          show Gl _ _ _ _ _ _ _ (Tj68.setTop (mkF m 147 #[.val (.int p1), .val (.int p2), .val (.int p3), .val (.int p4), .val (.int p5), .val (.int p6), .val (.int (4 : Int32)), .val (.int (own_pick p2 (0 : Int32) p3)), .val (.int (own_pick p2 (1 : Int32) p4)), .val (.int (own_pick p2 (2 : Int32) p5)), .val (.int (own_pick p2 (3 : Int32) p6)), .val (.ref b61), .val (.int z139l12), .unset] [(.int (own_pick p2 (3 : Int32) p6))]))
          have J69 : ∀ (Tj69 : State) (Lj69 : List Loc) (Xj69 : Stand p l e room_1 s m #[(.int p1), (.int p2), (.int p3), (.int p4), (.int p5), (.int p6)] below meth c Tj69 Lj69 1 4) (ej69 : Tj69.heap = h65) (Nj69 : Fr n0 Lj69) (z153l12 : Int32) (hz153l12 : z153l12 = (if (own_pick p2 (3 : Int32) p6) = (0 : Int32) then z139l12 else (0 : Int32))), Gl p e below s (Q0 Z p1 p2 p3 p4 p5 p6 h0 n0) room_1.cells room_1.slots (Tj69.setTop (mkF m 153 #[.val (.int p1), .val (.int p2), .val (.int p3), .val (.int p4), .val (.int p5), .val (.int p6), .val (.int (4 : Int32)), .val (.int (own_pick p2 (0 : Int32) p3)), .val (.int (own_pick p2 (1 : Int32) p4)), .val (.int (own_pick p2 (2 : Int32) p5)), .val (.int (own_pick p2 (3 : Int32) p6)), .val (.ref b61), .val (.int z153l12), .unset] [])) := by
            intro Tj69 Lj69 Xj69 ej69 Nj69 z153l12 hz153l12
            show Gl _ _ _ _ _ _ _ (Tj69.setTop (mkF m 153 #[.val (.int p1), .val (.int p2), .val (.int p3), .val (.int p4), .val (.int p5), .val (.int p6), .val (.int (4 : Int32)), .val (.int (own_pick p2 (0 : Int32) p3)), .val (.int (own_pick p2 (1 : Int32) p4)), .val (.int (own_pick p2 (2 : Int32) p5)), .val (.int (own_pick p2 (3 : Int32) p6)), .val (.ref b61), .val (.int z153l12), .unset] []))
            obtain ⟨T70, h70, X70, e70, E70, A70, D70, -, st70⟩ := newO Xj69 hx hZ hown (hw _ (List.mem_of_getElem? (i := 6) rfl)) (hw _ (List.mem_of_getElem? (i := 7) rfl)) (hw _ (List.mem_of_getElem? (i := 8) rfl)) ej69 (g := (mkF m 153 #[.val (.int p1), .val (.int p2), .val (.int p3), .val (.int p4), .val (.int p5), .val (.int p6), .val (.int (4 : Int32)), .val (.int (own_pick p2 (0 : Int32) p3)), .val (.int (own_pick p2 (1 : Int32) p4)), .val (.int (own_pick p2 (2 : Int32) p5)), .val (.int (own_pick p2 (3 : Int32) p6)), .val (.ref b61), .val (.int z153l12), .unset] [])) rfl (hb hby at_153) (by decide) (by decide)
            obtain ⟨b70, g70⟩ : ∃ z, z = h65.size := ⟨_, rfl⟩
            rw [← g70] at A70 D70 st70
            refine Gl.st st70 ?_
            have ne_b61_b70 : b61 ≠ b70 := Nat.ne_of_lt (Nat.lt_of_lt_of_le V65.lt (Nat.le_of_eq g70.symm))
            have gzb70 : n0 ≤ b70 := Nat.le_trans Z65 (Nat.le_of_eq g70.symm)
            have Z70 : n0 ≤ h70.size := Nat.le_trans Z65 E70.1
            have V65'71 : Arv Z h70 b61 k61 .int (4 : Int32) [(.int (own_pick p2 (0 : Int32) p3)), (.int (own_pick p2 (1 : Int32) p4)), (.int (own_pick p2 (2 : Int32) p5)), (.int (own_pick p2 (3 : Int32) p6))] (.int (0 : Int32)) := V65.ext E70
            have F70_tokens : Fld Z h70 b70 "com/example/enact/enact/engine/Marking" "tokens" "[I" .null := D70 (Or.inr (hw _ (List.mem_of_getElem? (i := 16) rfl))) (ty := (.array .int)) (by decide)
            show Gl _ _ _ _ _ _ _ (T70.setTop (mkF m 156 #[.val (.int p1), .val (.int p2), .val (.int p3), .val (.int p4), .val (.int p5), .val (.int p6), .val (.int (4 : Int32)), .val (.int (own_pick p2 (0 : Int32) p3)), .val (.int (own_pick p2 (1 : Int32) p4)), .val (.int (own_pick p2 (2 : Int32) p5)), .val (.int (own_pick p2 (3 : Int32) p6)), .val (.ref b61), .val (.int z153l12), .unset] [(.ref b70)]))
            refine Gl.st (fun t k => XS.dup X70.here hx rfl (hb hby at_156) rfl rfl k) ?_
            show Gl _ _ _ _ _ _ _ (T70.setTop (mkF m 157 #[.val (.int p1), .val (.int p2), .val (.int p3), .val (.int p4), .val (.int p5), .val (.int p6), .val (.int (4 : Int32)), .val (.int (own_pick p2 (0 : Int32) p3)), .val (.int (own_pick p2 (1 : Int32) p4)), .val (.int (own_pick p2 (2 : Int32) p5)), .val (.int (own_pick p2 (3 : Int32) p6)), .val (.ref b61), .val (.int z153l12), .unset] [(.ref b70), (.ref b70)]))
            refine Gl.st (fun t k => XS.aload X70.here hx rfl (hb hby at_157) rfl rfl k) ?_
            show Gl _ _ _ _ _ _ _ (T70.setTop (mkF m 159 #[.val (.int p1), .val (.int p2), .val (.int p3), .val (.int p4), .val (.int p5), .val (.int p6), .val (.int (4 : Int32)), .val (.int (own_pick p2 (0 : Int32) p3)), .val (.int (own_pick p2 (1 : Int32) p4)), .val (.int (own_pick p2 (2 : Int32) p5)), .val (.int (own_pick p2 (3 : Int32) p6)), .val (.ref b61), .val (.int z153l12), .unset] [(.ref b61), (.ref b70), (.ref b70)]))
            obtain ⟨_, _, ⟨T72, L72, k72, n72⟩, -, X72, ⟨Lc72, hQ72, l72, y72, z72⟩, st72⟩ := X70.specialBack hx (y := (⟨"com/example/enact/enact/engine/Marking", "<init>", "([I)V"⟩ : MethodName)) rfl hown (mvT hZ (hw _ (List.mem_of_getElem? (i := 9) rfl))) (mvT hZ (hw _ (List.mem_of_getElem? (i := 10) rfl))) (mvT hZ (hw _ (List.mem_of_getElem? (i := 11) rfl))) (by decide) (backOf (W := 1) (rm2 l Z a0 hw [] b70 b61 (.null) h70 n0 Z70 A70 F70_tokens gzb70) hZ (hw _ (List.mem_of_getElem? (i := 11) rfl)) (hw _ (List.mem_of_getElem? (i := 8) rfl)) (by decide) (by decide)) (g := (mkF m 159 #[.val (.int p1), .val (.int p2), .val (.int p3), .val (.int p4), .val (.int p5), .val (.int p6), .val (.int (4 : Int32)), .val (.int (own_pick p2 (0 : Int32) p3)), .val (.int (own_pick p2 (1 : Int32) p4)), .val (.int (own_pick p2 (2 : Int32) p5)), .val (.int (own_pick p2 (3 : Int32) p6)), .val (.ref b61), .val (.int z153l12), .unset] [(.ref b61), (.ref b70), (.ref b70)])) rfl (by rw [hml]; rfl) (Steps.refl _) (a := b70) (argsL := [(.ref b61)]) (rest := [(.ref b70)]) (lenOf pd_1 rfl) rfl (by show 2 * 0 + _ ≤ _; exact Nat.le_of_eq rfl) (hb hby at_159) (fun _ _ => ⟨rfl, e70, (by decide : 2 + 0 ≤ _), (by decide : 6 + 0 ≤ _)⟩)
            dsimp only [Pt.U, Pt.locs, Pt.cells, Pt.slots] at X72 l72 y72 z72 st72 hQ72
            subst l72 y72 z72
            obtain ⟨rfl, N72q, Kq72, Fq72_0, Fq72_1⟩ := hQ72
            have N72 := Fr.app Nj69 N72q
            have Z72 : n0 ≤ T72.heap.size := Nat.le_trans Z70 Kq72.1
            have V65'73 : Arv Z T72.heap b61 k61 .int (4 : Int32) [(.int (own_pick p2 (0 : Int32) p3)), (.int (own_pick p2 (1 : Int32) p4)), (.int (own_pick p2 (2 : Int32) p5)), (.int (own_pick p2 (3 : Int32) p6))] (.int (0 : Int32)) := V65'71.keep Kq72 (ninS ne_b61_b70 nin0)
            refine Gl.to st72 ?_
            show Gl _ _ _ _ _ _ _ (T72.setTop (mkF m 162 #[.val (.int p1), .val (.int p2), .val (.int p3), .val (.int p4), .val (.int p5), .val (.int p6), .val (.int (4 : Int32)), .val (.int (own_pick p2 (0 : Int32) p3)), .val (.int (own_pick p2 (1 : Int32) p4)), .val (.int (own_pick p2 (2 : Int32) p5)), .val (.int (own_pick p2 (3 : Int32) p6)), .val (.ref b61), .val (.int z153l12), .unset] [(.ref b70)]))
            refine Gl.st (fun t k => XS.astore X72.here hx rfl (hb hby at_162) rfl rfl (l' := #[.val (.int p1), .val (.int p2), .val (.int p3), .val (.int p4), .val (.int p5), .val (.int p6), .val (.int (4 : Int32)), .val (.int (own_pick p2 (0 : Int32) p3)), .val (.int (own_pick p2 (1 : Int32) p4)), .val (.int (own_pick p2 (2 : Int32) p5)), .val (.int (own_pick p2 (3 : Int32) p6)), .val (.ref b61), .val (.int z153l12), .val (.ref b70)]) rfl k) ?_
            show Gl _ _ _ _ _ _ _ (T72.setTop (mkF m 164 #[.val (.int p1), .val (.int p2), .val (.int p3), .val (.int p4), .val (.int p5), .val (.int p6), .val (.int (4 : Int32)), .val (.int (own_pick p2 (0 : Int32) p3)), .val (.int (own_pick p2 (1 : Int32) p4)), .val (.int (own_pick p2 (2 : Int32) p5)), .val (.int (own_pick p2 (3 : Int32) p6)), .val (.ref b61), .val (.int z153l12), .val (.ref b70)] []))
            refine Gl.st (fun t k => XS.aload X72.here hx rfl (hb hby at_164) rfl rfl k) ?_
            show Gl _ _ _ _ _ _ _ (T72.setTop (mkF m 166 #[.val (.int p1), .val (.int p2), .val (.int p3), .val (.int p4), .val (.int p5), .val (.int p6), .val (.int (4 : Int32)), .val (.int (own_pick p2 (0 : Int32) p3)), .val (.int (own_pick p2 (1 : Int32) p4)), .val (.int (own_pick p2 (2 : Int32) p5)), .val (.int (own_pick p2 (3 : Int32) p6)), .val (.ref b61), .val (.int z153l12), .val (.ref b70)] [(.ref b70)]))
            obtain ⟨cq74, kq74, qa74, qb74, qc74⟩ := isOf hZ rfl Fq72_0
            obtain ⟨_, _, ⟨T74, L74, k74, n74⟩, -, X74, ⟨Lc74, hQ74, l74, y74, z74⟩, st74⟩ := X72.virtualBack hx (y := (⟨"com/example/enact/enact/engine/Marking", "isEmpty", "()Z"⟩ : MethodName)) (z := (⟨"com/example/enact/enact/engine/Marking", "isEmpty", "()Z"⟩ : MethodName)) hown (mvT hZ (hw _ (List.mem_of_getElem? (i := 17) rfl))) (mvT hZ (hw _ (List.mem_of_getElem? (i := 18) rfl))) (notFace_of_selects (args := #[]) (mvT hZ (hw _ (List.mem_of_getElem? (i := 20) rfl)))) (mvT hZ (hw _ (List.mem_of_getElem? (i := 20) rfl))) (mvT hZ (hw _ (List.mem_of_getElem? (i := 19) rfl))) (by decide) (backOf (W := 0) (rm4v4 l Z a0 hw [] b70 (b61) (k61) ((own_pick p2 (0 : Int32) p3)) ((own_pick p2 (1 : Int32) p4)) ((own_pick p2 (2 : Int32) p5)) ((own_pick p2 (3 : Int32) p6)) T72.heap n0  Fq72_1 V65'73) hZ (hw _ (List.mem_of_getElem? (i := 21) rfl)) (hw _ (List.mem_of_getElem? (i := 8) rfl)) (by decide) (by decide)) qa74 qc74 (g := (mkF m 166 #[.val (.int p1), .val (.int p2), .val (.int p3), .val (.int p4), .val (.int p5), .val (.int p6), .val (.int (4 : Int32)), .val (.int (own_pick p2 (0 : Int32) p3)), .val (.int (own_pick p2 (1 : Int32) p4)), .val (.int (own_pick p2 (2 : Int32) p5)), .val (.int (own_pick p2 (3 : Int32) p6)), .val (.ref b61), .val (.int z153l12), .val (.ref b70)] [(.ref b70)])) rfl (by rw [hml]; rfl) (Steps.refl _) (argsL := []) (rest := []) (lenOf pd_2 rfl) rfl (by show 2 * 0 + _ ≤ _; exact Nat.le_of_eq rfl) (hb hby at_166) (fun _ _ => ⟨rfl, rfl, (by decide : 2 + 0 ≤ _), (by decide : 6 + 0 ≤ _)⟩)
            dsimp only [Pt.U, Pt.locs, Pt.cells, Pt.slots] at X74 l74 y74 z74 st74 hQ74
            subst l74 y74 z74
            obtain ⟨rfl, N74q, e74⟩ := hQ74
            have N74 := Fr.app N72 N74q
            refine Gl.to st74 ?_
            show Gl _ _ _ _ _ _ _ (T74.setTop (mkF m 169 #[.val (.int p1), .val (.int p2), .val (.int p3), .val (.int p4), .val (.int p5), .val (.int p6), .val (.int (4 : Int32)), .val (.int (own_pick p2 (0 : Int32) p3)), .val (.int (own_pick p2 (1 : Int32) p4)), .val (.int (own_pick p2 (2 : Int32) p5)), .val (.int (own_pick p2 (3 : Int32) p6)), .val (.ref b61), .val (.int z153l12), .val (.ref b70)] [(.int (own_empty4 (own_pick p2 (0 : Int32) p3) (own_pick p2 (1 : Int32) p4) (own_pick p2 (2 : Int32) p5) (own_pick p2 (3 : Int32) p6)))]))
            refine Gl.st (fun t k => XS.iload X74.here hx rfl (hb hby at_169) rfl  k) ?_
            show Gl _ _ _ _ _ _ _ (T74.setTop (mkF m 171 #[.val (.int p1), .val (.int p2), .val (.int p3), .val (.int p4), .val (.int p5), .val (.int p6), .val (.int (4 : Int32)), .val (.int (own_pick p2 (0 : Int32) p3)), .val (.int (own_pick p2 (1 : Int32) p4)), .val (.int (own_pick p2 (2 : Int32) p5)), .val (.int (own_pick p2 (3 : Int32) p6)), .val (.ref b61), .val (.int z153l12), .val (.ref b70)] [(.int z153l12), (.int (own_empty4 (own_pick p2 (0 : Int32) p3) (own_pick p2 (1 : Int32) p4) (own_pick p2 (2 : Int32) p5) (own_pick p2 (3 : Int32) p6)))]))
            have hc171_75 : (own_empty4 (own_pick p2 (0 : Int32) p3) (own_pick p2 (1 : Int32) p4) (own_pick p2 (2 : Int32) p5) (own_pick p2 (3 : Int32) p6)) = z153l12 := by 
              subst_vars; unfold own_empty4; repeat' split
              all_goals first | rfl | contradiction | simp_all
            refine Gl.st (fun t k => XS.icmpNo X74.here hx rfl (hb hby at_171) rfl (teq hc171_75).2 k) ?_
            show Gl _ _ _ _ _ _ _ (T74.setTop (mkF m 174 #[.val (.int p1), .val (.int p2), .val (.int p3), .val (.int p4), .val (.int p5), .val (.int p6), .val (.int (4 : Int32)), .val (.int (own_pick p2 (0 : Int32) p3)), .val (.int (own_pick p2 (1 : Int32) p4)), .val (.int (own_pick p2 (2 : Int32) p5)), .val (.int (own_pick p2 (3 : Int32) p6)), .val (.ref b61), .val (.int z153l12), .val (.ref b70)] []))
            refine Gl.st (fun t k => XS.iconst X74.here hx rfl (hb hby at_174) k) ?_
            show Gl _ _ _ _ _ _ _ (T74.setTop (mkF m 175 #[.val (.int p1), .val (.int p2), .val (.int p3), .val (.int p4), .val (.int p5), .val (.int p6), .val (.int (4 : Int32)), .val (.int (own_pick p2 (0 : Int32) p3)), .val (.int (own_pick p2 (1 : Int32) p4)), .val (.int (own_pick p2 (2 : Int32) p5)), .val (.int (own_pick p2 (3 : Int32) p6)), .val (.ref b61), .val (.int z153l12), .val (.ref b70)] [(.int (1 : Int32))]))
            refine Gl.st (fun t k => XS.goto X74.here hx rfl (pc0 := 175) (pc' := 179) rfl (hb hby at_175) (by decide) (by decide) k) ?_
            show Gl _ _ _ _ _ _ _ (T74.setTop (mkF m 179 #[.val (.int p1), .val (.int p2), .val (.int p3), .val (.int p4), .val (.int p5), .val (.int p6), .val (.int (4 : Int32)), .val (.int (own_pick p2 (0 : Int32) p3)), .val (.int (own_pick p2 (1 : Int32) p4)), .val (.int (own_pick p2 (2 : Int32) p5)), .val (.int (own_pick p2 (3 : Int32) p6)), .val (.ref b61), .val (.int z153l12), .val (.ref b70)] [(.int (1 : Int32))]))
            exact Gl.retN X74 hx hlk Bd.returns (by simp) (hb hby at_179) (⟨rfl, N74⟩) (by decide) (by decide)
          by_cases hc147 : (own_pick p2 (3 : Int32) p6) = (0 : Int32)
          · refine Gl.st (fun t k => XS.ifYes Xj68.here hx rfl (pc0 := 147) (pc' := 153) rfl (hb hby at_147) rfl ((if0 _ _).trans (teq hc147).1) (by decide) (by decide) k) ?_
            show Gl _ _ _ _ _ _ _ (Tj68.setTop (mkF m 153 #[.val (.int p1), .val (.int p2), .val (.int p3), .val (.int p4), .val (.int p5), .val (.int p6), .val (.int (4 : Int32)), .val (.int (own_pick p2 (0 : Int32) p3)), .val (.int (own_pick p2 (1 : Int32) p4)), .val (.int (own_pick p2 (2 : Int32) p5)), .val (.int (own_pick p2 (3 : Int32) p6)), .val (.ref b61), .val (.int z139l12), .unset] []))
            exact J69 _ _ Xj68 ej68 Nj68 _ (by simp only [if_pos hc147])
          · refine Gl.st (fun t k => XS.ifNo Xj68.here hx rfl (hb hby at_147) rfl ((if0 _ _).trans (feq hc147).1) k) ?_
            show Gl _ _ _ _ _ _ _ (Tj68.setTop (mkF m 150 #[.val (.int p1), .val (.int p2), .val (.int p3), .val (.int p4), .val (.int p5), .val (.int p6), .val (.int (4 : Int32)), .val (.int (own_pick p2 (0 : Int32) p3)), .val (.int (own_pick p2 (1 : Int32) p4)), .val (.int (own_pick p2 (2 : Int32) p5)), .val (.int (own_pick p2 (3 : Int32) p6)), .val (.ref b61), .val (.int z139l12), .unset] []))
            refine Gl.st (fun t k => XS.iconst Xj68.here hx rfl (hb hby at_150) k) ?_
            show Gl _ _ _ _ _ _ _ (Tj68.setTop (mkF m 151 #[.val (.int p1), .val (.int p2), .val (.int p3), .val (.int p4), .val (.int p5), .val (.int p6), .val (.int (4 : Int32)), .val (.int (own_pick p2 (0 : Int32) p3)), .val (.int (own_pick p2 (1 : Int32) p4)), .val (.int (own_pick p2 (2 : Int32) p5)), .val (.int (own_pick p2 (3 : Int32) p6)), .val (.ref b61), .val (.int z139l12), .unset] [(.int (0 : Int32))]))
            refine Gl.st (fun t k => XS.istore Xj68.here hx rfl (hb hby at_151) rfl (l' := #[.val (.int p1), .val (.int p2), .val (.int p3), .val (.int p4), .val (.int p5), .val (.int p6), .val (.int (4 : Int32)), .val (.int (own_pick p2 (0 : Int32) p3)), .val (.int (own_pick p2 (1 : Int32) p4)), .val (.int (own_pick p2 (2 : Int32) p5)), .val (.int (own_pick p2 (3 : Int32) p6)), .val (.ref b61), .val (.int (0 : Int32)), .unset]) rfl k) ?_
            show Gl _ _ _ _ _ _ _ (Tj68.setTop (mkF m 153 #[.val (.int p1), .val (.int p2), .val (.int p3), .val (.int p4), .val (.int p5), .val (.int p6), .val (.int (4 : Int32)), .val (.int (own_pick p2 (0 : Int32) p3)), .val (.int (own_pick p2 (1 : Int32) p4)), .val (.int (own_pick p2 (2 : Int32) p5)), .val (.int (own_pick p2 (3 : Int32) p6)), .val (.ref b61), .val (.int (0 : Int32)), .unset] []))
            exact J69 _ _ Xj68 ej68 Nj68 _ (by simp only [if_neg hc147])
        by_cases hc133 : (own_pick p2 (2 : Int32) p5) = (0 : Int32)
        · refine Gl.st (fun t k => XS.ifYes Xj67.here hx rfl (pc0 := 133) (pc' := 139) rfl (hb hby at_133) rfl ((if0 _ _).trans (teq hc133).1) (by decide) (by decide) k) ?_
          show Gl _ _ _ _ _ _ _ (Tj67.setTop (mkF m 139 #[.val (.int p1), .val (.int p2), .val (.int p3), .val (.int p4), .val (.int p5), .val (.int p6), .val (.int (4 : Int32)), .val (.int (own_pick p2 (0 : Int32) p3)), .val (.int (own_pick p2 (1 : Int32) p4)), .val (.int (own_pick p2 (2 : Int32) p5)), .val (.int (own_pick p2 (3 : Int32) p6)), .val (.ref b61), .val (.int z125l12), .unset] []))
          exact J68 _ _ Xj67 ej67 Nj67 _ (by simp only [if_pos hc133])
        · refine Gl.st (fun t k => XS.ifNo Xj67.here hx rfl (hb hby at_133) rfl ((if0 _ _).trans (feq hc133).1) k) ?_
          show Gl _ _ _ _ _ _ _ (Tj67.setTop (mkF m 136 #[.val (.int p1), .val (.int p2), .val (.int p3), .val (.int p4), .val (.int p5), .val (.int p6), .val (.int (4 : Int32)), .val (.int (own_pick p2 (0 : Int32) p3)), .val (.int (own_pick p2 (1 : Int32) p4)), .val (.int (own_pick p2 (2 : Int32) p5)), .val (.int (own_pick p2 (3 : Int32) p6)), .val (.ref b61), .val (.int z125l12), .unset] []))
          refine Gl.st (fun t k => XS.iconst Xj67.here hx rfl (hb hby at_136) k) ?_
          show Gl _ _ _ _ _ _ _ (Tj67.setTop (mkF m 137 #[.val (.int p1), .val (.int p2), .val (.int p3), .val (.int p4), .val (.int p5), .val (.int p6), .val (.int (4 : Int32)), .val (.int (own_pick p2 (0 : Int32) p3)), .val (.int (own_pick p2 (1 : Int32) p4)), .val (.int (own_pick p2 (2 : Int32) p5)), .val (.int (own_pick p2 (3 : Int32) p6)), .val (.ref b61), .val (.int z125l12), .unset] [(.int (0 : Int32))]))
          refine Gl.st (fun t k => XS.istore Xj67.here hx rfl (hb hby at_137) rfl (l' := #[.val (.int p1), .val (.int p2), .val (.int p3), .val (.int p4), .val (.int p5), .val (.int p6), .val (.int (4 : Int32)), .val (.int (own_pick p2 (0 : Int32) p3)), .val (.int (own_pick p2 (1 : Int32) p4)), .val (.int (own_pick p2 (2 : Int32) p5)), .val (.int (own_pick p2 (3 : Int32) p6)), .val (.ref b61), .val (.int (0 : Int32)), .unset]) rfl k) ?_
          show Gl _ _ _ _ _ _ _ (Tj67.setTop (mkF m 139 #[.val (.int p1), .val (.int p2), .val (.int p3), .val (.int p4), .val (.int p5), .val (.int p6), .val (.int (4 : Int32)), .val (.int (own_pick p2 (0 : Int32) p3)), .val (.int (own_pick p2 (1 : Int32) p4)), .val (.int (own_pick p2 (2 : Int32) p5)), .val (.int (own_pick p2 (3 : Int32) p6)), .val (.ref b61), .val (.int (0 : Int32)), .unset] []))
          exact J68 _ _ Xj67 ej67 Nj67 _ (by simp only [if_neg hc133])
      by_cases hc119 : (own_pick p2 (1 : Int32) p4) = (0 : Int32)
      · refine Gl.st (fun t k => XS.ifYes Xj66.here hx rfl (pc0 := 119) (pc' := 125) rfl (hb hby at_119) rfl ((if0 _ _).trans (teq hc119).1) (by decide) (by decide) k) ?_
        show Gl _ _ _ _ _ _ _ (Tj66.setTop (mkF m 125 #[.val (.int p1), .val (.int p2), .val (.int p3), .val (.int p4), .val (.int p5), .val (.int p6), .val (.int (4 : Int32)), .val (.int (own_pick p2 (0 : Int32) p3)), .val (.int (own_pick p2 (1 : Int32) p4)), .val (.int (own_pick p2 (2 : Int32) p5)), .val (.int (own_pick p2 (3 : Int32) p6)), .val (.ref b61), .val (.int z111l12), .unset] []))
        exact J67 _ _ Xj66 ej66 Nj66 _ (by simp only [if_pos hc119])
      · refine Gl.st (fun t k => XS.ifNo Xj66.here hx rfl (hb hby at_119) rfl ((if0 _ _).trans (feq hc119).1) k) ?_
        show Gl _ _ _ _ _ _ _ (Tj66.setTop (mkF m 122 #[.val (.int p1), .val (.int p2), .val (.int p3), .val (.int p4), .val (.int p5), .val (.int p6), .val (.int (4 : Int32)), .val (.int (own_pick p2 (0 : Int32) p3)), .val (.int (own_pick p2 (1 : Int32) p4)), .val (.int (own_pick p2 (2 : Int32) p5)), .val (.int (own_pick p2 (3 : Int32) p6)), .val (.ref b61), .val (.int z111l12), .unset] []))
        refine Gl.st (fun t k => XS.iconst Xj66.here hx rfl (hb hby at_122) k) ?_
        show Gl _ _ _ _ _ _ _ (Tj66.setTop (mkF m 123 #[.val (.int p1), .val (.int p2), .val (.int p3), .val (.int p4), .val (.int p5), .val (.int p6), .val (.int (4 : Int32)), .val (.int (own_pick p2 (0 : Int32) p3)), .val (.int (own_pick p2 (1 : Int32) p4)), .val (.int (own_pick p2 (2 : Int32) p5)), .val (.int (own_pick p2 (3 : Int32) p6)), .val (.ref b61), .val (.int z111l12), .unset] [(.int (0 : Int32))]))
        refine Gl.st (fun t k => XS.istore Xj66.here hx rfl (hb hby at_123) rfl (l' := #[.val (.int p1), .val (.int p2), .val (.int p3), .val (.int p4), .val (.int p5), .val (.int p6), .val (.int (4 : Int32)), .val (.int (own_pick p2 (0 : Int32) p3)), .val (.int (own_pick p2 (1 : Int32) p4)), .val (.int (own_pick p2 (2 : Int32) p5)), .val (.int (own_pick p2 (3 : Int32) p6)), .val (.ref b61), .val (.int (0 : Int32)), .unset]) rfl k) ?_
        show Gl _ _ _ _ _ _ _ (Tj66.setTop (mkF m 125 #[.val (.int p1), .val (.int p2), .val (.int p3), .val (.int p4), .val (.int p5), .val (.int p6), .val (.int (4 : Int32)), .val (.int (own_pick p2 (0 : Int32) p3)), .val (.int (own_pick p2 (1 : Int32) p4)), .val (.int (own_pick p2 (2 : Int32) p5)), .val (.int (own_pick p2 (3 : Int32) p6)), .val (.ref b61), .val (.int (0 : Int32)), .unset] []))
        exact J67 _ _ Xj66 ej66 Nj66 _ (by simp only [if_neg hc119])
    by_cases hc105 : (own_pick p2 (0 : Int32) p3) = (0 : Int32)
    · refine Gl.st (fun t k => XS.ifYes X65.here hx rfl (pc0 := 105) (pc' := 111) rfl (hb hby at_105) rfl ((if0 _ _).trans (teq hc105).1) (by decide) (by decide) k) ?_
      show Gl _ _ _ _ _ _ _ (T65.setTop (mkF m 111 #[.val (.int p1), .val (.int p2), .val (.int p3), .val (.int p4), .val (.int p5), .val (.int p6), .val (.int (4 : Int32)), .val (.int (own_pick p2 (0 : Int32) p3)), .val (.int (own_pick p2 (1 : Int32) p4)), .val (.int (own_pick p2 (2 : Int32) p5)), .val (.int (own_pick p2 (3 : Int32) p6)), .val (.ref b61), .val (.int (1 : Int32)), .unset] []))
      exact J66 _ _ X65 e65 N65 _ (by simp only [if_pos hc105])
    · refine Gl.st (fun t k => XS.ifNo X65.here hx rfl (hb hby at_105) rfl ((if0 _ _).trans (feq hc105).1) k) ?_
      show Gl _ _ _ _ _ _ _ (T65.setTop (mkF m 108 #[.val (.int p1), .val (.int p2), .val (.int p3), .val (.int p4), .val (.int p5), .val (.int p6), .val (.int (4 : Int32)), .val (.int (own_pick p2 (0 : Int32) p3)), .val (.int (own_pick p2 (1 : Int32) p4)), .val (.int (own_pick p2 (2 : Int32) p5)), .val (.int (own_pick p2 (3 : Int32) p6)), .val (.ref b61), .val (.int (1 : Int32)), .unset] []))
      refine Gl.st (fun t k => XS.iconst X65.here hx rfl (hb hby at_108) k) ?_
      show Gl _ _ _ _ _ _ _ (T65.setTop (mkF m 109 #[.val (.int p1), .val (.int p2), .val (.int p3), .val (.int p4), .val (.int p5), .val (.int p6), .val (.int (4 : Int32)), .val (.int (own_pick p2 (0 : Int32) p3)), .val (.int (own_pick p2 (1 : Int32) p4)), .val (.int (own_pick p2 (2 : Int32) p5)), .val (.int (own_pick p2 (3 : Int32) p6)), .val (.ref b61), .val (.int (1 : Int32)), .unset] [(.int (0 : Int32))]))
      refine Gl.st (fun t k => XS.istore X65.here hx rfl (hb hby at_109) rfl (l' := #[.val (.int p1), .val (.int p2), .val (.int p3), .val (.int p4), .val (.int p5), .val (.int p6), .val (.int (4 : Int32)), .val (.int (own_pick p2 (0 : Int32) p3)), .val (.int (own_pick p2 (1 : Int32) p4)), .val (.int (own_pick p2 (2 : Int32) p5)), .val (.int (own_pick p2 (3 : Int32) p6)), .val (.ref b61), .val (.int (0 : Int32)), .unset]) rfl k) ?_
      show Gl _ _ _ _ _ _ _ (T65.setTop (mkF m 111 #[.val (.int p1), .val (.int p2), .val (.int p3), .val (.int p4), .val (.int p5), .val (.int p6), .val (.int (4 : Int32)), .val (.int (own_pick p2 (0 : Int32) p3)), .val (.int (own_pick p2 (1 : Int32) p4)), .val (.int (own_pick p2 (2 : Int32) p5)), .val (.int (own_pick p2 (3 : Int32) p6)), .val (.ref b61), .val (.int (0 : Int32)), .unset] []))
      exact J66 _ _ X65 e65 N65 _ (by simp only [if_neg hc105])
set_option maxRecDepth 65536 in
set_option maxHeartbeats 40000000 in
theorem comes_1 {Post : Tables → Env → Array Value → State → Outcome → State → Prop} (hpost : ∀ tb e args s v u, (limb_1_1.after args s (.returned v) u = true ∧ limb_1_2.after args s (.returned v) u = true ∧ True) → FrameEnd s (.returned v) u (Jvm.fieldLocs frame_1_writes args s ++ Jvm.arrayLocs frame_1_arrays args s ++ Jvm.staticLocs frame_1_statics s) 16 128 → Post tb e args s (.returned v) u) :
    ArmFor flags0 classFile x code maxLocals ret World_1 tables_1 room_1 Calls_1 rest_1 Pre_1 Post := by
  intro l hfl _ _ p e ha hc hk s m args below hf hA hF happ hP
  obtain ⟨hcalls, hrest, hpre⟩ := hP
  obtain ⟨-, -, -, hnamed, -, -, -, hat⟩ := (Spec.applies_iff hf).mp happ
  obtain ⟨hg, hn⟩ := and_e (Cond.before_iff.mp (show (Jvm.Cond.and given_1 narrow_1).before args s = true from hpre))
  obtain ⟨hcnt, hr0⟩ := and_e hg
  obtain ⟨ha0, hr1⟩ := and_e hr0
  obtain ⟨ha1, hr2⟩ := and_e hr1
  obtain ⟨ha2, hr3⟩ := and_e hr2
  obtain ⟨ha3, hr4⟩ := and_e hr3
  obtain ⟨ha4, hr5⟩ := and_e hr4
  have ha5 := hr5
  obtain ⟨w0, w1, w2, w3, w4, w5, rfl⟩ : ∃ w0 w1 w2 w3 w4 w5 : Value, args = #[w0, w1, w2, w3, w4, w5] := by
    have hs : args.size = 6 := by simpa [Cond.value, given_1] using hcnt
    obtain ⟨L⟩ := args
    match L, hs with
    | [w0, w1, w2, w3, w4, w5], _ => exact ⟨w0, w1, w2, w3, w4, w5, rfl⟩
  have hw := fun d (hd : d ∈ tables_1) => atoms_spec (ws := Jvm.Cond.code x code maxLocals ret :: tables_1) hat d (List.mem_cons_of_mem _ hd)
  obtain ⟨i0, ei0⟩ := is_v ha0
  obtain rfl : w0 = (.int i0) := Option.some.inj ei0
  obtain ⟨i1, ei1⟩ := is_v ha1
  obtain rfl : w1 = (.int i1) := Option.some.inj ei1
  obtain ⟨i2, ei2⟩ := is_v ha2
  obtain rfl : w2 = (.int i2) := Option.some.inj ei2
  obtain ⟨i3, ei3⟩ := is_v ha3
  obtain rfl : w3 = (.int i3) := Option.some.inj ei3
  obtain ⟨i4, ei4⟩ := is_v ha4
  obtain rfl : w4 = (.int i4) := Option.some.inj ei4
  obtain ⟨i5, ei5⟩ := is_v ha5
  obtain rfl : w5 = (.int i5) := Option.some.inj ei5
  obtain ⟨n, o, h1, h2, h3, _, L, rfl, ⟨rfl, N⟩, hq⟩ := rm0 l s _ hw tables_1 i0 i1 i2 i3 i4 i5 s.heap s.heap.size (Nat.le_refl _) p e ha hc hk s m _ below hf ((Spec.applies_iff_loose hf).mp happ).1 ⟨rfl, State.Warmed39.refl s, rfl⟩ trivial
  refine ⟨n, _, h1, h2, h3, hpost _ _ _ _ _ _ ⟨Cond.after_iff.mpr rfl, Cond.after_iff.mpr (eq_i res_at (Term.int_eval (1)) rfl), trivial⟩ ⟨hq.1, hq.2.1, (hq.2.2.sift fun y hy => Or.inr (N y hy)).mono (by decide) (by decide)⟩⟩
theorem main_1_1 : Claimed_1_1 := comes_1 fun _ _ _ _ _ _ h hF => ⟨h.1, hF⟩
theorem main_1_2 : Claimed_1_2 := comes_1 fun _ _ _ _ _ _ h hF => ⟨h.2.1, hF⟩
end Jvm.Pilot.@@N@@
namespace Jvm.Pilot.@@N@@
open Jvm Jvm.ClassFile Sem Op Lib Jvm.Free Jvm.Stand Jvm.Pilot.@@N@@.Jvm.D
/-! MADE BY PROGRAM (witnessworld.py) out of the Statement's table words and the real class files: 9 classes; the members and pool entries that the words name. The judged class is class 1, her method 2. -/
namespace start1
open Jvm.ClassFile
def u (s : String) : CpInfo := .utf8 (stringToUtf16 s)
/-- a pool by its gaps: so many unusable entries, then the entry; so many at the end -/
def gap : Nat → List CpInfo → List CpInfo
  | 0, r => r
  | n + 1, r => .unusable :: gap n r
def poolList (es : List (Nat × CpInfo)) (last : Nat) : List CpInfo := es.foldr (fun e r => gap e.1 (e.2 :: r)) (gap last [])
def pool (es : List (Nat × CpInfo)) (last : Nat) : Array CpInfo := ⟨poolList es last⟩
def fileOf (pool : Array CpInfo) (this : Nat) (attrs : Array Attribute := #[]) (ms : Array MethodInfo := #[]) (fl : Nat := 33) (sup : Nat := 0) (ifs : Array Nat := #[]) (fds : Array FieldInfo := #[]) : ClassFile where
  minorVersion := 0
  majorVersion := 65
  constantPool := pool
  accessFlags := fl
  thisClass := this
  superClass := sup
  interfaces := ifs
  fields := fds
  methods := ms
  attributes := attrs
def plain (name : String) (sup : Option ClassId) : Class where
  name := name
  kind := .ordinary
  loader := none
  accessFlags := 33
  super := sup
  interfaces := #[]
  cf := none
  fields := #[]
  methods := #[]
  instanceTypes := #[]
  staticTypes := #[]
  resolved := #[]
  callSites := []
  init := .initialized
  statics := none
  mirror := none

def pool0 : Array CpInfo := pool [(5, u "<init>"), (0, u "()V"), (1, .class_ 10), (1, u "java/lang/Object")] 113

def k0c0 : Code := { maxStack := 0, maxLocals := 1, code := object_method_1_code, exceptionTable := #[], attributes := #[] }
def k0m0 : Method := { name := "<init>", desc := "()V", sig := { parameters := [], returnType := none }, accessFlags := 1, code := some k0c0 }
/-- java/lang/Object -/
def k0 : Class := { plain "java/lang/Object" none with
  accessFlags := 33
  interfaces := #[]
  cf := some (fileOf pool0 8 #[] #[{ accessFlags := 1, nameIndex := 5, descriptorIndex := 6, attributes := #[] }] 33 0 #[] #[])
  fields := #[]
  methods := #[k0m0]
  instanceTypes := #[]
  staticTypes := #[]
  resolved := Array.replicate 124 none
  statics := none }

def pool1 : Array CpInfo := pool [(2, .class_ 4), (1, u "java/lang/Object"), (0, u "<init>"), (0, u "()V"), (0, .integer 2147483647), (0, .methodref 9 10), (0, .class_ 11), (0, .nameAndType 12 13), (0, u "com/example/enact/enact/engine/MarkingIsEmptyPinLaw"), (0, u "pick"), (0, u "(III)I"), (0, .class_ 15), (0, u "com/example/enact/enact/engine/Marking"), (0, .methodref 14 17), (0, .nameAndType 5 18), (0, u "([I)V"), (0, .methodref 14 20), (0, .nameAndType 21 22), (0, u "isEmpty"), (0, u "()Z"), (3, u "law"), (0, u "(IIIIII)Z")] 4

def k1m0 : Method := { name := "<init>", desc := "()V", sig := { parameters := [], returnType := none }, accessFlags := 2, code := none }
def k1c1 : Code := { maxStack := 2, maxLocals := 4, code := method_2_code, exceptionTable := #[], attributes := #[] }
def k1m1 : Method := { name := "pick", desc := "(III)I", sig := { parameters := [.int, .int, .int], returnType := some .int }, accessFlags := 10, code := some k1c1 }
def k1c2 : Code := { maxStack := 3, maxLocals := 14, code := code, exceptionTable := #[], attributes := #[] }
def k1m2 : Method := { name := "law", desc := "(IIIIII)Z", sig := { parameters := [.int, .int, .int, .int, .int, .int], returnType := some .boolean }, accessFlags := 9, code := some k1c2 }
/-- com/example/enact/enact/engine/MarkingIsEmptyPinLaw -/
def k1 : Class := { plain "com/example/enact/enact/engine/MarkingIsEmptyPinLaw" (some 0) with
  accessFlags := 49
  interfaces := #[]
  cf := some (fileOf pool1 9 #[] #[{ accessFlags := 2, nameIndex := 5, descriptorIndex := 6, attributes := #[] }, { accessFlags := 10, nameIndex := 12, descriptorIndex := 13, attributes := #[] }, { accessFlags := 9, nameIndex := 26, descriptorIndex := 27, attributes := #[] }] 49 2 #[] #[])
  fields := #[]
  methods := #[k1m0, k1m1, k1m2]
  instanceTypes := #[]
  staticTypes := #[]
  resolved := Array.replicate 32 none
  statics := none }

def pool2 : Array CpInfo := pool [(3, .methodref 4 5), (0, .class_ 6), (0, .nameAndType 7 8), (0, u "java/lang/Object"), (0, u "<init>"), (0, u "()V"), (0, .fieldref 10 11), (0, .class_ 12), (0, .nameAndType 13 14), (0, u "com/example/enact/enact/engine/Marking"), (0, u "tokens"), (0, u "[I"), (47, u "()Z"), (40, u "([I)V"), (14, u "isEmpty"), (5, u "hash"), (0, u "I"), (4, u "ANY_NUMBER")] 33

def k2c0 : Code := { maxStack := 2, maxLocals := 2, code := prog_27_method_1_code, exceptionTable := #[], attributes := #[] }
def k2m0 : Method := { name := "<init>", desc := "([I)V", sig := { parameters := [(.array .int)], returnType := none }, accessFlags := 0, code := some k2c0 }
def k2c1 : Code := { maxStack := 2, maxLocals := 3, code := prog_27_method_16_code, exceptionTable := #[], attributes := #[] }
def k2m1 : Method := { name := "isEmpty", desc := "()Z", sig := { parameters := [], returnType := some .boolean }, accessFlags := 0, code := some k2c1 }
/-- com/example/enact/enact/engine/Marking -/
def k2 : Class := { plain "com/example/enact/enact/engine/Marking" (some 0) with
  accessFlags := 48
  interfaces := #[]
  cf := some (fileOf pool2 10 #[] #[{ accessFlags := 0, nameIndex := 7, descriptorIndex := 103, attributes := #[] }, { accessFlags := 0, nameIndex := 118, descriptorIndex := 62, attributes := #[] }] 48 4 #[] #[{ accessFlags := 24, nameIndex := 130, descriptorIndex := 125, attributes := #[] }, { accessFlags := 18, nameIndex := 13, descriptorIndex := 14, attributes := #[] }, { accessFlags := 2, nameIndex := 124, descriptorIndex := 125, attributes := #[] }])
  fields := #[{ name := "ANY_NUMBER", type := .int, accessFlags := 24, slot := 0, constantValue := 0 }, { name := "tokens", type := (.array .int), accessFlags := 18, slot := 0, constantValue := 0 }, { name := "hash", type := .int, accessFlags := 2, slot := 1, constantValue := 0 }]
  methods := #[k2m0, k2m1]
  instanceTypes := #[(.array .int), .int]
  staticTypes := #[.int]
  resolved := Array.replicate 164 none
  statics := none }

def pool3 : Array CpInfo := pool [(1, u "java/lang/Cloneable"), (0, .class_ 1), (0, u "java/lang/Object"), (0, .class_ 3)] 3

/-- java/lang/Cloneable -/
def k3 : Class := { plain "java/lang/Cloneable" (some 0) with
  accessFlags := 1537
  interfaces := #[]
  cf := some (fileOf pool3 2 #[] #[] 1537 4 #[] #[])
  fields := #[]
  methods := #[]
  instanceTypes := #[]
  staticTypes := #[]
  resolved := Array.replicate 8 none
  statics := none }

def pool4 : Array CpInfo := pool [(1, u "java/io/Serializable"), (0, .class_ 1), (0, u "java/lang/Object"), (0, .class_ 3)] 3

/-- java/io/Serializable -/
def k4 : Class := { plain "java/io/Serializable" (some 0) with
  accessFlags := 1537
  interfaces := #[]
  cf := some (fileOf pool4 2 #[] #[] 1537 4 #[] #[])
  fields := #[]
  methods := #[]
  instanceTypes := #[]
  staticTypes := #[]
  resolved := Array.replicate 8 none
  statics := none }

/-- the primitive byte -/
def k5 : Class := { plain "byte" none with kind := .primitive 'B', accessFlags := 0x411 }
/-- [B -/
def k6 : Class := { plain "[B" (some 0) with kind := .array 5 .byte, interfaces := #[3, 4], accessFlags := 1041 }

/-- the primitive int -/
def k7 : Class := { plain "int" none with kind := .primitive 'I', accessFlags := 0x411 }
/-- [I -/
def k8 : Class := { plain "[I" (some 0) with kind := .array 7 .int, interfaces := #[3, 4], accessFlags := 1041 }

def heap : Heap := #[]
def classes : Array Class := #[k0, k1, k2, k3, k4, k5, k6, k7, k8]
def interned : List (Array UInt16 × Addr) := []
def slotsUsed : Nat := 0
def theMethod : MethodId := ⟨1, 2⟩
def args0 : Array Value := #[.int 3, .int 0, .int 5, .int (-7), .int 11, .int 13]
def aboutOver (below : List Frame) : State where
  vm := { classes := classes, interned := interned.toArray }
  heap := heap
  slotsUsed := slotsUsed
  threads := #[{ frames := .invoking theMethod args0 :: below }]
def below0 : List Frame := [.native { method := ⟨0, 0⟩, args := #[] }]
def about1 : State := aboutOver below0
def p0 : Program := .bare "" "" ""
def e0 : Env := launch0.env 0 0 0
theorem w_frames : about1.frames = Frame.invoking theMethod args0 :: below0 := rfl
set_option maxRecDepth 65536 in
theorem w_args : argsFit about1.vm theMethod args0 = true := by decide +kernel
set_option maxRecDepth 65536 in
theorem w_heap : heapFits about1 = true := by decide +kernel
set_option maxRecDepth 65536 in
theorem w_runnable : about1.curStatus? = some .runnable := by decide +kernel
set_option maxRecDepth 65536 in
theorem w_alone : about1.alone = true := by decide +kernel
set_option maxRecDepth 65536 in
theorem w_named : about1.methodNamed? x = some theMethod := by decide +kernel
set_option maxRecDepth 65536 in
theorem w_hears : about1.hears theMethod below0 = true := by decide +kernel
set_option maxRecDepth 65536 in
theorem w_ripe : about1.ripe theMethod args0 below0 = true := by decide +kernel
theorem w_running : about1.status = .running := rfl
set_option maxRecDepth 65536 in
theorem w_room : about1.hasRoom e0.platform room_1 = true :=
  launch0.hasRoom_least _ room_1 (by decide +kernel) (by decide +kernel) (by decide +kernel) (by decide +kernel) (by decide +kernel) (by decide +kernel)
theorem allAtoms_all (ts : List Jvm.Cond) (a : Array Jvm.Value) (st : Jvm.State) : (allAtoms ts).before a st = ts.all (fun c => c.before a st) := by
  induction ts with
  | nil => rfl
  | cons c t ih =>
    show (Jvm.Cond.and c (allAtoms t)).before a st = _
    rw [Jvm.Cond.before_and, ih, List.all_cons]
def words1 : List Jvm.Cond := Jvm.Cond.code x code maxLocals ret :: tables_1
/-- a 'code' word, met by the world's own term for the bytes: nothing is compared byte by byte -/
theorem code_word {y : MethodName} {bytes : ByteArray} {mx : Nat} {rt : Option FieldType} {a : Array Value} {s : State} {m : MethodId} {meth : Method} {c : Code} (h1 : s.methodNamed? y = some m) (h2 : s.vm.method? m = some meth) (h3 : meth.code = some c) (h4 : c.code = bytes)
    (h5 : (c.maxLocals == mx && c.exceptionTable.isEmpty && decide (c.maxStack ≤ mostOperands) && decide (meth.sig.returnType = rt) && !meth.locks && decide (parseMethodDescriptor y.desc = some meth.sig)) = true) : (Jvm.Cond.code y bytes mx rt).before a s = true := by
  simp only [Bool.and_eq_true, beq_iff_eq, Bool.not_eq_true', decide_eq_true_eq] at h5
  obtain ⟨⟨⟨⟨⟨g1, g2⟩, g3⟩, g4⟩, g5⟩, g6⟩ := h5
  simp [Cond.before, Cond.holds, Cond.value, h1, h2, h3, h4, g1, g2, g3, g4, g5, g6]
def isCode : Jvm.Cond → Bool
  | .code _ _ _ _ => true
  | _ => false
theorem all_split {L : List Jvm.Cond} {P : Jvm.Cond → Bool} (h1 : L.all (fun c => isCode c || P c) = true) (h2 : ∀ c ∈ L.filter isCode, P c = true) : L.all P = true := by
  refine List.all_eq_true.mpr fun c hc => ?_
  have h := List.all_eq_true.mp h1 c hc
  rcases Bool.eq_false_or_eq_true (isCode c) with hi | hi
  · exact h2 c (List.mem_filter.mpr ⟨hc, hi⟩)
  · simpa [hi] using h
set_option maxRecDepth 65536 in
theorem w_c0 : (Jvm.Cond.code x code maxLocals ret).before args0 about1 = true := code_word (m := ⟨1, 2⟩) (meth := k1m2) (c := k1c2) (by decide +kernel) rfl rfl rfl (by decide +kernel)
set_option maxRecDepth 65536 in
theorem w_c1 : (Jvm.Cond.code ({ cls := "com/example/enact/enact/engine/MarkingIsEmptyPinLaw", name := "pick", desc := "(III)I" } : Jvm.MethodName) method_2_code (4 : Nat) (Option.some Jvm.ClassFile.FieldType.int)).before args0 about1 = true := code_word (m := ⟨1, 1⟩) (meth := k1m1) (c := k1c1) (by decide +kernel) rfl rfl rfl (by decide +kernel)
set_option maxRecDepth 65536 in
theorem w_c2 : (Jvm.Cond.code ({ cls := "com/example/enact/enact/engine/Marking", name := "<init>", desc := "([I)V" } : Jvm.MethodName) prog_27_method_1_code (2 : Nat) (Option.none : Option Jvm.ClassFile.FieldType)).before args0 about1 = true := code_word (m := ⟨2, 0⟩) (meth := k2m0) (c := k2c0) (by decide +kernel) rfl rfl rfl (by decide +kernel)
set_option maxRecDepth 65536 in
theorem w_c3 : (Jvm.Cond.code ({ cls := "java/lang/Object", name := "<init>", desc := "()V" } : Jvm.MethodName) object_method_1_code (1 : Nat) (Option.none : Option Jvm.ClassFile.FieldType)).before args0 about1 = true := code_word (m := ⟨0, 0⟩) (meth := k0m0) (c := k0c0) (by decide +kernel) rfl rfl rfl (by decide +kernel)
set_option maxRecDepth 65536 in
theorem w_c4 : (Jvm.Cond.code ({ cls := "com/example/enact/enact/engine/Marking", name := "isEmpty", desc := "()Z" } : Jvm.MethodName) prog_27_method_16_code (3 : Nat) (Option.some Jvm.ClassFile.FieldType.boolean)).before args0 about1 = true := code_word (m := ⟨2, 1⟩) (meth := k2m1) (c := k2c1) (by decide +kernel) rfl rfl rfl (by decide +kernel)
def codes1 : List Jvm.Cond := [Jvm.Cond.code x code maxLocals ret, Jvm.Cond.code ({ cls := "com/example/enact/enact/engine/MarkingIsEmptyPinLaw", name := "pick", desc := "(III)I" } : Jvm.MethodName) method_2_code (4 : Nat) (Option.some Jvm.ClassFile.FieldType.int), Jvm.Cond.code ({ cls := "com/example/enact/enact/engine/Marking", name := "<init>", desc := "([I)V" } : Jvm.MethodName) prog_27_method_1_code (2 : Nat) (Option.none : Option Jvm.ClassFile.FieldType), Jvm.Cond.code ({ cls := "java/lang/Object", name := "<init>", desc := "()V" } : Jvm.MethodName) object_method_1_code (1 : Nat) (Option.none : Option Jvm.ClassFile.FieldType), Jvm.Cond.code ({ cls := "com/example/enact/enact/engine/Marking", name := "isEmpty", desc := "()Z" } : Jvm.MethodName) prog_27_method_16_code (3 : Nat) (Option.some Jvm.ClassFile.FieldType.boolean)]
set_option maxRecDepth 65536 in
theorem codes_eq : words1.filter isCode = codes1 := rfl
theorem w_codes : ∀ c ∈ words1.filter isCode, c.before args0 about1 = true := by
  rw [codes_eq]
  intro c hc
  simp only [codes1, List.mem_cons, List.not_mem_nil, or_false] at hc
  rcases hc with rfl | rfl | rfl | rfl | rfl
  · exact w_c0
  · exact w_c1
  · exact w_c2
  · exact w_c3
  · exact w_c4
set_option maxRecDepth 65536 in
theorem w_t1 : words1.all (fun c => isCode c || c.before args0 about1) = true := by decide +kernel
theorem w_tables : (allAtoms (Jvm.Cond.code x code maxLocals ret :: tables_1)).before args0 about1 = true := by
  rw [allAtoms_all]
  show words1.all (fun c => c.before args0 about1) = true
  refine all_split ?_ w_codes
  rw [w_t1]
set_option maxRecDepth 65536 in
theorem w_case : (Jvm.Cond.and given_1 narrow_1).before args0 about1 = true := by decide +kernel
theorem w_applies : (headSpec (Jvm.Cond.code x code maxLocals ret :: tables_1) room_1).applies x e0.platform about1 = true :=
  (Spec.applies_iff w_frames).mpr ⟨w_running, w_runnable, w_alone, w_named, w_hears, w_ripe, w_room, w_tables⟩
theorem atStart : AtStart classFile x code maxLocals ret World_1 tables_1 room_1 Calls_1 rest_1 Pre_1 launch0 p0 e0 about1 theMethod args0 below0 :=
  ⟨lists_1, trivial, launch0.admits_env _ _ _, launch0.least_env, fairChoices_fair.cas, fairChoices_fair.clock, w_frames, w_args, w_heap, w_applies, trivial, trivial, w_case⟩
end start1
theorem witness_1 : WitnessClaimed_1 := ⟨start1.p0, start1.e0, start1.about1, start1.theMethod, start1.args0, start1.below0, start1.atStart⟩
end Jvm.Pilot.@@N@@
