import JvmDerived
import JvmDerived.Pilot.@@N@@Statement
import JvmDerived.Pilot.@@N@@Code
set_option linter.unusedVariables false
set_option linter.unusedSimpArgs false
namespace Jvm.RoadKit
open Sem ClassFile Op Lib Jvm.Stand Jvm.Free Jvm.LawKit
section New
variable {p : Program} {l : Launch} {e : Env} {R : Room} {s : State} {m : MethodId} {args : Array Value} {below : List Frame} {meth : Method} {c : Code} {T T' : State} {locs : List Loc} {cells slots cs sl : Nat} {Q : Option Value → Heap → List Loc → Prop}
/-- from T the run ends, and Q holds at the end -/
def Gl (p : Program) (e : Env) (below : List Frame) (s : State) (Q : Option Value → Heap → List Loc → Prop) (cs sl : Nat) (T : State) : Prop :=
  ∃ s₂ o, Steps p.tables e below T s₂ ∧ s₂.status = .running ∧ Ended s₂ below o ∧ ∃ v L, o = .returned v ∧ Q v s₂.heap L ∧ FrameEnd s o s₂ L cs sl
theorem Gl.st (k : ∀ t, Steps p.tables e below T' t → Steps p.tables e below T t) (h : Gl p e below s Q cs sl T') : Gl p e below s Q cs sl T := by
  obtain ⟨a, o, h1, r⟩ := h
  exact ⟨a, o, k _ h1, r⟩
theorem Gl.to (k : Steps p.tables e below T T') (h : Gl p e below s Q cs sl T') : Gl p e below s Q cs sl T := Gl.st (fun _ q => k.trans q) h
theorem Gl.fin (X : Stand p l e R s m args below meth c T locs cells slots) {v : Option Value} (hv : meth.sig.returnType = none → v = none) (hlk : meth.locks = false) (hQ : Q v T.heap locs) (hc : cells ≤ cs) (hs : slots ≤ sl) {S0 : State}
    (k : ∀ fs, (∀ (f : JFrame) (acts : List Action), f.method = m → f.locked = none → f.entered = [] → (doReturn e (T.setTop f) acts v).1 = T.setFrames fs) → Steps p.tables e below S0 (T.setFrames fs)) : Gl p e below s Q cs sl S0 := by
  obtain ⟨fs, hr, hrun, hended, hW, hsame⟩ := X.leave hv hlk
  exact ⟨_, _, k fs hr, hrun, hended, v, locs, rfl, hQ, ⟨_, rfl⟩, hW, hsame.mono hc hs⟩
theorem Gl.retN (X : Stand p l e R s m args below meth c T locs cells slots) (hx : p.tables.exec = Jvm.exec) (hlk : meth.locks = false) {pc : Nat} {Ls : Array Slot} {z : Int32} {t : FieldType} {rest : List Value} (hret : meth.sig.returnType = some t) (ht : t = .boolean ∨ t = .byte ∨ t = .char ∨ t = .short)
    (hd : decode c.code pc = .ok (.ireturn, 1)) (hQ : Q (some (.int (nar t z))) T.heap locs) (hc : cells ≤ cs) (hs : slots ≤ sl) : Gl p e below s Q cs sl (T.setTop (mkF m pc Ls (.int z :: rest))) :=
  Gl.fin X (fun h => by rw [hret] at h; cases h) hlk hQ hc hs fun _ hr => Jvm.RoadKit.retN X hx hret ht hd hr
theorem Gl.retI (X : Stand p l e R s m args below meth c T locs cells slots) (hx : p.tables.exec = Jvm.exec) (hlk : meth.locks = false) {pc : Nat} {Ls : Array Slot} {z : Int32} {rest : List Value} (hret : meth.sig.returnType = some .int)
    (hd : decode c.code pc = .ok (.ireturn, 1)) (hQ : Q (some (.int z)) T.heap locs) (hc : cells ≤ cs) (hs : slots ≤ sl) : Gl p e below s Q cs sl (T.setTop (mkF m pc Ls (.int z :: rest))) :=
  Gl.fin X (fun h => by rw [hret] at h; cases h) hlk hQ hc hs fun _ hr => retOut X hx hret rfl (Or.inl ⟨rfl, Or.inl rfl, z, rfl⟩) hd hr
theorem Gl.retJ (X : Stand p l e R s m args below meth c T locs cells slots) (hx : p.tables.exec = Jvm.exec) (hlk : meth.locks = false) {pc : Nat} {Ls : Array Slot} {z : Int64} {rest : List Value} (hret : meth.sig.returnType = some .long)
    (hd : decode c.code pc = .ok (.lreturn, 1)) (hQ : Q (some (.long z)) T.heap locs) (hc : cells ≤ cs) (hs : slots ≤ sl) : Gl p e below s Q cs sl (T.setTop (mkF m pc Ls (.long z :: rest))) :=
  Gl.fin X (fun h => by rw [hret] at h; cases h) hlk hQ hc hs fun _ hr => retOut X hx hret rfl (Or.inr (Or.inl ⟨rfl, rfl, z, rfl⟩)) hd hr
theorem Gl.retV (X : Stand p l e R s m args below meth c T locs cells slots) (hx : p.tables.exec = Jvm.exec) (hlk : meth.locks = false) {pc : Nat} {Ls : Array Slot} (hret : meth.sig.returnType = none)
    (hd : decode c.code pc = .ok (.return_, 1)) (hQ : Q none T.heap locs) (hc : cells ≤ cs) (hs : slots ≤ sl) : Gl p e below s Q cs sl (T.setTop (mkF m pc Ls [])) :=
  Gl.fin X (fun _ => rfl) hlk hQ hc hs fun _ hr => X.returnOut hx hret hd hr
/-- .. where String constants may have been interned -/
def GlW (p : Program) (e : Env) (below : List Frame) (s : State) (Q : Option Value → Heap → List Loc → Prop) (cs sl : Nat) (T : State) : Prop :=
  ∃ s₂ o, Steps p.tables e below T s₂ ∧ s₂.status = .running ∧ Ended s₂ below o ∧ ∃ v L, o = .returned v ∧ Q v s₂.heap L ∧ ReturnedEndW s o s₂ L cs sl
theorem GlW.st (k : ∀ t, Steps p.tables e below T' t → Steps p.tables e below T t) (h : GlW p e below s Q cs sl T') : GlW p e below s Q cs sl T := by
  obtain ⟨a, o, h1, r⟩ := h
  exact ⟨a, o, k _ h1, r⟩
theorem GlW.to (k : Steps p.tables e below T T') (h : GlW p e below s Q cs sl T') : GlW p e below s Q cs sl T := GlW.st (fun _ q => k.trans q) h
theorem GlW.retN {vm₁ : Vm} (X : Stand p l e R (s.setVm vm₁) m args below meth c T locs cells slots) (hx : p.tables.exec = Jvm.exec) {n : Nat} (hS : s.Since vm₁ n) (hn : n ≤ T.heap.size) (hlk : meth.locks = false) {pc : Nat} {Ls : Array Slot} {z : Int32} {t : FieldType} {rest : List Value} (hret : meth.sig.returnType = some t) (ht : t = .boolean ∨ t = .byte ∨ t = .char ∨ t = .short)
    (hd : decode c.code pc = .ok (.ireturn, 1)) (hQ : Q (some (.int (nar t z))) T.heap locs) (hc : cells ≤ cs) (hs : slots ≤ sl) : GlW p e below s Q cs sl (T.setTop (mkF m pc Ls (.int z :: rest))) := by
  obtain ⟨fs, hr, hrun, hended, h1, h2, h3, h4⟩ := X.leaveW hS hn (v := some (.int (nar t z))) (fun h => by rw [hret] at h; cases h) hlk
  exact ⟨_, _, Jvm.RoadKit.retN X hx hret ht hd hr, hrun, hended, _, locs, rfl, hQ, h1, h2, h3, h4.mono hc hs⟩
theorem lc_t {x y : Int64} (h : x < y) : ifCond.holds .lt (lcmpW x y) = true ∧ ifCond.holds .ge (lcmpW x y) = false ∧ ifCond.holds .gt (lcmpW y x) = true ∧ ifCond.holds .le (lcmpW y x) = false :=
  have a := tlt ((lw_lt x y).mpr h)
  have b := tlt ((lw_gt y x).mpr h)
  ⟨(if0 _ _).trans a.1, (if0 _ _).trans a.2.1, (if0 _ _).trans b.2.2.1, (if0 _ _).trans b.2.2.2⟩
theorem lc_f {x y : Int64} (h : ¬ x < y) : ifCond.holds .lt (lcmpW x y) = false ∧ ifCond.holds .ge (lcmpW x y) = true ∧ ifCond.holds .gt (lcmpW y x) = false ∧ ifCond.holds .le (lcmpW y x) = true :=
  have a := flt (fun q => h ((lw_lt x y).mp q))
  have b := flt (fun q => h ((lw_gt y x).mp q))
  ⟨(if0 _ _).trans a.1, (if0 _ _).trans a.2.1, (if0 _ _).trans b.2.2.1, (if0 _ _).trans b.2.2.2⟩
theorem le_t {x y : Int64} (h : x = y) : ifCond.holds .eq (lcmpW x y) = true ∧ ifCond.holds .ne (lcmpW x y) = false :=
  have a := teq ((lw_eq x y).mpr h)
  ⟨(if0 _ _).trans a.1, (if0 _ _).trans a.2⟩
theorem le_f {x y : Int64} (h : ¬ x = y) : ifCond.holds .eq (lcmpW x y) = false ∧ ifCond.holds .ne (lcmpW x y) = true :=
  have a := feq (fun q => h ((lw_eq x y).mp q))
  ⟨(if0 _ _).trans a.1, (if0 _ _).trans a.2⟩
end New
end Jvm.RoadKit
namespace Jvm.Pilot.@@N@@
open Jvm Jvm.ClassFile Sem Op Lib Jvm.Free Jvm.Stand Jvm.LawKit Jvm.RoadKit Bundle Jvm.Pilot.@@N@@.Jvm.D
def own_draw (p1 : Int32) : Int32 := (if (p1 &&& (256 : Int32)) = (0 : Int32) then (nar .byte (p1.toInt8.toInt32)) else (if (((p1.toUInt32 >>> ((9 : Int32) &&& 31).toUInt32).toInt32) % (6 : Int32)) = (5 : Int32) then (nar .byte (32 : Int32)) else (nar .byte (((9 : Int32) + (((p1.toUInt32 >>> ((9 : Int32) &&& 31).toUInt32).toInt32) % (6 : Int32))).toInt8.toInt32))))
theorem d1_0 : decode method_2_code 0 = .ok (.iload_n 0, 1) := by decide +kernel
theorem d1_1 : decode method_2_code 1 = .ok (.sipush 256, 3) := by decide +kernel
theorem d1_4 : decode method_2_code 4 = .ok (.iand, 1) := by decide +kernel
theorem d1_5 : decode method_2_code 5 = .ok (.ifCond .ne 6, 3) := by decide +kernel
theorem d1_8 : decode method_2_code 8 = .ok (.iload_n 0, 1) := by decide +kernel
theorem d1_9 : decode method_2_code 9 = .ok (.i2b, 1) := by decide +kernel
theorem d1_10 : decode method_2_code 10 = .ok (.ireturn, 1) := by decide +kernel
theorem d1_11 : decode method_2_code 11 = .ok (.iload_n 0, 1) := by decide +kernel
theorem d1_12 : decode method_2_code 12 = .ok (.bipush 9, 2) := by decide +kernel
theorem d1_14 : decode method_2_code 14 = .ok (.iushr, 1) := by decide +kernel
theorem d1_15 : decode method_2_code 15 = .ok (.bipush 6, 2) := by decide +kernel
theorem d1_17 : decode method_2_code 17 = .ok (.irem, 1) := by decide +kernel
theorem d1_18 : decode method_2_code 18 = .ok (.istore_n 1, 1) := by decide +kernel
theorem d1_19 : decode method_2_code 19 = .ok (.iload_n 1, 1) := by decide +kernel
theorem d1_20 : decode method_2_code 20 = .ok (.iconst 5, 1) := by decide +kernel
theorem d1_21 : decode method_2_code 21 = .ok (.if_icmp .ne 6, 3) := by decide +kernel
theorem d1_24 : decode method_2_code 24 = .ok (.bipush 32, 2) := by decide +kernel
theorem d1_26 : decode method_2_code 26 = .ok (.ireturn, 1) := by decide +kernel
theorem d1_27 : decode method_2_code 27 = .ok (.bipush 9, 2) := by decide +kernel
theorem d1_29 : decode method_2_code 29 = .ok (.iload_n 1, 1) := by decide +kernel
theorem d1_30 : decode method_2_code 30 = .ok (.iadd, 1) := by decide +kernel
theorem d1_31 : decode method_2_code 31 = .ok (.i2b, 1) := by decide +kernel
theorem d1_32 : decode method_2_code 32 = .ok (.ireturn, 1) := by decide +kernel
theorem pf_0 : plainFor (⟨"com/example/ilsa/ilsa/io/LineFieldsFieldStartPinLaw", "draw", "(I)B"⟩ : MethodName) = true := by decide +kernel
def Q1 (Z : State) (p1 : Int32) (h0 : Heap) (n0 : Nat) (v : Option Value) (h : Heap) (L : List Loc) : Prop := v = some (.int (own_draw p1)) ∧ Fr n0 L ∧ h = h0
theorem ef_1 (m : MethodId) (p1 : Int32) : entryFrame m #[(.int p1)] 2 = mkF m 0 #[.val (.int p1), .unset] [] := by first | (simp [entryFrame, mkF, argsToLocals, Value.category]; done) | rfl
set_option maxRecDepth 65536 in
set_option maxHeartbeats 40000000 in
theorem rm1 (l : Launch) (Z : State) (a0 : Array Value) (hw : ∀ d ∈ tables_1, d.before a0 Z = true) (ws : List Jvm.Cond) (p1 : Int32) (h0 : Heap) (n0 : Nat) :
    MetFree l (⟨"com/example/ilsa/ilsa/io/LineFieldsFieldStartPinLaw", "draw", "(I)B"⟩ : MethodName) (head1 (Jvm.Cond.code (⟨"com/example/ilsa/ilsa/io/LineFieldsFieldStartPinLaw", "draw", "(I)B"⟩ : MethodName) method_2_code 2 (some .byte) :: ws) ({ frames := 0, cells := 0, slots := 0, locals := 0 } : Room)) (fun a U => a = #[(.int p1)] ∧ Z.Warmed39 U.vm ∧ U.heap = h0) (fun _ _ _ _ _ => True) (fun _ U o U' => ∃ v L, o = .returned v ∧ Q1 Z p1 h0 n0 v U'.heap L ∧ FrameEnd U o U' L ({ frames := 0, cells := 0, slots := 0, locals := 0 } : Room).cells ({ frames := 0, cells := 0, slots := 0, locals := 0 } : Room).slots) := by
  refine MetFree.of_bodySF pf_0 hisR ?_
  intro p e s m args below meth c s₁ Bd hml0 hP hK
  obtain ⟨rfl, hZ, hh⟩ := hP
  have hx := Bd.exec
  have hby := Bd.bytes
  have hlk : meth.locks = false := BodyLoose.notSynchronized Bd
  have hml : c.maxLocals = 2 := hml0
  have hown : s.vm.findClass "com/example/ilsa/ilsa/io/LineFieldsFieldStartPinLaw" = some m.cls := findClass_of_methodNamed Bd.named
  have hnm := (name_of_methodNamed Bd.named Bd.method).1
  have X0 : Stand p l e ({ frames := 0, cells := 0, slots := 0, locals := 0 } : Room) s m #[(.int p1)] below meth c s₁ [] 0 0 := Stand.of_body Bd
  have e0 : s₁.heap = h0 := by rw [← hh, Bd.state]; rfl
  have N0 := Fr.nil n0
  show Gl p e below s (Q1 Z p1 h0 n0) ({ frames := 0, cells := 0, slots := 0, locals := 0 } : Room).cells ({ frames := 0, cells := 0, slots := 0, locals := 0 } : Room).slots (s₁.setTop (entryFrame m #[(.int p1)] 2))
  rw [ef_1]
  show Gl _ _ _ _ _ _ _ (s₁.setTop (mkF m 0 #[.val (.int p1), .unset] []))
  refine Gl.st (fun t k => XS.iloadN X0.here hx rfl (hb hby d1_0) rfl  k) ?_
  show Gl _ _ _ _ _ _ _ (s₁.setTop (mkF m 1 #[.val (.int p1), .unset] [(.int p1)]))
  refine Gl.st (fun t k => XS.sipush X0.here hx rfl (hb hby d1_1) k) ?_
  show Gl _ _ _ _ _ _ _ (s₁.setTop (mkF m 4 #[.val (.int p1), .unset] [(.int (256 : Int32)), (.int p1)]))
  refine Gl.st (fun t k => XS.iand X0.here hx rfl (hb hby d1_4) rfl k) ?_
  show Gl _ _ _ _ _ _ _ (s₁.setTop (mkF m 5 #[.val (.int p1), .unset] [(.int (p1 &&& (256 : Int32)))]))
  by_cases hc5 : (p1 &&& (256 : Int32)) = (0 : Int32)
  · refine Gl.st (fun t k => XS.ifNo X0.here hx rfl (hb hby d1_5) rfl ((if0 _ _).trans (teq hc5).2) k) ?_
    show Gl _ _ _ _ _ _ _ (s₁.setTop (mkF m 8 #[.val (.int p1), .unset] []))
    refine Gl.st (fun t k => XS.iloadN X0.here hx rfl (hb hby d1_8) rfl  k) ?_
    show Gl _ _ _ _ _ _ _ (s₁.setTop (mkF m 9 #[.val (.int p1), .unset] [(.int p1)]))
    refine Gl.st (fun t k => XS.i2b X0.here hx rfl (hb hby d1_9) rfl k) ?_
    show Gl _ _ _ _ _ _ _ (s₁.setTop (mkF m 10 #[.val (.int p1), .unset] [(.int (p1.toInt8.toInt32))]))
    exact Gl.retN X0 hx hlk Bd.returns (by simp) (hb hby d1_10) (⟨congrArg (fun z => some (Value.int z)) (show (nar .byte (p1.toInt8.toInt32)) = own_draw p1 from by simp only [own_draw, if_pos hc5]), N0, e0⟩) (by decide) (by decide)
  · refine Gl.st (fun t k => XS.ifYes X0.here hx rfl (pc0 := 5) (pc' := 11) rfl (hb hby d1_5) rfl ((if0 _ _).trans (feq hc5).2) (by decide) (by decide) k) ?_
    show Gl _ _ _ _ _ _ _ (s₁.setTop (mkF m 11 #[.val (.int p1), .unset] []))
    refine Gl.st (fun t k => XS.iloadN X0.here hx rfl (hb hby d1_11) rfl  k) ?_
    show Gl _ _ _ _ _ _ _ (s₁.setTop (mkF m 12 #[.val (.int p1), .unset] [(.int p1)]))
    refine Gl.st (fun t k => XS.bipush X0.here hx rfl (hb hby d1_12) k) ?_
    show Gl _ _ _ _ _ _ _ (s₁.setTop (mkF m 14 #[.val (.int p1), .unset] [(.int (9 : Int32)), (.int p1)]))
    refine Gl.st (fun t k => XS.iushr X0.here hx rfl (hb hby d1_14) rfl k) ?_
    show Gl _ _ _ _ _ _ _ (s₁.setTop (mkF m 15 #[.val (.int p1), .unset] [(.int ((p1.toUInt32 >>> ((9 : Int32) &&& 31).toUInt32).toInt32))]))
    refine Gl.st (fun t k => XS.bipush X0.here hx rfl (hb hby d1_15) k) ?_
    show Gl _ _ _ _ _ _ _ (s₁.setTop (mkF m 17 #[.val (.int p1), .unset] [(.int (6 : Int32)), (.int ((p1.toUInt32 >>> ((9 : Int32) &&& 31).toUInt32).toInt32))]))
    refine Gl.st (fun t k => iremM X0 hx rfl (hb hby d1_17) rfl (by decide) k) ?_
    show Gl _ _ _ _ _ _ _ (s₁.setTop (mkF m 18 #[.val (.int p1), .unset] [(.int (((p1.toUInt32 >>> ((9 : Int32) &&& 31).toUInt32).toInt32) % (6 : Int32)))]))
    refine Gl.st (fun t k => XS.istoreN X0.here hx rfl (hb hby d1_18) rfl (l' := #[.val (.int p1), .val (.int (((p1.toUInt32 >>> ((9 : Int32) &&& 31).toUInt32).toInt32) % (6 : Int32)))]) rfl k) ?_
    show Gl _ _ _ _ _ _ _ (s₁.setTop (mkF m 19 #[.val (.int p1), .val (.int (((p1.toUInt32 >>> ((9 : Int32) &&& 31).toUInt32).toInt32) % (6 : Int32)))] []))
    refine Gl.st (fun t k => XS.iloadN X0.here hx rfl (hb hby d1_19) rfl  k) ?_
    show Gl _ _ _ _ _ _ _ (s₁.setTop (mkF m 20 #[.val (.int p1), .val (.int (((p1.toUInt32 >>> ((9 : Int32) &&& 31).toUInt32).toInt32) % (6 : Int32)))] [(.int (((p1.toUInt32 >>> ((9 : Int32) &&& 31).toUInt32).toInt32) % (6 : Int32)))]))
    refine Gl.st (fun t k => XS.iconst X0.here hx rfl (hb hby d1_20) k) ?_
    show Gl _ _ _ _ _ _ _ (s₁.setTop (mkF m 21 #[.val (.int p1), .val (.int (((p1.toUInt32 >>> ((9 : Int32) &&& 31).toUInt32).toInt32) % (6 : Int32)))] [(.int (5 : Int32)), (.int (((p1.toUInt32 >>> ((9 : Int32) &&& 31).toUInt32).toInt32) % (6 : Int32)))]))
    by_cases hc21 : (((p1.toUInt32 >>> ((9 : Int32) &&& 31).toUInt32).toInt32) % (6 : Int32)) = (5 : Int32)
    · refine Gl.st (fun t k => XS.icmpNo X0.here hx rfl (hb hby d1_21) rfl (teq hc21).2 k) ?_
      show Gl _ _ _ _ _ _ _ (s₁.setTop (mkF m 24 #[.val (.int p1), .val (.int (((p1.toUInt32 >>> ((9 : Int32) &&& 31).toUInt32).toInt32) % (6 : Int32)))] []))
      refine Gl.st (fun t k => XS.bipush X0.here hx rfl (hb hby d1_24) k) ?_
      show Gl _ _ _ _ _ _ _ (s₁.setTop (mkF m 26 #[.val (.int p1), .val (.int (((p1.toUInt32 >>> ((9 : Int32) &&& 31).toUInt32).toInt32) % (6 : Int32)))] [(.int (32 : Int32))]))
      exact Gl.retN X0 hx hlk Bd.returns (by simp) (hb hby d1_26) (⟨congrArg (fun z => some (Value.int z)) (show (nar .byte (32 : Int32)) = own_draw p1 from by simp only [own_draw, if_neg hc5, if_pos hc21]), N0, e0⟩) (by decide) (by decide)
    · refine Gl.st (fun t k => XS.icmpYes X0.here hx rfl (pc0 := 21) (pc' := 27) rfl (hb hby d1_21) rfl (feq hc21).2 (by decide) (by decide) k) ?_
      show Gl _ _ _ _ _ _ _ (s₁.setTop (mkF m 27 #[.val (.int p1), .val (.int (((p1.toUInt32 >>> ((9 : Int32) &&& 31).toUInt32).toInt32) % (6 : Int32)))] []))
      refine Gl.st (fun t k => XS.bipush X0.here hx rfl (hb hby d1_27) k) ?_
      show Gl _ _ _ _ _ _ _ (s₁.setTop (mkF m 29 #[.val (.int p1), .val (.int (((p1.toUInt32 >>> ((9 : Int32) &&& 31).toUInt32).toInt32) % (6 : Int32)))] [(.int (9 : Int32))]))
      refine Gl.st (fun t k => XS.iloadN X0.here hx rfl (hb hby d1_29) rfl  k) ?_
      show Gl _ _ _ _ _ _ _ (s₁.setTop (mkF m 30 #[.val (.int p1), .val (.int (((p1.toUInt32 >>> ((9 : Int32) &&& 31).toUInt32).toInt32) % (6 : Int32)))] [(.int (((p1.toUInt32 >>> ((9 : Int32) &&& 31).toUInt32).toInt32) % (6 : Int32))), (.int (9 : Int32))]))
      refine Gl.st (fun t k => XS.iadd X0.here hx rfl (hb hby d1_30) rfl k) ?_
      show Gl _ _ _ _ _ _ _ (s₁.setTop (mkF m 31 #[.val (.int p1), .val (.int (((p1.toUInt32 >>> ((9 : Int32) &&& 31).toUInt32).toInt32) % (6 : Int32)))] [(.int ((9 : Int32) + (((p1.toUInt32 >>> ((9 : Int32) &&& 31).toUInt32).toInt32) % (6 : Int32))))]))
      refine Gl.st (fun t k => XS.i2b X0.here hx rfl (hb hby d1_31) rfl k) ?_
      show Gl _ _ _ _ _ _ _ (s₁.setTop (mkF m 32 #[.val (.int p1), .val (.int (((p1.toUInt32 >>> ((9 : Int32) &&& 31).toUInt32).toInt32) % (6 : Int32)))] [(.int (((9 : Int32) + (((p1.toUInt32 >>> ((9 : Int32) &&& 31).toUInt32).toInt32) % (6 : Int32))).toInt8.toInt32))]))
      exact Gl.retN X0 hx hlk Bd.returns (by simp) (hb hby d1_32) (⟨congrArg (fun z => some (Value.int z)) (show (nar .byte (((9 : Int32) + (((p1.toUInt32 >>> ((9 : Int32) &&& 31).toUInt32).toInt32) % (6 : Int32))).toInt8.toInt32)) = own_draw p1 from by simp only [own_draw, if_neg hc5, if_neg hc21]), N0, e0⟩) (by decide) (by decide)
def own_ws (p1 : Int32) : Int32 := (if p1 = (32 : Int32) then (nar .boolean (1 : Int32)) else (if p1 = (9 : Int32) then (nar .boolean (1 : Int32)) else (if p1 = (10 : Int32) then (nar .boolean (1 : Int32)) else (if p1 = (11 : Int32) then (nar .boolean (1 : Int32)) else (if p1 = (12 : Int32) then (nar .boolean (1 : Int32)) else (if p1 = (13 : Int32) then (nar .boolean (1 : Int32)) else (nar .boolean (0 : Int32))))))))
theorem d3_0 : decode method_3_code 0 = .ok (.iload_n 0, 1) := by decide +kernel
theorem d3_1 : decode method_3_code 1 = .ok (.bipush 32, 2) := by decide +kernel
theorem d3_3 : decode method_3_code 3 = .ok (.if_icmp .eq 33, 3) := by decide +kernel
theorem d3_6 : decode method_3_code 6 = .ok (.iload_n 0, 1) := by decide +kernel
theorem d3_7 : decode method_3_code 7 = .ok (.bipush 9, 2) := by decide +kernel
theorem d3_9 : decode method_3_code 9 = .ok (.if_icmp .eq 27, 3) := by decide +kernel
theorem d3_12 : decode method_3_code 12 = .ok (.iload_n 0, 1) := by decide +kernel
theorem d3_13 : decode method_3_code 13 = .ok (.bipush 10, 2) := by decide +kernel
theorem d3_15 : decode method_3_code 15 = .ok (.if_icmp .eq 21, 3) := by decide +kernel
theorem d3_18 : decode method_3_code 18 = .ok (.iload_n 0, 1) := by decide +kernel
theorem d3_19 : decode method_3_code 19 = .ok (.bipush 11, 2) := by decide +kernel
theorem d3_21 : decode method_3_code 21 = .ok (.if_icmp .eq 15, 3) := by decide +kernel
theorem d3_24 : decode method_3_code 24 = .ok (.iload_n 0, 1) := by decide +kernel
theorem d3_25 : decode method_3_code 25 = .ok (.bipush 12, 2) := by decide +kernel
theorem d3_27 : decode method_3_code 27 = .ok (.if_icmp .eq 9, 3) := by decide +kernel
theorem d3_30 : decode method_3_code 30 = .ok (.iload_n 0, 1) := by decide +kernel
theorem d3_31 : decode method_3_code 31 = .ok (.bipush 13, 2) := by decide +kernel
theorem d3_33 : decode method_3_code 33 = .ok (.if_icmp .ne 7, 3) := by decide +kernel
theorem d3_36 : decode method_3_code 36 = .ok (.iconst 1, 1) := by decide +kernel
theorem d3_37 : decode method_3_code 37 = .ok (.goto 4, 3) := by decide +kernel
theorem d3_40 : decode method_3_code 40 = .ok (.iconst 0, 1) := by decide +kernel
theorem d3_41 : decode method_3_code 41 = .ok (.ireturn, 1) := by decide +kernel
theorem pf_1 : plainFor (⟨"com/example/ilsa/ilsa/io/LineFieldsFieldStartPinLaw", "ws", "(B)Z"⟩ : MethodName) = true := by decide +kernel
def Q3 (Z : State) (p1 : Int32) (h0 : Heap) (n0 : Nat) (v : Option Value) (h : Heap) (L : List Loc) : Prop := v = some (.int (own_ws p1)) ∧ Fr n0 L ∧ h = h0
theorem ef_3 (m : MethodId) (p1 : Int32) : entryFrame m #[(.int p1)] 1 = mkF m 0 #[.val (.int p1)] [] := by first | (simp [entryFrame, mkF, argsToLocals, Value.category]; done) | rfl
set_option maxRecDepth 65536 in
set_option maxHeartbeats 40000000 in
theorem rm3 (l : Launch) (Z : State) (a0 : Array Value) (hw : ∀ d ∈ tables_1, d.before a0 Z = true) (ws : List Jvm.Cond) (p1 : Int32) (h0 : Heap) (n0 : Nat) :
    MetFree l (⟨"com/example/ilsa/ilsa/io/LineFieldsFieldStartPinLaw", "ws", "(B)Z"⟩ : MethodName) (head1 (Jvm.Cond.code (⟨"com/example/ilsa/ilsa/io/LineFieldsFieldStartPinLaw", "ws", "(B)Z"⟩ : MethodName) method_3_code 1 (some .boolean) :: ws) ({ frames := 0, cells := 0, slots := 0, locals := 0 } : Room)) (fun a U => a = #[(.int p1)] ∧ Z.Warmed39 U.vm ∧ U.heap = h0) (fun _ _ _ _ _ => True) (fun _ U o U' => ∃ v L, o = .returned v ∧ Q3 Z p1 h0 n0 v U'.heap L ∧ FrameEnd U o U' L ({ frames := 0, cells := 0, slots := 0, locals := 0 } : Room).cells ({ frames := 0, cells := 0, slots := 0, locals := 0 } : Room).slots) := by
  refine MetFree.of_bodySF pf_1 hisR ?_
  intro p e s m args below meth c s₁ Bd hml0 hP hK
  obtain ⟨rfl, hZ, hh⟩ := hP
  have hx := Bd.exec
  have hby := Bd.bytes
  have hlk : meth.locks = false := BodyLoose.notSynchronized Bd
  have hml : c.maxLocals = 1 := hml0
  have hown : s.vm.findClass "com/example/ilsa/ilsa/io/LineFieldsFieldStartPinLaw" = some m.cls := findClass_of_methodNamed Bd.named
  have hnm := (name_of_methodNamed Bd.named Bd.method).1
  have X0 : Stand p l e ({ frames := 0, cells := 0, slots := 0, locals := 0 } : Room) s m #[(.int p1)] below meth c s₁ [] 0 0 := Stand.of_body Bd
  have e0 : s₁.heap = h0 := by rw [← hh, Bd.state]; rfl
  have N0 := Fr.nil n0
  show Gl p e below s (Q3 Z p1 h0 n0) ({ frames := 0, cells := 0, slots := 0, locals := 0 } : Room).cells ({ frames := 0, cells := 0, slots := 0, locals := 0 } : Room).slots (s₁.setTop (entryFrame m #[(.int p1)] 1))
  rw [ef_3]
  show Gl _ _ _ _ _ _ _ (s₁.setTop (mkF m 0 #[.val (.int p1)] []))
  refine Gl.st (fun t k => XS.iloadN X0.here hx rfl (hb hby d3_0) rfl  k) ?_
  show Gl _ _ _ _ _ _ _ (s₁.setTop (mkF m 1 #[.val (.int p1)] [(.int p1)]))
  refine Gl.st (fun t k => XS.bipush X0.here hx rfl (hb hby d3_1) k) ?_
  show Gl _ _ _ _ _ _ _ (s₁.setTop (mkF m 3 #[.val (.int p1)] [(.int (32 : Int32)), (.int p1)]))
  by_cases hc3 : p1 = (32 : Int32)
  · refine Gl.st (fun t k => XS.icmpYes X0.here hx rfl (pc0 := 3) (pc' := 36) rfl (hb hby d3_3) rfl (teq hc3).1 (by decide) (by decide) k) ?_
    show Gl _ _ _ _ _ _ _ (s₁.setTop (mkF m 36 #[.val (.int p1)] []))
    refine Gl.st (fun t k => XS.iconst X0.here hx rfl (hb hby d3_36) k) ?_
    show Gl _ _ _ _ _ _ _ (s₁.setTop (mkF m 37 #[.val (.int p1)] [(.int (1 : Int32))]))
    refine Gl.st (fun t k => XS.goto X0.here hx rfl (pc0 := 37) (pc' := 41) rfl (hb hby d3_37) (by decide) (by decide) k) ?_
    show Gl _ _ _ _ _ _ _ (s₁.setTop (mkF m 41 #[.val (.int p1)] [(.int (1 : Int32))]))
    exact Gl.retN X0 hx hlk Bd.returns (by simp) (hb hby d3_41) (⟨congrArg (fun z => some (Value.int z)) (show (nar .boolean (1 : Int32)) = own_ws p1 from by simp only [own_ws, if_pos hc3]), N0, e0⟩) (by decide) (by decide)
  · refine Gl.st (fun t k => XS.icmpNo X0.here hx rfl (hb hby d3_3) rfl (feq hc3).1 k) ?_
    show Gl _ _ _ _ _ _ _ (s₁.setTop (mkF m 6 #[.val (.int p1)] []))
    refine Gl.st (fun t k => XS.iloadN X0.here hx rfl (hb hby d3_6) rfl  k) ?_
    show Gl _ _ _ _ _ _ _ (s₁.setTop (mkF m 7 #[.val (.int p1)] [(.int p1)]))
    refine Gl.st (fun t k => XS.bipush X0.here hx rfl (hb hby d3_7) k) ?_
    show Gl _ _ _ _ _ _ _ (s₁.setTop (mkF m 9 #[.val (.int p1)] [(.int (9 : Int32)), (.int p1)]))
    by_cases hc9 : p1 = (9 : Int32)
    · refine Gl.st (fun t k => XS.icmpYes X0.here hx rfl (pc0 := 9) (pc' := 36) rfl (hb hby d3_9) rfl (teq hc9).1 (by decide) (by decide) k) ?_
      show Gl _ _ _ _ _ _ _ (s₁.setTop (mkF m 36 #[.val (.int p1)] []))
      refine Gl.st (fun t k => XS.iconst X0.here hx rfl (hb hby d3_36) k) ?_
      show Gl _ _ _ _ _ _ _ (s₁.setTop (mkF m 37 #[.val (.int p1)] [(.int (1 : Int32))]))
      refine Gl.st (fun t k => XS.goto X0.here hx rfl (pc0 := 37) (pc' := 41) rfl (hb hby d3_37) (by decide) (by decide) k) ?_
      show Gl _ _ _ _ _ _ _ (s₁.setTop (mkF m 41 #[.val (.int p1)] [(.int (1 : Int32))]))
      exact Gl.retN X0 hx hlk Bd.returns (by simp) (hb hby d3_41) (⟨congrArg (fun z => some (Value.int z)) (show (nar .boolean (1 : Int32)) = own_ws p1 from by simp only [own_ws, if_neg hc3, if_pos hc9]), N0, e0⟩) (by decide) (by decide)
    · refine Gl.st (fun t k => XS.icmpNo X0.here hx rfl (hb hby d3_9) rfl (feq hc9).1 k) ?_
      show Gl _ _ _ _ _ _ _ (s₁.setTop (mkF m 12 #[.val (.int p1)] []))
      refine Gl.st (fun t k => XS.iloadN X0.here hx rfl (hb hby d3_12) rfl  k) ?_
      show Gl _ _ _ _ _ _ _ (s₁.setTop (mkF m 13 #[.val (.int p1)] [(.int p1)]))
      refine Gl.st (fun t k => XS.bipush X0.here hx rfl (hb hby d3_13) k) ?_
      show Gl _ _ _ _ _ _ _ (s₁.setTop (mkF m 15 #[.val (.int p1)] [(.int (10 : Int32)), (.int p1)]))
      by_cases hc15 : p1 = (10 : Int32)
      · refine Gl.st (fun t k => XS.icmpYes X0.here hx rfl (pc0 := 15) (pc' := 36) rfl (hb hby d3_15) rfl (teq hc15).1 (by decide) (by decide) k) ?_
        show Gl _ _ _ _ _ _ _ (s₁.setTop (mkF m 36 #[.val (.int p1)] []))
        refine Gl.st (fun t k => XS.iconst X0.here hx rfl (hb hby d3_36) k) ?_
        show Gl _ _ _ _ _ _ _ (s₁.setTop (mkF m 37 #[.val (.int p1)] [(.int (1 : Int32))]))
        refine Gl.st (fun t k => XS.goto X0.here hx rfl (pc0 := 37) (pc' := 41) rfl (hb hby d3_37) (by decide) (by decide) k) ?_
        show Gl _ _ _ _ _ _ _ (s₁.setTop (mkF m 41 #[.val (.int p1)] [(.int (1 : Int32))]))
        exact Gl.retN X0 hx hlk Bd.returns (by simp) (hb hby d3_41) (⟨congrArg (fun z => some (Value.int z)) (show (nar .boolean (1 : Int32)) = own_ws p1 from by simp only [own_ws, if_neg hc3, if_neg hc9, if_pos hc15]), N0, e0⟩) (by decide) (by decide)
      · refine Gl.st (fun t k => XS.icmpNo X0.here hx rfl (hb hby d3_15) rfl (feq hc15).1 k) ?_
        show Gl _ _ _ _ _ _ _ (s₁.setTop (mkF m 18 #[.val (.int p1)] []))
        refine Gl.st (fun t k => XS.iloadN X0.here hx rfl (hb hby d3_18) rfl  k) ?_
        show Gl _ _ _ _ _ _ _ (s₁.setTop (mkF m 19 #[.val (.int p1)] [(.int p1)]))
        refine Gl.st (fun t k => XS.bipush X0.here hx rfl (hb hby d3_19) k) ?_
        show Gl _ _ _ _ _ _ _ (s₁.setTop (mkF m 21 #[.val (.int p1)] [(.int (11 : Int32)), (.int p1)]))
        by_cases hc21 : p1 = (11 : Int32)
        · refine Gl.st (fun t k => XS.icmpYes X0.here hx rfl (pc0 := 21) (pc' := 36) rfl (hb hby d3_21) rfl (teq hc21).1 (by decide) (by decide) k) ?_
          show Gl _ _ _ _ _ _ _ (s₁.setTop (mkF m 36 #[.val (.int p1)] []))
          refine Gl.st (fun t k => XS.iconst X0.here hx rfl (hb hby d3_36) k) ?_
          show Gl _ _ _ _ _ _ _ (s₁.setTop (mkF m 37 #[.val (.int p1)] [(.int (1 : Int32))]))
          refine Gl.st (fun t k => XS.goto X0.here hx rfl (pc0 := 37) (pc' := 41) rfl (hb hby d3_37) (by decide) (by decide) k) ?_
          show Gl _ _ _ _ _ _ _ (s₁.setTop (mkF m 41 #[.val (.int p1)] [(.int (1 : Int32))]))
          exact Gl.retN X0 hx hlk Bd.returns (by simp) (hb hby d3_41) (⟨congrArg (fun z => some (Value.int z)) (show (nar .boolean (1 : Int32)) = own_ws p1 from by simp only [own_ws, if_neg hc3, if_neg hc9, if_neg hc15, if_pos hc21]), N0, e0⟩) (by decide) (by decide)
        · refine Gl.st (fun t k => XS.icmpNo X0.here hx rfl (hb hby d3_21) rfl (feq hc21).1 k) ?_
          show Gl _ _ _ _ _ _ _ (s₁.setTop (mkF m 24 #[.val (.int p1)] []))
          refine Gl.st (fun t k => XS.iloadN X0.here hx rfl (hb hby d3_24) rfl  k) ?_
          show Gl _ _ _ _ _ _ _ (s₁.setTop (mkF m 25 #[.val (.int p1)] [(.int p1)]))
          refine Gl.st (fun t k => XS.bipush X0.here hx rfl (hb hby d3_25) k) ?_
          show Gl _ _ _ _ _ _ _ (s₁.setTop (mkF m 27 #[.val (.int p1)] [(.int (12 : Int32)), (.int p1)]))
          by_cases hc27 : p1 = (12 : Int32)
          · refine Gl.st (fun t k => XS.icmpYes X0.here hx rfl (pc0 := 27) (pc' := 36) rfl (hb hby d3_27) rfl (teq hc27).1 (by decide) (by decide) k) ?_
            show Gl _ _ _ _ _ _ _ (s₁.setTop (mkF m 36 #[.val (.int p1)] []))
            refine Gl.st (fun t k => XS.iconst X0.here hx rfl (hb hby d3_36) k) ?_
            show Gl _ _ _ _ _ _ _ (s₁.setTop (mkF m 37 #[.val (.int p1)] [(.int (1 : Int32))]))
            refine Gl.st (fun t k => XS.goto X0.here hx rfl (pc0 := 37) (pc' := 41) rfl (hb hby d3_37) (by decide) (by decide) k) ?_
            show Gl _ _ _ _ _ _ _ (s₁.setTop (mkF m 41 #[.val (.int p1)] [(.int (1 : Int32))]))
            exact Gl.retN X0 hx hlk Bd.returns (by simp) (hb hby d3_41) (⟨congrArg (fun z => some (Value.int z)) (show (nar .boolean (1 : Int32)) = own_ws p1 from by simp only [own_ws, if_neg hc3, if_neg hc9, if_neg hc15, if_neg hc21, if_pos hc27]), N0, e0⟩) (by decide) (by decide)
          · refine Gl.st (fun t k => XS.icmpNo X0.here hx rfl (hb hby d3_27) rfl (feq hc27).1 k) ?_
            show Gl _ _ _ _ _ _ _ (s₁.setTop (mkF m 30 #[.val (.int p1)] []))
            refine Gl.st (fun t k => XS.iloadN X0.here hx rfl (hb hby d3_30) rfl  k) ?_
            show Gl _ _ _ _ _ _ _ (s₁.setTop (mkF m 31 #[.val (.int p1)] [(.int p1)]))
            refine Gl.st (fun t k => XS.bipush X0.here hx rfl (hb hby d3_31) k) ?_
            show Gl _ _ _ _ _ _ _ (s₁.setTop (mkF m 33 #[.val (.int p1)] [(.int (13 : Int32)), (.int p1)]))
            by_cases hc33 : p1 = (13 : Int32)
            · refine Gl.st (fun t k => XS.icmpNo X0.here hx rfl (hb hby d3_33) rfl (teq hc33).2 k) ?_
              show Gl _ _ _ _ _ _ _ (s₁.setTop (mkF m 36 #[.val (.int p1)] []))
              refine Gl.st (fun t k => XS.iconst X0.here hx rfl (hb hby d3_36) k) ?_
              show Gl _ _ _ _ _ _ _ (s₁.setTop (mkF m 37 #[.val (.int p1)] [(.int (1 : Int32))]))
              refine Gl.st (fun t k => XS.goto X0.here hx rfl (pc0 := 37) (pc' := 41) rfl (hb hby d3_37) (by decide) (by decide) k) ?_
              show Gl _ _ _ _ _ _ _ (s₁.setTop (mkF m 41 #[.val (.int p1)] [(.int (1 : Int32))]))
              exact Gl.retN X0 hx hlk Bd.returns (by simp) (hb hby d3_41) (⟨congrArg (fun z => some (Value.int z)) (show (nar .boolean (1 : Int32)) = own_ws p1 from by simp only [own_ws, if_neg hc3, if_neg hc9, if_neg hc15, if_neg hc21, if_neg hc27, if_pos hc33]), N0, e0⟩) (by decide) (by decide)
            · refine Gl.st (fun t k => XS.icmpYes X0.here hx rfl (pc0 := 33) (pc' := 40) rfl (hb hby d3_33) rfl (feq hc33).2 (by decide) (by decide) k) ?_
              show Gl _ _ _ _ _ _ _ (s₁.setTop (mkF m 40 #[.val (.int p1)] []))
              refine Gl.st (fun t k => XS.iconst X0.here hx rfl (hb hby d3_40) k) ?_
              show Gl _ _ _ _ _ _ _ (s₁.setTop (mkF m 41 #[.val (.int p1)] [(.int (0 : Int32))]))
              exact Gl.retN X0 hx hlk Bd.returns (by simp) (hb hby d3_41) (⟨congrArg (fun z => some (Value.int z)) (show (nar .boolean (0 : Int32)) = own_ws p1 from by simp only [own_ws, if_neg hc3, if_neg hc9, if_neg hc15, if_neg hc21, if_neg hc27, if_neg hc33]), N0, e0⟩) (by decide) (by decide)
def own_isws (p1 : Int32) : Int32 := (if p1 = (32 : Int32) then (nar .boolean (1 : Int32)) else (if p1 < (9 : Int32) then (nar .boolean (0 : Int32)) else (if (13 : Int32) < p1 then (nar .boolean (0 : Int32)) else (nar .boolean (1 : Int32)))))
theorem d4_0 : decode prog_5_method_6_code 0 = .ok (.iload_n 0, 1) := by decide +kernel
theorem d4_1 : decode prog_5_method_6_code 1 = .ok (.bipush 32, 2) := by decide +kernel
theorem d4_3 : decode prog_5_method_6_code 3 = .ok (.if_icmp .eq 15, 3) := by decide +kernel
theorem d4_6 : decode prog_5_method_6_code 6 = .ok (.iload_n 0, 1) := by decide +kernel
theorem d4_7 : decode prog_5_method_6_code 7 = .ok (.bipush 9, 2) := by decide +kernel
theorem d4_9 : decode prog_5_method_6_code 9 = .ok (.if_icmp .lt 13, 3) := by decide +kernel
theorem d4_12 : decode prog_5_method_6_code 12 = .ok (.iload_n 0, 1) := by decide +kernel
theorem d4_13 : decode prog_5_method_6_code 13 = .ok (.bipush 13, 2) := by decide +kernel
theorem d4_15 : decode prog_5_method_6_code 15 = .ok (.if_icmp .gt 7, 3) := by decide +kernel
theorem d4_18 : decode prog_5_method_6_code 18 = .ok (.iconst 1, 1) := by decide +kernel
theorem d4_19 : decode prog_5_method_6_code 19 = .ok (.goto 4, 3) := by decide +kernel
theorem d4_22 : decode prog_5_method_6_code 22 = .ok (.iconst 0, 1) := by decide +kernel
theorem d4_23 : decode prog_5_method_6_code 23 = .ok (.ireturn, 1) := by decide +kernel
theorem pf_2 : plainFor (⟨"com/example/ilsa/ilsa/io/LineFields", "isWhitespace", "(B)Z"⟩ : MethodName) = true := by decide +kernel
def Q4 (Z : State) (p1 : Int32) (h0 : Heap) (n0 : Nat) (v : Option Value) (h : Heap) (L : List Loc) : Prop := v = some (.int (own_isws p1)) ∧ Fr n0 L ∧ h = h0
theorem ef_4 (m : MethodId) (p1 : Int32) : entryFrame m #[(.int p1)] 1 = mkF m 0 #[.val (.int p1)] [] := by first | (simp [entryFrame, mkF, argsToLocals, Value.category]; done) | rfl
set_option maxRecDepth 65536 in
set_option maxHeartbeats 40000000 in
theorem rm4 (l : Launch) (Z : State) (a0 : Array Value) (hw : ∀ d ∈ tables_1, d.before a0 Z = true) (ws : List Jvm.Cond) (p1 : Int32) (h0 : Heap) (n0 : Nat) :
    MetFree l (⟨"com/example/ilsa/ilsa/io/LineFields", "isWhitespace", "(B)Z"⟩ : MethodName) (head1 (Jvm.Cond.code (⟨"com/example/ilsa/ilsa/io/LineFields", "isWhitespace", "(B)Z"⟩ : MethodName) prog_5_method_6_code 1 (some .boolean) :: ws) ({ frames := 0, cells := 0, slots := 0, locals := 0 } : Room)) (fun a U => a = #[(.int p1)] ∧ Z.Warmed39 U.vm ∧ U.heap = h0) (fun _ _ _ _ _ => True) (fun _ U o U' => ∃ v L, o = .returned v ∧ Q4 Z p1 h0 n0 v U'.heap L ∧ FrameEnd U o U' L ({ frames := 0, cells := 0, slots := 0, locals := 0 } : Room).cells ({ frames := 0, cells := 0, slots := 0, locals := 0 } : Room).slots) := by
  refine MetFree.of_bodySF pf_2 hisR ?_
  intro p e s m args below meth c s₁ Bd hml0 hP hK
  obtain ⟨rfl, hZ, hh⟩ := hP
  have hx := Bd.exec
  have hby := Bd.bytes
  have hlk : meth.locks = false := BodyLoose.notSynchronized Bd
  have hml : c.maxLocals = 1 := hml0
  have hown : s.vm.findClass "com/example/ilsa/ilsa/io/LineFields" = some m.cls := findClass_of_methodNamed Bd.named
  have hnm := (name_of_methodNamed Bd.named Bd.method).1
  have X0 : Stand p l e ({ frames := 0, cells := 0, slots := 0, locals := 0 } : Room) s m #[(.int p1)] below meth c s₁ [] 0 0 := Stand.of_body Bd
  have e0 : s₁.heap = h0 := by rw [← hh, Bd.state]; rfl
  have N0 := Fr.nil n0
  show Gl p e below s (Q4 Z p1 h0 n0) ({ frames := 0, cells := 0, slots := 0, locals := 0 } : Room).cells ({ frames := 0, cells := 0, slots := 0, locals := 0 } : Room).slots (s₁.setTop (entryFrame m #[(.int p1)] 1))
  rw [ef_4]
  show Gl _ _ _ _ _ _ _ (s₁.setTop (mkF m 0 #[.val (.int p1)] []))
  refine Gl.st (fun t k => XS.iloadN X0.here hx rfl (hb hby d4_0) rfl  k) ?_
  show Gl _ _ _ _ _ _ _ (s₁.setTop (mkF m 1 #[.val (.int p1)] [(.int p1)]))
  refine Gl.st (fun t k => XS.bipush X0.here hx rfl (hb hby d4_1) k) ?_
  show Gl _ _ _ _ _ _ _ (s₁.setTop (mkF m 3 #[.val (.int p1)] [(.int (32 : Int32)), (.int p1)]))
  by_cases hc3 : p1 = (32 : Int32)
  · refine Gl.st (fun t k => XS.icmpYes X0.here hx rfl (pc0 := 3) (pc' := 18) rfl (hb hby d4_3) rfl (teq hc3).1 (by decide) (by decide) k) ?_
    show Gl _ _ _ _ _ _ _ (s₁.setTop (mkF m 18 #[.val (.int p1)] []))
    refine Gl.st (fun t k => XS.iconst X0.here hx rfl (hb hby d4_18) k) ?_
    show Gl _ _ _ _ _ _ _ (s₁.setTop (mkF m 19 #[.val (.int p1)] [(.int (1 : Int32))]))
    refine Gl.st (fun t k => XS.goto X0.here hx rfl (pc0 := 19) (pc' := 23) rfl (hb hby d4_19) (by decide) (by decide) k) ?_
    show Gl _ _ _ _ _ _ _ (s₁.setTop (mkF m 23 #[.val (.int p1)] [(.int (1 : Int32))]))
    exact Gl.retN X0 hx hlk Bd.returns (by simp) (hb hby d4_23) (⟨congrArg (fun z => some (Value.int z)) (show (nar .boolean (1 : Int32)) = own_isws p1 from by simp only [own_isws, if_pos hc3]), N0, e0⟩) (by decide) (by decide)
  · refine Gl.st (fun t k => XS.icmpNo X0.here hx rfl (hb hby d4_3) rfl (feq hc3).1 k) ?_
    show Gl _ _ _ _ _ _ _ (s₁.setTop (mkF m 6 #[.val (.int p1)] []))
    refine Gl.st (fun t k => XS.iloadN X0.here hx rfl (hb hby d4_6) rfl  k) ?_
    show Gl _ _ _ _ _ _ _ (s₁.setTop (mkF m 7 #[.val (.int p1)] [(.int p1)]))
    refine Gl.st (fun t k => XS.bipush X0.here hx rfl (hb hby d4_7) k) ?_
    show Gl _ _ _ _ _ _ _ (s₁.setTop (mkF m 9 #[.val (.int p1)] [(.int (9 : Int32)), (.int p1)]))
    by_cases hc9 : p1 < (9 : Int32)
    · refine Gl.st (fun t k => XS.icmpYes X0.here hx rfl (pc0 := 9) (pc' := 22) rfl (hb hby d4_9) rfl (tlt hc9).1 (by decide) (by decide) k) ?_
      show Gl _ _ _ _ _ _ _ (s₁.setTop (mkF m 22 #[.val (.int p1)] []))
      refine Gl.st (fun t k => XS.iconst X0.here hx rfl (hb hby d4_22) k) ?_
      show Gl _ _ _ _ _ _ _ (s₁.setTop (mkF m 23 #[.val (.int p1)] [(.int (0 : Int32))]))
      exact Gl.retN X0 hx hlk Bd.returns (by simp) (hb hby d4_23) (⟨congrArg (fun z => some (Value.int z)) (show (nar .boolean (0 : Int32)) = own_isws p1 from by simp only [own_isws, if_neg hc3, if_pos hc9]), N0, e0⟩) (by decide) (by decide)
    · refine Gl.st (fun t k => XS.icmpNo X0.here hx rfl (hb hby d4_9) rfl (flt hc9).1 k) ?_
      show Gl _ _ _ _ _ _ _ (s₁.setTop (mkF m 12 #[.val (.int p1)] []))
      refine Gl.st (fun t k => XS.iloadN X0.here hx rfl (hb hby d4_12) rfl  k) ?_
      show Gl _ _ _ _ _ _ _ (s₁.setTop (mkF m 13 #[.val (.int p1)] [(.int p1)]))
      refine Gl.st (fun t k => XS.bipush X0.here hx rfl (hb hby d4_13) k) ?_
      show Gl _ _ _ _ _ _ _ (s₁.setTop (mkF m 15 #[.val (.int p1)] [(.int (13 : Int32)), (.int p1)]))
      by_cases hc15 : (13 : Int32) < p1
      · refine Gl.st (fun t k => XS.icmpYes X0.here hx rfl (pc0 := 15) (pc' := 22) rfl (hb hby d4_15) rfl (tlt hc15).2.2.1 (by decide) (by decide) k) ?_
        show Gl _ _ _ _ _ _ _ (s₁.setTop (mkF m 22 #[.val (.int p1)] []))
        refine Gl.st (fun t k => XS.iconst X0.here hx rfl (hb hby d4_22) k) ?_
        show Gl _ _ _ _ _ _ _ (s₁.setTop (mkF m 23 #[.val (.int p1)] [(.int (0 : Int32))]))
        exact Gl.retN X0 hx hlk Bd.returns (by simp) (hb hby d4_23) (⟨congrArg (fun z => some (Value.int z)) (show (nar .boolean (0 : Int32)) = own_isws p1 from by simp only [own_isws, if_neg hc3, if_neg hc9, if_pos hc15]), N0, e0⟩) (by decide) (by decide)
      · refine Gl.st (fun t k => XS.icmpNo X0.here hx rfl (hb hby d4_15) rfl (flt hc15).2.2.1 k) ?_
        show Gl _ _ _ _ _ _ _ (s₁.setTop (mkF m 18 #[.val (.int p1)] []))
        refine Gl.st (fun t k => XS.iconst X0.here hx rfl (hb hby d4_18) k) ?_
        show Gl _ _ _ _ _ _ _ (s₁.setTop (mkF m 19 #[.val (.int p1)] [(.int (1 : Int32))]))
        refine Gl.st (fun t k => XS.goto X0.here hx rfl (pc0 := 19) (pc' := 23) rfl (hb hby d4_19) (by decide) (by decide) k) ?_
        show Gl _ _ _ _ _ _ _ (s₁.setTop (mkF m 23 #[.val (.int p1)] [(.int (1 : Int32))]))
        exact Gl.retN X0 hx hlk Bd.returns (by simp) (hb hby d4_23) (⟨congrArg (fun z => some (Value.int z)) (show (nar .boolean (1 : Int32)) = own_isws p1 from by simp only [own_isws, if_neg hc3, if_neg hc9, if_neg hc15]), N0, e0⟩) (by decide) (by decide)
theorem own_getD (bs : List Int32) (n : Nat) : (bs.map Value.int).getD n (.int 0) = .int (bs.getD n 0) := by
  simp only [List.getD_eq_getElem?_getD, List.getElem?_map]
  cases bs[n]? <;> rfl
theorem own_succ {i : Int32} (h : i.toInt < 2147483647) : (i + 1).toInt = i.toInt + 1 := by
  have a := c_iadd i 1
  have b := rng32 i
  have d := rng32 (i + 1)
  have e : (1 : Int32).toInt = 1 := by decide
  omega
theorem own_nn {i : Int32} (h : 0 ≤ i.toInt) : ¬ i < 0 := by
  rw [Int32.lt_iff_toInt_lt, show (0 : Int32).toInt = 0 from by decide]; omega
theorem own_lit {i j : Int32} {n : Int} (hj : j.toInt = n) (h : i.toInt < n) : i < j := by
  rw [Int32.lt_iff_toInt_lt, hj]; exact h
def own_scanN (bs : List Int32) : Nat → Int32 → Int32
  | 0, i => i
  | k + 1, i => if own_isws (bs.getD i.toNatClampNeg 0) = 0 then i else own_scanN bs k (i + 1)
def own_start (bs : List Int32) (f t : Int32) : Int32 := own_scanN bs (t.toInt - f.toInt).toNat f
theorem d2_0 : decode prog_5_method_3_code 0 = .ok (.iload_n 1, 1) := by decide +kernel
theorem d2_1 : decode prog_5_method_3_code 1 = .ok (.istore_n 3, 1) := by decide +kernel
theorem d2_2 : decode prog_5_method_3_code 2 = .ok (.iload_n 3, 1) := by decide +kernel
theorem d2_3 : decode prog_5_method_3_code 3 = .ok (.iload_n 2, 1) := by decide +kernel
theorem d2_4 : decode prog_5_method_3_code 4 = .ok (.if_icmp .ge 18, 3) := by decide +kernel
theorem d2_7 : decode prog_5_method_3_code 7 = .ok (.aload_n 0, 1) := by decide +kernel
theorem d2_8 : decode prog_5_method_3_code 8 = .ok (.iload_n 3, 1) := by decide +kernel
theorem d2_9 : decode prog_5_method_3_code 9 = .ok (.baload, 1) := by decide +kernel
theorem d2_10 : decode prog_5_method_3_code 10 = .ok (.invokestatic 13, 3) := by decide +kernel
theorem d2_13 : decode prog_5_method_3_code 13 = .ok (.ifCond .eq 9, 3) := by decide +kernel
theorem d2_16 : decode prog_5_method_3_code 16 = .ok (.iinc 3 1, 3) := by decide +kernel
theorem d2_19 : decode prog_5_method_3_code 19 = .ok (.goto (-17), 3) := by decide +kernel
theorem d2_22 : decode prog_5_method_3_code 22 = .ok (.iload_n 3, 1) := by decide +kernel
theorem d2_23 : decode prog_5_method_3_code 23 = .ok (.ireturn, 1) := by decide +kernel
theorem pf_3 : plainFor (⟨"com/example/ilsa/ilsa/io/LineFields", "fieldStart", "([BII)I"⟩ : MethodName) = true := by decide +kernel
def Q2 (Z : State) (a1 : Addr) (p2 : Int32) (p3 : Int32) (ck : ClassId) (w0 : Int32) (w1 : Int32) (w2 : Int32) (w3 : Int32) (h0 : Heap) (n0 : Nat) (v : Option Value) (h : Heap) (L : List Loc) : Prop := v = some (.int (own_start [w0, w1, w2, w3] p2 p3)) ∧ Fr n0 L ∧ h = h0
theorem ef_2 (m : MethodId) (a1 : Addr) (p2 : Int32) (p3 : Int32) : entryFrame m #[(.ref a1), (.int p2), (.int p3)] 4 = mkF m 0 #[.val (.ref a1), .val (.int p2), .val (.int p3), .unset] [] := by first | (simp [entryFrame, mkF, argsToLocals, Value.category]; done) | rfl
theorem pd_0 : parseMethodDescriptor "(B)Z" = some ⟨[.byte], some .boolean⟩ := by decide +kernel
set_option maxRecDepth 65536 in
set_option maxHeartbeats 40000000 in
theorem rm2 (l : Launch) (Z : State) (a0 : Array Value) (hw : ∀ d ∈ tables_1, d.before a0 Z = true) (ws : List Jvm.Cond) (a1 : Addr) (p2 : Int32) (p3 : Int32) (ck : ClassId) (w0 : Int32) (w1 : Int32) (w2 : Int32) (w3 : Int32) (h0 : Heap) (n0 : Nat) (Va : Arv Z h0 a1 ck .byte (4 : Int32) [(.int w0), (.int w1), (.int w2), (.int w3)] (.int (0 : Int32))) (hb1 : 0 ≤ p2.toInt) (hb2 : p2.toInt ≤ p3.toInt) (hb3 : p3.toInt ≤ 4) :
    MetFree l (⟨"com/example/ilsa/ilsa/io/LineFields", "fieldStart", "([BII)I"⟩ : MethodName) (head1 (Jvm.Cond.code (⟨"com/example/ilsa/ilsa/io/LineFields", "fieldStart", "([BII)I"⟩ : MethodName) prog_5_method_3_code 4 (some .int) :: ws) ({ frames := 1, cells := 0, slots := 0, locals := 12 } : Room)) (fun a U => a = #[(.ref a1), (.int p2), (.int p3)] ∧ Z.Warmed39 U.vm ∧ U.heap = h0) (fun _ _ _ _ _ => True) (fun _ U o U' => ∃ v L, o = .returned v ∧ Q2 Z a1 p2 p3 ck w0 w1 w2 w3 h0 n0 v U'.heap L ∧ FrameEnd U o U' L ({ frames := 1, cells := 0, slots := 0, locals := 12 } : Room).cells ({ frames := 1, cells := 0, slots := 0, locals := 12 } : Room).slots) := by
  refine MetFree.of_bodySF pf_3 hisR ?_
  intro p e s m args below meth c s₁ Bd hml0 hP hK
  obtain ⟨rfl, hZ, hh⟩ := hP
  have hx := Bd.exec
  have hby := Bd.bytes
  have hlk : meth.locks = false := BodyLoose.notSynchronized Bd
  have hml : c.maxLocals = 4 := hml0
  have hown : s.vm.findClass "com/example/ilsa/ilsa/io/LineFields" = some m.cls := findClass_of_methodNamed Bd.named
  have hnm := (name_of_methodNamed Bd.named Bd.method).1
  have X0 : Stand p l e ({ frames := 1, cells := 0, slots := 0, locals := 12 } : Room) s m #[(.ref a1), (.int p2), (.int p3)] below meth c s₁ [] 0 0 := Stand.of_body Bd
  have e0 : s₁.heap = h0 := by rw [← hh, Bd.state]; rfl
  have N0 := Fr.nil n0
  show Gl p e below s (Q2 Z a1 p2 p3 ck w0 w1 w2 w3 h0 n0) ({ frames := 1, cells := 0, slots := 0, locals := 12 } : Room).cells ({ frames := 1, cells := 0, slots := 0, locals := 12 } : Room).slots (s₁.setTop (entryFrame m #[(.ref a1), (.int p2), (.int p3)] 4))
  rw [ef_2]
  show Gl _ _ _ _ _ _ _ (s₁.setTop (mkF m 0 #[.val (.ref a1), .val (.int p2), .val (.int p3), .unset] []))
  refine Gl.st (fun t k => XS.iloadN X0.here hx rfl (hb hby d2_0) rfl  k) ?_
  show Gl _ _ _ _ _ _ _ (s₁.setTop (mkF m 1 #[.val (.ref a1), .val (.int p2), .val (.int p3), .unset] [(.int p2)]))
  refine Gl.st (fun t k => XS.istoreN X0.here hx rfl (hb hby d2_1) rfl (l' := #[.val (.ref a1), .val (.int p2), .val (.int p3), .val (.int p2)]) rfl k) ?_
  have LP1 : ∀ (k : Nat) (Tl1 : State) (Ll1 : List Loc) (Xl1 : Stand p l e ({ frames := 1, cells := 0, slots := 0, locals := 12 } : Room) s m #[(.ref a1), (.int p2), (.int p3)] below meth c Tl1 Ll1 0 0) (el1 : Tl1.heap = h0) (Nl1 : Fr n0 Ll1) (i : Int32) (hi1 : 0 ≤ i.toInt) (hk : i.toInt + (k : Nat) = p3.toInt) (hR : own_scanN [w0, w1, w2, w3] k i = own_start [w0, w1, w2, w3] p2 p3), Gl p e below s (Q2 Z a1 p2 p3 ck w0 w1 w2 w3 h0 n0) ({ frames := 1, cells := 0, slots := 0, locals := 12 } : Room).cells ({ frames := 1, cells := 0, slots := 0, locals := 12 } : Room).slots (Tl1.setTop (mkF m 2 #[.val (.ref a1), .val (.int p2), .val (.int p3), .val (.int i)] [])) := by
    intro k
    induction k with
    | zero =>
      intro Tl1 Ll1 Xl1 el1 Nl1 i hi1 hk hR
      show Gl _ _ _ _ _ _ _ (Tl1.setTop (mkF m 2 #[.val (.ref a1), .val (.int p2), .val (.int p3), .val (.int i)] []))
      refine Gl.st (fun t k => XS.iloadN Xl1.here hx rfl (hb hby d2_2) rfl  k) ?_
      show Gl _ _ _ _ _ _ _ (Tl1.setTop (mkF m 3 #[.val (.ref a1), .val (.int p2), .val (.int p3), .val (.int i)] [(.int i)]))
      refine Gl.st (fun t k => XS.iloadN Xl1.here hx rfl (hb hby d2_3) rfl  k) ?_
      show Gl _ _ _ _ _ _ _ (Tl1.setTop (mkF m 4 #[.val (.ref a1), .val (.int p2), .val (.int p3), .val (.int i)] [(.int p3), (.int i)]))
      have hc4_2 : ¬ (i < p3) := by rw [Int32.lt_iff_toInt_lt]; omega
      refine Gl.st (fun t k => XS.icmpYes Xl1.here hx rfl (pc0 := 4) (pc' := 22) rfl (hb hby d2_4) rfl (flt hc4_2).2.1 (by decide) (by decide) k) ?_
      show Gl _ _ _ _ _ _ _ (Tl1.setTop (mkF m 22 #[.val (.ref a1), .val (.int p2), .val (.int p3), .val (.int i)] []))
      refine Gl.st (fun t k => XS.iloadN Xl1.here hx rfl (hb hby d2_22) rfl  k) ?_
      show Gl _ _ _ _ _ _ _ (Tl1.setTop (mkF m 23 #[.val (.ref a1), .val (.int p2), .val (.int p3), .val (.int i)] [(.int i)]))
      exact Gl.retI Xl1 hx hlk Bd.returns (hb hby d2_23) (⟨congrArg (fun z => some (Value.int z)) (show i = own_start [w0, w1, w2, w3] p2 p3 from hR), Nl1, el1⟩) (by decide) (by decide)
    | succ k ih =>
      intro Tl1 Ll1 Xl1 el1 Nl1 i hi1 hk hR
      show Gl _ _ _ _ _ _ _ (Tl1.setTop (mkF m 2 #[.val (.ref a1), .val (.int p2), .val (.int p3), .val (.int i)] []))
      refine Gl.st (fun t k => XS.iloadN Xl1.here hx rfl (hb hby d2_2) rfl  k) ?_
      show Gl _ _ _ _ _ _ _ (Tl1.setTop (mkF m 3 #[.val (.ref a1), .val (.int p2), .val (.int p3), .val (.int i)] [(.int i)]))
      refine Gl.st (fun t k => XS.iloadN Xl1.here hx rfl (hb hby d2_3) rfl  k) ?_
      show Gl _ _ _ _ _ _ _ (Tl1.setTop (mkF m 4 #[.val (.ref a1), .val (.int p2), .val (.int p3), .val (.int i)] [(.int p3), (.int i)]))
      have hc4_3 : i < p3 := by rw [Int32.lt_iff_toInt_lt]; omega
      refine Gl.st (fun t k => XS.icmpNo Xl1.here hx rfl (hb hby d2_4) rfl (tlt hc4_3).2.1 k) ?_
      show Gl _ _ _ _ _ _ _ (Tl1.setTop (mkF m 7 #[.val (.ref a1), .val (.int p2), .val (.int p3), .val (.int i)] []))
      refine Gl.st (fun t k => XS.aloadN Xl1.here hx rfl (hb hby d2_7) rfl rfl k) ?_
      show Gl _ _ _ _ _ _ _ (Tl1.setTop (mkF m 8 #[.val (.ref a1), .val (.int p2), .val (.int p3), .val (.int i)] [(.ref a1)]))
      refine Gl.st (fun t k => XS.iloadN Xl1.here hx rfl (hb hby d2_8) rfl  k) ?_
      show Gl _ _ _ _ _ _ _ (Tl1.setTop (mkF m 9 #[.val (.ref a1), .val (.int p2), .val (.int p3), .val (.int i)] [(.int i), (.ref a1)]))
      have Vx4 := Va
      obtain ⟨cl4, Ar4, qk4, S4, M4, H4, G4⟩ := Vx4
      have hin4 : ¬ (i < 0 ∨ cl4.slots.size ≤ (i).toNatClampNeg) := inb_of S4 ⟨own_nn hi1, own_lit (n := 4) (by decide) (by omega)⟩
      have hat4 : cl4.slots[(i).toNatClampNeg]? = some (.int ([w0, w1, w2, w3].getD i.toNatClampNeg 0)) := H4.at hin4 (own_getD [w0, w1, w2, w3] _)
      refine Gl.st (Xl1.baloadBytes hx (j := i) (v := (.int ([w0, w1, w2, w3].getD i.toNatClampNeg 0))) (by rw [el1]; exact Ar4.1) (State.isArrayOf_alike hZ.alike Ar4.2.1) Ar4.2.2 hin4 hat4 (g := (mkF m 9 #[.val (.ref a1), .val (.int p2), .val (.int p3), .val (.int i)] [(.int i), (.ref a1)])) rfl rfl (hb hby d2_9)) ?_
      show Gl _ _ _ _ _ _ _ (Tl1.setTop (mkF m 10 #[.val (.ref a1), .val (.int p2), .val (.int p3), .val (.int i)] [(.int ([w0, w1, w2, w3].getD i.toNatClampNeg 0))]))
      obtain ⟨_, _, ⟨T5, L5, k5, n5⟩, -, X5, ⟨Lc5, hQ5, l5, y5, z5⟩, st5⟩ := Jvm.LawKit.callS Xl1 hx (y := (⟨"com/example/ilsa/ilsa/io/LineFields", "isWhitespace", "(B)Z"⟩ : MethodName)) hown (mvT hZ (hw _ (List.mem_of_getElem? (i := 13) rfl))) (mvT hZ (hw _ (List.mem_of_getElem? (i := 14) rfl))) (mvT hZ (hw _ (List.mem_of_getElem? (i := 8) rfl))) (mvT hZ (hw _ (List.mem_of_getElem? (i := 15) rfl))) (by decide) (backOf (W := 0) (rm4 l Z a0 hw [] ([w0, w1, w2, w3].getD i.toNatClampNeg 0) h0 n0) hZ (hw _ (List.mem_of_getElem? (i := 15) rfl)) (hw _ (List.mem_of_getElem? (i := 8) rfl)) (by decide) (by decide)) (g := (mkF m 10 #[.val (.ref a1), .val (.int p2), .val (.int p3), .val (.int i)] [(.int ([w0, w1, w2, w3].getD i.toNatClampNeg 0))])) rfl (by rw [hml]; rfl) (argsL := [(.int ([w0, w1, w2, w3].getD i.toNatClampNeg 0))]) (rest := []) (lenOf pd_0 rfl) rfl (by show 2 * 0 + _ ≤ _; exact Nat.le_of_eq rfl) (hb hby d2_10) (fun _ _ => ⟨rfl, el1, (by decide : 0 + 0 ≤ _), (by decide : 0 + 0 ≤ _)⟩)
      dsimp only [Pt.U, Pt.locs, Pt.cells, Pt.slots] at X5 l5 y5 z5 st5 hQ5
      subst l5 y5 z5
      obtain ⟨rfl, N5q, e5⟩ := hQ5
      have N5 := Fr.app Nl1 N5q
      refine Gl.st st5 ?_
      show Gl _ _ _ _ _ _ _ (T5.setTop (mkF m 13 #[.val (.ref a1), .val (.int p2), .val (.int p3), .val (.int i)] [(.int (own_isws ([w0, w1, w2, w3].getD i.toNatClampNeg 0)))]))
      by_cases hc13 : (own_isws ([w0, w1, w2, w3].getD i.toNatClampNeg 0)) = (0 : Int32)
      · refine Gl.st (fun t k => XS.ifYes X5.here hx rfl (pc0 := 13) (pc' := 22) rfl (hb hby d2_13) rfl ((if0 _ _).trans (teq hc13).1) (by decide) (by decide) k) ?_
        show Gl _ _ _ _ _ _ _ (T5.setTop (mkF m 22 #[.val (.ref a1), .val (.int p2), .val (.int p3), .val (.int i)] []))
        refine Gl.st (fun t k => XS.iloadN X5.here hx rfl (hb hby d2_22) rfl  k) ?_
        show Gl _ _ _ _ _ _ _ (T5.setTop (mkF m 23 #[.val (.ref a1), .val (.int p2), .val (.int p3), .val (.int i)] [(.int i)]))
        exact Gl.retI X5 hx hlk Bd.returns (hb hby d2_23) (⟨congrArg (fun z => some (Value.int z)) (show i = own_start [w0, w1, w2, w3] p2 p3 from by rw [← hR]; simp only [own_scanN, if_pos hc13]), N5, e5⟩) (by decide) (by decide)
      · refine Gl.st (fun t k => XS.ifNo X5.here hx rfl (hb hby d2_13) rfl ((if0 _ _).trans (feq hc13).1) k) ?_
        show Gl _ _ _ _ _ _ _ (T5.setTop (mkF m 16 #[.val (.ref a1), .val (.int p2), .val (.int p3), .val (.int i)] []))
        refine Gl.st (fun t k => XS.iinc X5.here hx rfl (hb hby d2_16) rfl (l' := #[.val (.ref a1), .val (.int p2), .val (.int p3), .val (.int (i + (1 : Int32)))]) rfl k) ?_
        show Gl _ _ _ _ _ _ _ (T5.setTop (mkF m 19 #[.val (.ref a1), .val (.int p2), .val (.int p3), .val (.int (i + (1 : Int32)))] []))
        refine Gl.st (fun t k => XS.goto X5.here hx rfl (pc0 := 19) (pc' := 2) rfl (hb hby d2_19) (by decide) (by decide) k) ?_
        show Gl _ _ _ _ _ _ _ (T5.setTop (mkF m 2 #[.val (.ref a1), .val (.int p2), .val (.int p3), .val (.int (i + (1 : Int32)))] []))
        exact ih _ _ X5 e5 N5 _ (by rw [own_succ (by omega)]; omega) (by rw [own_succ (by omega)]; omega) (by rw [← hR]; simp only [own_scanN, if_neg hc13])
  exact LP1 ((p3.toInt - p2.toInt).toNat) _ _ X0 e0 N0 _ (hb1) (by omega) (rfl)
theorem own_isws_ws (b : Int32) : own_isws b = own_ws b := by
  have e9 : (9 : Int32).toInt = 9 := by decide
  have e10 : (10 : Int32).toInt = 10 := by decide
  have e11 : (11 : Int32).toInt = 11 := by decide
  have e12 : (12 : Int32).toInt = 12 := by decide
  have e13 : (13 : Int32).toInt = 13 := by decide
  have e32 : (32 : Int32).toInt = 32 := by decide
  unfold own_isws own_ws
  simp only [Int32.lt_iff_toInt_lt, ← Int32.toInt_inj, e9, e10, e11, e12, e13, e32]
  generalize b.toInt = n
  repeat' split
  all_goals first | rfl | (exfalso; omega)
theorem own_digit {f : Int32} (h0 : 0 ≤ f.toInt) (h4 : f.toInt ≤ 4) : f = 0 ∨ f = 1 ∨ f = 2 ∨ f = 3 ∨ f = 4 := by
  have e0 : (0 : Int32).toInt = 0 := by decide
  have e1 : (1 : Int32).toInt = 1 := by decide
  have e2 : (2 : Int32).toInt = 2 := by decide
  have e3 : (3 : Int32).toInt = 3 := by decide
  have e4 : (4 : Int32).toInt = 4 := by decide
  simp only [← Int32.toInt_inj, e0, e1, e2, e3, e4]
  omega
theorem own_from (r : Int32) : 0 ≤ ((r &&& (2147483647 : Int32)) % (5 : Int32)).toInt ∧ ((r &&& (2147483647 : Int32)) % (5 : Int32)).toInt ≤ 4 := by
  have a := c_and r 2147483647 (by decide)
  have b := (c_irem (r &&& 2147483647) 5 5 (by decide)).1
  omega
theorem own_five {f : Int32} (h0 : 0 ≤ f.toInt) (h4 : f.toInt ≤ 4) : ((5 : Int32) - f).toInt = 5 - f.toInt := by
  have a := c_isub 5 f
  have b := rng32 (5 - f)
  have e5 : (5 : Int32).toInt = 5 := by decide
  omega
theorem own_to (r f : Int32) (h0 : 0 ≤ f.toInt) (h4 : f.toInt ≤ 4) : f.toInt ≤ (f + (((r.toUInt32 >>> ((8 : Int32) &&& 31).toUInt32).toInt32) % ((5 : Int32) - f))).toInt ∧ (f + (((r.toUInt32 >>> ((8 : Int32) &&& 31).toUInt32).toInt32) % ((5 : Int32) - f))).toInt ≤ 4 := by
  have a := c_iushr r 8 8 (by decide) (by decide)
  have b := rng32 r
  have d := own_five h0 h4
  generalize ((r.toUInt32 >>> ((8 : Int32) &&& 31).toUInt32).toInt32) = u at *
  generalize (5 : Int32) - f = v at *
  have e := (c_iremV u v).1 (by omega) (by omega)
  have g := c_iadd f (u % v)
  have i := rng32 (f + u % v)
  omega
theorem own_nz {f : Int32} (h0 : 0 ≤ f.toInt) (h4 : f.toInt ≤ 4) : (5 : Int32) - f ≠ 0 := by
  intro h
  have a := own_five h0 h4
  rw [h, show (0 : Int32).toInt = 0 from by decide] at a
  omega
theorem own_final (b0 b1 b2 b3 f t z1 z2 z3 z4 : Int32) (h0 : 0 ≤ f.toInt) (h1 : f.toInt ≤ t.toInt) (h2 : t.toInt ≤ 4)
    (q1 : z1 = (if (3 : Int32) < f then t else (if (3 : Int32) < t then (if own_ws b3 = (0 : Int32) then (3 : Int32) else t) else t)))
    (q2 : z2 = (if (2 : Int32) < f then z1 else (if (2 : Int32) < t then (if own_ws b2 = (0 : Int32) then (2 : Int32) else z1) else z1)))
    (q3 : z3 = (if (1 : Int32) < f then z2 else (if (1 : Int32) < t then (if own_ws b1 = (0 : Int32) then (1 : Int32) else z2) else z2)))
    (q4 : z4 = (if (0 : Int32) < f then z3 else (if (0 : Int32) < t then (if own_ws b0 = (0 : Int32) then (0 : Int32) else z3) else z3))) :
    own_start [b0, b1, b2, b3] f t = z4 := by
  subst q4 q3 q2 q1
  rcases own_digit h0 (by omega) with rfl | rfl | rfl | rfl | rfl <;> rcases own_digit (f := t) (by omega) h2 with rfl | rfl | rfl | rfl | rfl <;>
    first | (exfalso; revert h1; decide) | (by_cases k0 : own_ws b0 = 0 <;> by_cases k1 : own_ws b1 = 0 <;> by_cases k2 : own_ws b2 = 0 <;> by_cases k3 : own_ws b3 = 0 <;> simp [own_start, own_scanN, own_isws_ws, k0, k1, k2, k3])
theorem pf_4 : plainFor (⟨"com/example/ilsa/ilsa/io/LineFieldsFieldStartPinLaw", "law", "(IIIII)Z"⟩ : MethodName) = true := by decide +kernel
def Q0 (Z : State) (p1 : Int32) (p2 : Int32) (p3 : Int32) (p4 : Int32) (p5 : Int32) (h0 : Heap) (n0 : Nat) (v : Option Value) (h : Heap) (L : List Loc) : Prop := v = some (.int 1) ∧ Fr n0 L
theorem ef_0 (m : MethodId) (p1 : Int32) (p2 : Int32) (p3 : Int32) (p4 : Int32) (p5 : Int32) : entryFrame m #[(.int p1), (.int p2), (.int p3), (.int p4), (.int p5)] maxLocals = mkF m 0 #[.val (.int p1), .val (.int p2), .val (.int p3), .val (.int p4), .val (.int p5), .unset, .unset, .unset, .unset, .unset] [] := by first | (simp [entryFrame, mkF, argsToLocals, Value.category, maxLocals]; done) | rfl
theorem pd_1 : parseMethodDescriptor "(I)B" = some ⟨[.int], some .byte⟩ := by decide +kernel
theorem pd_2 : parseMethodDescriptor "([BII)I" = some ⟨[(.array .byte), .int, .int], some .int⟩ := by decide +kernel
set_option maxRecDepth 65536 in
set_option maxHeartbeats 40000000 in
theorem rm0 (l : Launch) (Z : State) (a0 : Array Value) (hw : ∀ d ∈ tables_1, d.before a0 Z = true) (ws : List Jvm.Cond) (p1 : Int32) (p2 : Int32) (p3 : Int32) (p4 : Int32) (p5 : Int32) (h0 : Heap) (n0 : Nat) (Z0 : n0 ≤ h0.size) :
    MetFree l x (head1 (Jvm.Cond.code x code maxLocals ret :: ws) room_1) (fun a U => a = #[(.int p1), (.int p2), (.int p3), (.int p4), (.int p5)] ∧ Z.Warmed39 U.vm ∧ U.heap = h0) (fun _ _ _ _ _ => True) (fun _ U o U' => ∃ v L, o = .returned v ∧ Q0 Z p1 p2 p3 p4 p5 h0 n0 v U'.heap L ∧ FrameEnd U o U' L room_1.cells room_1.slots) := by
  refine MetFree.of_bodySF pf_4 hisR ?_
  intro p e s m args below meth c s₁ Bd hml0 hP hK
  obtain ⟨rfl, hZ, hh⟩ := hP
  have hx := Bd.exec
  have hby := Bd.bytes
  have hlk : meth.locks = false := BodyLoose.notSynchronized Bd
  have hml : c.maxLocals = 10 := hml0
  have hown : s.vm.findClass "com/example/ilsa/ilsa/io/LineFieldsFieldStartPinLaw" = some m.cls := findClass_of_methodNamed Bd.named
  have hnm := (name_of_methodNamed Bd.named Bd.method).1
  have X0 : Stand p l e room_1 s m #[(.int p1), (.int p2), (.int p3), (.int p4), (.int p5)] below meth c s₁ [] 0 0 := Stand.of_body Bd
  have e0 : s₁.heap = h0 := by rw [← hh, Bd.state]; rfl
  have N0 := Fr.nil n0
  show Gl p e below s (Q0 Z p1 p2 p3 p4 p5 h0 n0) room_1.cells room_1.slots (s₁.setTop (entryFrame m #[(.int p1), (.int p2), (.int p3), (.int p4), (.int p5)] maxLocals))
  rw [ef_0]
  show Gl _ _ _ _ _ _ _ (s₁.setTop (mkF m 0 #[.val (.int p1), .val (.int p2), .val (.int p3), .val (.int p4), .val (.int p5), .unset, .unset, .unset, .unset, .unset] []))
  refine Gl.st (fun t k => XS.iconst X0.here hx rfl (hb hby at_0) k) ?_
  show Gl _ _ _ _ _ _ _ (s₁.setTop (mkF m 1 #[.val (.int p1), .val (.int p2), .val (.int p3), .val (.int p4), .val (.int p5), .unset, .unset, .unset, .unset, .unset] [(.int (4 : Int32))]))
  obtain ⟨T1, h1, k1, X1, e1, E1, A1, st1⟩ := newP X0 hx hZ (hw _ (List.mem_of_getElem? (i := 0) rfl)) e0 (g := (mkF m 1 #[.val (.int p1), .val (.int p2), .val (.int p3), .val (.int p4), .val (.int p5), .unset, .unset, .unset, .unset, .unset] [(.int (4 : Int32))])) rfl (hb hby at_1) rfl (by decide) (cap := 4) (by decide) (by decide) (by decide) (by decide)
  obtain ⟨b1, g1⟩ : ∃ z, z = h0.size := ⟨_, rfl⟩
  rw [← g1] at A1 st1
  refine Gl.st st1 ?_
  have gzb1 : n0 ≤ b1 := Nat.le_trans Z0 (Nat.le_of_eq g1.symm)
  have Z1 : n0 ≤ h1.size := Nat.le_trans Z0 E1.1
  have V1 : Arv Z h1 b1 k1 .byte (4 : Int32) [(.int (0 : Int32)), (.int (0 : Int32)), (.int (0 : Int32)), (.int (0 : Int32))] (.int (0 : Int32)) := (Arv.new A1 (by decide)).pad (pad_rep [] (.int (0 : Int32)) 4)
  show Gl _ _ _ _ _ _ _ (T1.setTop (mkF m 3 #[.val (.int p1), .val (.int p2), .val (.int p3), .val (.int p4), .val (.int p5), .unset, .unset, .unset, .unset, .unset] [(.ref b1)]))
  refine Gl.st (fun t k => XS.dup X1.here hx rfl (hb hby at_3) rfl rfl k) ?_
  show Gl _ _ _ _ _ _ _ (T1.setTop (mkF m 4 #[.val (.int p1), .val (.int p2), .val (.int p3), .val (.int p4), .val (.int p5), .unset, .unset, .unset, .unset, .unset] [(.ref b1), (.ref b1)]))
  refine Gl.st (fun t k => XS.iconst X1.here hx rfl (hb hby at_4) k) ?_
  show Gl _ _ _ _ _ _ _ (T1.setTop (mkF m 5 #[.val (.int p1), .val (.int p2), .val (.int p3), .val (.int p4), .val (.int p5), .unset, .unset, .unset, .unset, .unset] [(.int (0 : Int32)), (.ref b1), (.ref b1)]))
  refine Gl.st (fun t k => XS.iloadN X1.here hx rfl (hb hby at_5) rfl  k) ?_
  show Gl _ _ _ _ _ _ _ (T1.setTop (mkF m 6 #[.val (.int p1), .val (.int p2), .val (.int p3), .val (.int p4), .val (.int p5), .unset, .unset, .unset, .unset, .unset] [(.int p1), (.int (0 : Int32)), (.ref b1), (.ref b1)]))
  obtain ⟨_, _, ⟨T2, L2, k2, n2⟩, -, X2, ⟨Lc2, hQ2, l2, y2, z2⟩, st2⟩ := Jvm.LawKit.callS X1 hx (y := (⟨"com/example/ilsa/ilsa/io/LineFieldsFieldStartPinLaw", "draw", "(I)B"⟩ : MethodName)) hown (mvT hZ (hw _ (List.mem_of_getElem? (i := 1) rfl))) (mvT hZ (hw _ (List.mem_of_getElem? (i := 2) rfl))) (mvT hZ (hw _ (List.mem_of_getElem? (i := 3) rfl))) (mvT hZ (hw _ (List.mem_of_getElem? (i := 4) rfl))) (by decide) (backOf (W := 3) (rm1 l Z a0 hw [] p1 h1 n0) hZ (hw _ (List.mem_of_getElem? (i := 4) rfl)) (hw _ (List.mem_of_getElem? (i := 3) rfl)) (by decide) (by decide)) (g := (mkF m 6 #[.val (.int p1), .val (.int p2), .val (.int p3), .val (.int p4), .val (.int p5), .unset, .unset, .unset, .unset, .unset] [(.int p1), (.int (0 : Int32)), (.ref b1), (.ref b1)])) rfl (by rw [hml]; rfl) (argsL := [(.int p1)]) (rest := [(.int (0 : Int32)), (.ref b1), (.ref b1)]) (lenOf pd_1 rfl) rfl (by show 2 * 0 + _ ≤ _; exact Nat.le_of_eq rfl) (hb hby at_6) (fun _ _ => ⟨rfl, e1, (by decide : 1 + 0 ≤ _), (by decide : 4 + 0 ≤ _)⟩)
  dsimp only [Pt.U, Pt.locs, Pt.cells, Pt.slots] at X2 l2 y2 z2 st2 hQ2
  subst l2 y2 z2
  obtain ⟨rfl, N2q, e2⟩ := hQ2
  have N2 := Fr.app N0 N2q
  refine Gl.st st2 ?_
  show Gl _ _ _ _ _ _ _ (T2.setTop (mkF m 9 #[.val (.int p1), .val (.int p2), .val (.int p3), .val (.int p4), .val (.int p5), .unset, .unset, .unset, .unset, .unset] [(.int (own_draw p1)), (.int (0 : Int32)), (.ref b1), (.ref b1)]))
  have Vx3 := V1
  obtain ⟨cl3, Ar3, qk3, S3, M3, H3, G3⟩ := Vx3
  have hin3 : ¬ ((0 : Int32) < 0 ∨ cl3.slots.size ≤ ((0 : Int32)).toNatClampNeg) := inb_of S3 ⟨by decide, by decide⟩
  obtain ⟨T3, h3, X3, e3, W3, st3⟩ := stB X2 hx hZ e2 Ar3 (j := (0 : Int32)) hin3 (g := (mkF m 9 #[.val (.int p1), .val (.int p2), .val (.int p3), .val (.int p4), .val (.int p5), .unset, .unset, .unset, .unset, .unset] [(.int (own_draw p1)), (.int (0 : Int32)), (.ref b1), (.ref b1)])) rfl rfl (hb hby at_9)
  refine Gl.st st3 ?_
  have Z3 : n0 ≤ h3.size := Nat.le_trans Z1 (Keep.of_wr W3).1
  have N3 := Fr.snoc X3 N2 gzb1
  have V3 : Arv Z h3 b1 k1 .byte (4 : Int32) [(.int (nar .byte (own_draw p1))), (.int (0 : Int32)), (.int (0 : Int32)), (.int (0 : Int32))] (.int (0 : Int32)) := Arv.set Ar3 qk3 S3 M3 H3 G3 (fits_nar_byte _) W3 0 rfl (Nat.le_of_ble_eq_true rfl)
  show Gl _ _ _ _ _ _ _ (T3.setTop (mkF m 10 #[.val (.int p1), .val (.int p2), .val (.int p3), .val (.int p4), .val (.int p5), .unset, .unset, .unset, .unset, .unset] [(.ref b1)]))
  refine Gl.st (fun t k => XS.dup X3.here hx rfl (hb hby at_10) rfl rfl k) ?_
  show Gl _ _ _ _ _ _ _ (T3.setTop (mkF m 11 #[.val (.int p1), .val (.int p2), .val (.int p3), .val (.int p4), .val (.int p5), .unset, .unset, .unset, .unset, .unset] [(.ref b1), (.ref b1)]))
  refine Gl.st (fun t k => XS.iconst X3.here hx rfl (hb hby at_11) k) ?_
  show Gl _ _ _ _ _ _ _ (T3.setTop (mkF m 12 #[.val (.int p1), .val (.int p2), .val (.int p3), .val (.int p4), .val (.int p5), .unset, .unset, .unset, .unset, .unset] [(.int (1 : Int32)), (.ref b1), (.ref b1)]))
  refine Gl.st (fun t k => XS.iloadN X3.here hx rfl (hb hby at_12) rfl  k) ?_
  show Gl _ _ _ _ _ _ _ (T3.setTop (mkF m 13 #[.val (.int p1), .val (.int p2), .val (.int p3), .val (.int p4), .val (.int p5), .unset, .unset, .unset, .unset, .unset] [(.int p2), (.int (1 : Int32)), (.ref b1), (.ref b1)]))
  obtain ⟨_, _, ⟨T4, L4, k4, n4⟩, -, X4, ⟨Lc4, hQ4, l4, y4, z4⟩, st4⟩ := Jvm.LawKit.callS X3 hx (y := (⟨"com/example/ilsa/ilsa/io/LineFieldsFieldStartPinLaw", "draw", "(I)B"⟩ : MethodName)) hown (mvT hZ (hw _ (List.mem_of_getElem? (i := 1) rfl))) (mvT hZ (hw _ (List.mem_of_getElem? (i := 2) rfl))) (mvT hZ (hw _ (List.mem_of_getElem? (i := 3) rfl))) (mvT hZ (hw _ (List.mem_of_getElem? (i := 4) rfl))) (by decide) (backOf (W := 3) (rm1 l Z a0 hw [] p2 h3 n0) hZ (hw _ (List.mem_of_getElem? (i := 4) rfl)) (hw _ (List.mem_of_getElem? (i := 3) rfl)) (by decide) (by decide)) (g := (mkF m 13 #[.val (.int p1), .val (.int p2), .val (.int p3), .val (.int p4), .val (.int p5), .unset, .unset, .unset, .unset, .unset] [(.int p2), (.int (1 : Int32)), (.ref b1), (.ref b1)])) rfl (by rw [hml]; rfl) (argsL := [(.int p2)]) (rest := [(.int (1 : Int32)), (.ref b1), (.ref b1)]) (lenOf pd_1 rfl) rfl (by show 2 * 0 + _ ≤ _; exact Nat.le_of_eq rfl) (hb hby at_13) (fun _ _ => ⟨rfl, e3, (by decide : 1 + 0 ≤ _), (by decide : 4 + 0 ≤ _)⟩)
  dsimp only [Pt.U, Pt.locs, Pt.cells, Pt.slots] at X4 l4 y4 z4 st4 hQ4
  subst l4 y4 z4
  obtain ⟨rfl, N4q, e4⟩ := hQ4
  have N4 := Fr.app N3 N4q
  refine Gl.st st4 ?_
  show Gl _ _ _ _ _ _ _ (T4.setTop (mkF m 16 #[.val (.int p1), .val (.int p2), .val (.int p3), .val (.int p4), .val (.int p5), .unset, .unset, .unset, .unset, .unset] [(.int (own_draw p2)), (.int (1 : Int32)), (.ref b1), (.ref b1)]))
  have Vx5 := V3
  obtain ⟨cl5, Ar5, qk5, S5, M5, H5, G5⟩ := Vx5
  have hin5 : ¬ ((1 : Int32) < 0 ∨ cl5.slots.size ≤ ((1 : Int32)).toNatClampNeg) := inb_of S5 ⟨by decide, by decide⟩
  obtain ⟨T5, h5, X5, e5, W5, st5⟩ := stB X4 hx hZ e4 Ar5 (j := (1 : Int32)) hin5 (g := (mkF m 16 #[.val (.int p1), .val (.int p2), .val (.int p3), .val (.int p4), .val (.int p5), .unset, .unset, .unset, .unset, .unset] [(.int (own_draw p2)), (.int (1 : Int32)), (.ref b1), (.ref b1)])) rfl rfl (hb hby at_16)
  refine Gl.st st5 ?_
  have Z5 : n0 ≤ h5.size := Nat.le_trans Z3 (Keep.of_wr W5).1
  have N5 := Fr.snoc X5 N4 gzb1
  have V5 : Arv Z h5 b1 k1 .byte (4 : Int32) [(.int (nar .byte (own_draw p1))), (.int (nar .byte (own_draw p2))), (.int (0 : Int32)), (.int (0 : Int32))] (.int (0 : Int32)) := Arv.set Ar5 qk5 S5 M5 H5 G5 (fits_nar_byte _) W5 1 rfl (Nat.le_of_ble_eq_true rfl)
  show Gl _ _ _ _ _ _ _ (T5.setTop (mkF m 17 #[.val (.int p1), .val (.int p2), .val (.int p3), .val (.int p4), .val (.int p5), .unset, .unset, .unset, .unset, .unset] [(.ref b1)]))
  refine Gl.st (fun t k => XS.dup X5.here hx rfl (hb hby at_17) rfl rfl k) ?_
  show Gl _ _ _ _ _ _ _ (T5.setTop (mkF m 18 #[.val (.int p1), .val (.int p2), .val (.int p3), .val (.int p4), .val (.int p5), .unset, .unset, .unset, .unset, .unset] [(.ref b1), (.ref b1)]))
  refine Gl.st (fun t k => XS.iconst X5.here hx rfl (hb hby at_18) k) ?_
  show Gl _ _ _ _ _ _ _ (T5.setTop (mkF m 19 #[.val (.int p1), .val (.int p2), .val (.int p3), .val (.int p4), .val (.int p5), .unset, .unset, .unset, .unset, .unset] [(.int (2 : Int32)), (.ref b1), (.ref b1)]))
  refine Gl.st (fun t k => XS.iloadN X5.here hx rfl (hb hby at_19) rfl  k) ?_
  show Gl _ _ _ _ _ _ _ (T5.setTop (mkF m 20 #[.val (.int p1), .val (.int p2), .val (.int p3), .val (.int p4), .val (.int p5), .unset, .unset, .unset, .unset, .unset] [(.int p3), (.int (2 : Int32)), (.ref b1), (.ref b1)]))
  obtain ⟨_, _, ⟨T6, L6, k6, n6⟩, -, X6, ⟨Lc6, hQ6, l6, y6, z6⟩, st6⟩ := Jvm.LawKit.callS X5 hx (y := (⟨"com/example/ilsa/ilsa/io/LineFieldsFieldStartPinLaw", "draw", "(I)B"⟩ : MethodName)) hown (mvT hZ (hw _ (List.mem_of_getElem? (i := 1) rfl))) (mvT hZ (hw _ (List.mem_of_getElem? (i := 2) rfl))) (mvT hZ (hw _ (List.mem_of_getElem? (i := 3) rfl))) (mvT hZ (hw _ (List.mem_of_getElem? (i := 4) rfl))) (by decide) (backOf (W := 3) (rm1 l Z a0 hw [] p3 h5 n0) hZ (hw _ (List.mem_of_getElem? (i := 4) rfl)) (hw _ (List.mem_of_getElem? (i := 3) rfl)) (by decide) (by decide)) (g := (mkF m 20 #[.val (.int p1), .val (.int p2), .val (.int p3), .val (.int p4), .val (.int p5), .unset, .unset, .unset, .unset, .unset] [(.int p3), (.int (2 : Int32)), (.ref b1), (.ref b1)])) rfl (by rw [hml]; rfl) (argsL := [(.int p3)]) (rest := [(.int (2 : Int32)), (.ref b1), (.ref b1)]) (lenOf pd_1 rfl) rfl (by show 2 * 0 + _ ≤ _; exact Nat.le_of_eq rfl) (hb hby at_20) (fun _ _ => ⟨rfl, e5, (by decide : 1 + 0 ≤ _), (by decide : 4 + 0 ≤ _)⟩)
  dsimp only [Pt.U, Pt.locs, Pt.cells, Pt.slots] at X6 l6 y6 z6 st6 hQ6
  subst l6 y6 z6
  obtain ⟨rfl, N6q, e6⟩ := hQ6
  have N6 := Fr.app N5 N6q
  refine Gl.st st6 ?_
  show Gl _ _ _ _ _ _ _ (T6.setTop (mkF m 23 #[.val (.int p1), .val (.int p2), .val (.int p3), .val (.int p4), .val (.int p5), .unset, .unset, .unset, .unset, .unset] [(.int (own_draw p3)), (.int (2 : Int32)), (.ref b1), (.ref b1)]))
  have Vx7 := V5
  obtain ⟨cl7, Ar7, qk7, S7, M7, H7, G7⟩ := Vx7
  have hin7 : ¬ ((2 : Int32) < 0 ∨ cl7.slots.size ≤ ((2 : Int32)).toNatClampNeg) := inb_of S7 ⟨by decide, by decide⟩
  obtain ⟨T7, h7, X7, e7, W7, st7⟩ := stB X6 hx hZ e6 Ar7 (j := (2 : Int32)) hin7 (g := (mkF m 23 #[.val (.int p1), .val (.int p2), .val (.int p3), .val (.int p4), .val (.int p5), .unset, .unset, .unset, .unset, .unset] [(.int (own_draw p3)), (.int (2 : Int32)), (.ref b1), (.ref b1)])) rfl rfl (hb hby at_23)
  refine Gl.st st7 ?_
  have Z7 : n0 ≤ h7.size := Nat.le_trans Z5 (Keep.of_wr W7).1
  have N7 := Fr.snoc X7 N6 gzb1
  have V7 : Arv Z h7 b1 k1 .byte (4 : Int32) [(.int (nar .byte (own_draw p1))), (.int (nar .byte (own_draw p2))), (.int (nar .byte (own_draw p3))), (.int (0 : Int32))] (.int (0 : Int32)) := Arv.set Ar7 qk7 S7 M7 H7 G7 (fits_nar_byte _) W7 2 rfl (Nat.le_of_ble_eq_true rfl)
  show Gl _ _ _ _ _ _ _ (T7.setTop (mkF m 24 #[.val (.int p1), .val (.int p2), .val (.int p3), .val (.int p4), .val (.int p5), .unset, .unset, .unset, .unset, .unset] [(.ref b1)]))
  refine Gl.st (fun t k => XS.dup X7.here hx rfl (hb hby at_24) rfl rfl k) ?_
  show Gl _ _ _ _ _ _ _ (T7.setTop (mkF m 25 #[.val (.int p1), .val (.int p2), .val (.int p3), .val (.int p4), .val (.int p5), .unset, .unset, .unset, .unset, .unset] [(.ref b1), (.ref b1)]))
  refine Gl.st (fun t k => XS.iconst X7.here hx rfl (hb hby at_25) k) ?_
  show Gl _ _ _ _ _ _ _ (T7.setTop (mkF m 26 #[.val (.int p1), .val (.int p2), .val (.int p3), .val (.int p4), .val (.int p5), .unset, .unset, .unset, .unset, .unset] [(.int (3 : Int32)), (.ref b1), (.ref b1)]))
  refine Gl.st (fun t k => XS.iloadN X7.here hx rfl (hb hby at_26) rfl  k) ?_
  show Gl _ _ _ _ _ _ _ (T7.setTop (mkF m 27 #[.val (.int p1), .val (.int p2), .val (.int p3), .val (.int p4), .val (.int p5), .unset, .unset, .unset, .unset, .unset] [(.int p4), (.int (3 : Int32)), (.ref b1), (.ref b1)]))
  obtain ⟨_, _, ⟨T8, L8, k8, n8⟩, -, X8, ⟨Lc8, hQ8, l8, y8, z8⟩, st8⟩ := Jvm.LawKit.callS X7 hx (y := (⟨"com/example/ilsa/ilsa/io/LineFieldsFieldStartPinLaw", "draw", "(I)B"⟩ : MethodName)) hown (mvT hZ (hw _ (List.mem_of_getElem? (i := 1) rfl))) (mvT hZ (hw _ (List.mem_of_getElem? (i := 2) rfl))) (mvT hZ (hw _ (List.mem_of_getElem? (i := 3) rfl))) (mvT hZ (hw _ (List.mem_of_getElem? (i := 4) rfl))) (by decide) (backOf (W := 3) (rm1 l Z a0 hw [] p4 h7 n0) hZ (hw _ (List.mem_of_getElem? (i := 4) rfl)) (hw _ (List.mem_of_getElem? (i := 3) rfl)) (by decide) (by decide)) (g := (mkF m 27 #[.val (.int p1), .val (.int p2), .val (.int p3), .val (.int p4), .val (.int p5), .unset, .unset, .unset, .unset, .unset] [(.int p4), (.int (3 : Int32)), (.ref b1), (.ref b1)])) rfl (by rw [hml]; rfl) (argsL := [(.int p4)]) (rest := [(.int (3 : Int32)), (.ref b1), (.ref b1)]) (lenOf pd_1 rfl) rfl (by show 2 * 0 + _ ≤ _; exact Nat.le_of_eq rfl) (hb hby at_27) (fun _ _ => ⟨rfl, e7, (by decide : 1 + 0 ≤ _), (by decide : 4 + 0 ≤ _)⟩)
  dsimp only [Pt.U, Pt.locs, Pt.cells, Pt.slots] at X8 l8 y8 z8 st8 hQ8
  subst l8 y8 z8
  obtain ⟨rfl, N8q, e8⟩ := hQ8
  have N8 := Fr.app N7 N8q
  refine Gl.st st8 ?_
  show Gl _ _ _ _ _ _ _ (T8.setTop (mkF m 30 #[.val (.int p1), .val (.int p2), .val (.int p3), .val (.int p4), .val (.int p5), .unset, .unset, .unset, .unset, .unset] [(.int (own_draw p4)), (.int (3 : Int32)), (.ref b1), (.ref b1)]))
  have Vx9 := V7
  obtain ⟨cl9, Ar9, qk9, S9, M9, H9, G9⟩ := Vx9
  have hin9 : ¬ ((3 : Int32) < 0 ∨ cl9.slots.size ≤ ((3 : Int32)).toNatClampNeg) := inb_of S9 ⟨by decide, by decide⟩
  obtain ⟨T9, h9, X9, e9, W9, st9⟩ := stB X8 hx hZ e8 Ar9 (j := (3 : Int32)) hin9 (g := (mkF m 30 #[.val (.int p1), .val (.int p2), .val (.int p3), .val (.int p4), .val (.int p5), .unset, .unset, .unset, .unset, .unset] [(.int (own_draw p4)), (.int (3 : Int32)), (.ref b1), (.ref b1)])) rfl rfl (hb hby at_30)
  refine Gl.st st9 ?_
  have Z9 : n0 ≤ h9.size := Nat.le_trans Z7 (Keep.of_wr W9).1
  have N9 := Fr.snoc X9 N8 gzb1
  have V9 : Arv Z h9 b1 k1 .byte (4 : Int32) [(.int (nar .byte (own_draw p1))), (.int (nar .byte (own_draw p2))), (.int (nar .byte (own_draw p3))), (.int (nar .byte (own_draw p4)))] (.int (0 : Int32)) := Arv.set Ar9 qk9 S9 M9 H9 G9 (fits_nar_byte _) W9 3 rfl (Nat.le_of_ble_eq_true rfl)
  show Gl _ _ _ _ _ _ _ (T9.setTop (mkF m 31 #[.val (.int p1), .val (.int p2), .val (.int p3), .val (.int p4), .val (.int p5), .unset, .unset, .unset, .unset, .unset] [(.ref b1)]))
  refine Gl.st (fun t k => XS.astore X9.here hx rfl (hb hby at_31) rfl rfl (l' := #[.val (.int p1), .val (.int p2), .val (.int p3), .val (.int p4), .val (.int p5), .val (.ref b1), .unset, .unset, .unset, .unset]) rfl k) ?_
  show Gl _ _ _ _ _ _ _ (T9.setTop (mkF m 33 #[.val (.int p1), .val (.int p2), .val (.int p3), .val (.int p4), .val (.int p5), .val (.ref b1), .unset, .unset, .unset, .unset] []))
  refine Gl.st (fun t k => XS.iload X9.here hx rfl (hb hby at_33) rfl  k) ?_
  show Gl _ _ _ _ _ _ _ (T9.setTop (mkF m 35 #[.val (.int p1), .val (.int p2), .val (.int p3), .val (.int p4), .val (.int p5), .val (.ref b1), .unset, .unset, .unset, .unset] [(.int p5)]))
  refine Gl.st (X9.ldcInt hx hown (mvT hZ (hw _ (List.mem_of_getElem? (i := 5) rfl))) (g := (mkF m 35 #[.val (.int p1), .val (.int p2), .val (.int p3), .val (.int p4), .val (.int p5), .val (.ref b1), .unset, .unset, .unset, .unset] [(.int p5)])) rfl (hb hby at_35)) ?_
  show Gl _ _ _ _ _ _ _ (T9.setTop (mkF m 37 #[.val (.int p1), .val (.int p2), .val (.int p3), .val (.int p4), .val (.int p5), .val (.ref b1), .unset, .unset, .unset, .unset] [(.int (2147483647 : Int32)), (.int p5)]))
  refine Gl.st (fun t k => XS.iand X9.here hx rfl (hb hby at_37) rfl k) ?_
  show Gl _ _ _ _ _ _ _ (T9.setTop (mkF m 38 #[.val (.int p1), .val (.int p2), .val (.int p3), .val (.int p4), .val (.int p5), .val (.ref b1), .unset, .unset, .unset, .unset] [(.int (p5 &&& (2147483647 : Int32)))]))
  refine Gl.st (fun t k => XS.iconst X9.here hx rfl (hb hby at_38) k) ?_
  show Gl _ _ _ _ _ _ _ (T9.setTop (mkF m 39 #[.val (.int p1), .val (.int p2), .val (.int p3), .val (.int p4), .val (.int p5), .val (.ref b1), .unset, .unset, .unset, .unset] [(.int (5 : Int32)), (.int (p5 &&& (2147483647 : Int32)))]))
  refine Gl.st (fun t k => iremM X9 hx rfl (hb hby at_39) rfl (by decide) k) ?_
  show Gl _ _ _ _ _ _ _ (T9.setTop (mkF m 40 #[.val (.int p1), .val (.int p2), .val (.int p3), .val (.int p4), .val (.int p5), .val (.ref b1), .unset, .unset, .unset, .unset] [(.int ((p5 &&& (2147483647 : Int32)) % (5 : Int32)))]))
  refine Gl.st (fun t k => XS.istore X9.here hx rfl (hb hby at_40) rfl (l' := #[.val (.int p1), .val (.int p2), .val (.int p3), .val (.int p4), .val (.int p5), .val (.ref b1), .val (.int ((p5 &&& (2147483647 : Int32)) % (5 : Int32))), .unset, .unset, .unset]) rfl k) ?_
  show Gl _ _ _ _ _ _ _ (T9.setTop (mkF m 42 #[.val (.int p1), .val (.int p2), .val (.int p3), .val (.int p4), .val (.int p5), .val (.ref b1), .val (.int ((p5 &&& (2147483647 : Int32)) % (5 : Int32))), .unset, .unset, .unset] []))
  obtain ⟨fr, hfr⟩ : ∃ z : Int32, z = ((p5 &&& (2147483647 : Int32)) % (5 : Int32)) := ⟨_, rfl⟩
  rw [← hfr]
  have hfr2 : 0 ≤ fr.toInt ∧ fr.toInt ≤ 4 := by rw [hfr]; exact own_from _
  show Gl _ _ _ _ _ _ _ (T9.setTop (mkF m 42 #[.val (.int p1), .val (.int p2), .val (.int p3), .val (.int p4), .val (.int p5), .val (.ref b1), .val (.int fr), .unset, .unset, .unset] []))
  refine Gl.st (fun t k => XS.iload X9.here hx rfl (hb hby at_42) rfl  k) ?_
  show Gl _ _ _ _ _ _ _ (T9.setTop (mkF m 44 #[.val (.int p1), .val (.int p2), .val (.int p3), .val (.int p4), .val (.int p5), .val (.ref b1), .val (.int fr), .unset, .unset, .unset] [(.int fr)]))
  refine Gl.st (fun t k => XS.iload X9.here hx rfl (hb hby at_44) rfl  k) ?_
  show Gl _ _ _ _ _ _ _ (T9.setTop (mkF m 46 #[.val (.int p1), .val (.int p2), .val (.int p3), .val (.int p4), .val (.int p5), .val (.ref b1), .val (.int fr), .unset, .unset, .unset] [(.int p5), (.int fr)]))
  refine Gl.st (fun t k => XS.bipush X9.here hx rfl (hb hby at_46) k) ?_
  show Gl _ _ _ _ _ _ _ (T9.setTop (mkF m 48 #[.val (.int p1), .val (.int p2), .val (.int p3), .val (.int p4), .val (.int p5), .val (.ref b1), .val (.int fr), .unset, .unset, .unset] [(.int (8 : Int32)), (.int p5), (.int fr)]))
  refine Gl.st (fun t k => XS.iushr X9.here hx rfl (hb hby at_48) rfl k) ?_
  show Gl _ _ _ _ _ _ _ (T9.setTop (mkF m 49 #[.val (.int p1), .val (.int p2), .val (.int p3), .val (.int p4), .val (.int p5), .val (.ref b1), .val (.int fr), .unset, .unset, .unset] [(.int ((p5.toUInt32 >>> ((8 : Int32) &&& 31).toUInt32).toInt32)), (.int fr)]))
  refine Gl.st (fun t k => XS.iconst X9.here hx rfl (hb hby at_49) k) ?_
  show Gl _ _ _ _ _ _ _ (T9.setTop (mkF m 50 #[.val (.int p1), .val (.int p2), .val (.int p3), .val (.int p4), .val (.int p5), .val (.ref b1), .val (.int fr), .unset, .unset, .unset] [(.int (5 : Int32)), (.int ((p5.toUInt32 >>> ((8 : Int32) &&& 31).toUInt32).toInt32)), (.int fr)]))
  refine Gl.st (fun t k => XS.iload X9.here hx rfl (hb hby at_50) rfl  k) ?_
  show Gl _ _ _ _ _ _ _ (T9.setTop (mkF m 52 #[.val (.int p1), .val (.int p2), .val (.int p3), .val (.int p4), .val (.int p5), .val (.ref b1), .val (.int fr), .unset, .unset, .unset] [(.int fr), (.int (5 : Int32)), (.int ((p5.toUInt32 >>> ((8 : Int32) &&& 31).toUInt32).toInt32)), (.int fr)]))
  refine Gl.st (fun t k => XS.isub X9.here hx rfl (hb hby at_52) rfl k) ?_
  show Gl _ _ _ _ _ _ _ (T9.setTop (mkF m 53 #[.val (.int p1), .val (.int p2), .val (.int p3), .val (.int p4), .val (.int p5), .val (.ref b1), .val (.int fr), .unset, .unset, .unset] [(.int ((5 : Int32) - fr)), (.int ((p5.toUInt32 >>> ((8 : Int32) &&& 31).toUInt32).toInt32)), (.int fr)]))
  refine Gl.st (fun t k => iremM X9 hx rfl (hb hby at_53) rfl (by exact own_nz hfr2.1 hfr2.2) k) ?_
  show Gl _ _ _ _ _ _ _ (T9.setTop (mkF m 54 #[.val (.int p1), .val (.int p2), .val (.int p3), .val (.int p4), .val (.int p5), .val (.ref b1), .val (.int fr), .unset, .unset, .unset] [(.int (((p5.toUInt32 >>> ((8 : Int32) &&& 31).toUInt32).toInt32) % ((5 : Int32) - fr))), (.int fr)]))
  refine Gl.st (fun t k => XS.iadd X9.here hx rfl (hb hby at_54) rfl k) ?_
  show Gl _ _ _ _ _ _ _ (T9.setTop (mkF m 55 #[.val (.int p1), .val (.int p2), .val (.int p3), .val (.int p4), .val (.int p5), .val (.ref b1), .val (.int fr), .unset, .unset, .unset] [(.int (fr + (((p5.toUInt32 >>> ((8 : Int32) &&& 31).toUInt32).toInt32) % ((5 : Int32) - fr))))]))
  refine Gl.st (fun t k => XS.istore X9.here hx rfl (hb hby at_55) rfl (l' := #[.val (.int p1), .val (.int p2), .val (.int p3), .val (.int p4), .val (.int p5), .val (.ref b1), .val (.int fr), .val (.int (fr + (((p5.toUInt32 >>> ((8 : Int32) &&& 31).toUInt32).toInt32) % ((5 : Int32) - fr)))), .unset, .unset]) rfl k) ?_
  show Gl _ _ _ _ _ _ _ (T9.setTop (mkF m 57 #[.val (.int p1), .val (.int p2), .val (.int p3), .val (.int p4), .val (.int p5), .val (.ref b1), .val (.int fr), .val (.int (fr + (((p5.toUInt32 >>> ((8 : Int32) &&& 31).toUInt32).toInt32) % ((5 : Int32) - fr)))), .unset, .unset] []))
  obtain ⟨tt, htt⟩ : ∃ z : Int32, z = (fr + (((p5.toUInt32 >>> ((8 : Int32) &&& 31).toUInt32).toInt32) % ((5 : Int32) - fr))) := ⟨_, rfl⟩
  rw [← htt]
  have htt2 : fr.toInt ≤ tt.toInt ∧ tt.toInt ≤ 4 := by rw [htt]; exact own_to _ _ hfr2.1 hfr2.2
  have hft : 0 ≤ fr.toInt ∧ fr.toInt ≤ tt.toInt ∧ tt.toInt ≤ 4 := ⟨hfr2.1, htt2.1, htt2.2⟩
  show Gl _ _ _ _ _ _ _ (T9.setTop (mkF m 57 #[.val (.int p1), .val (.int p2), .val (.int p3), .val (.int p4), .val (.int p5), .val (.ref b1), .val (.int fr), .val (.int tt), .unset, .unset] []))
  refine Gl.st (fun t k => XS.iload X9.here hx rfl (hb hby at_57) rfl  k) ?_
  show Gl _ _ _ _ _ _ _ (T9.setTop (mkF m 59 #[.val (.int p1), .val (.int p2), .val (.int p3), .val (.int p4), .val (.int p5), .val (.ref b1), .val (.int fr), .val (.int tt), .unset, .unset] [(.int tt)]))
  refine Gl.st (fun t k => XS.istore X9.here hx rfl (hb hby at_59) rfl (l' := #[.val (.int p1), .val (.int p2), .val (.int p3), .val (.int p4), .val (.int p5), .val (.ref b1), .val (.int fr), .val (.int tt), .val (.int tt), .unset]) rfl k) ?_
  show Gl _ _ _ _ _ _ _ (T9.setTop (mkF m 61 #[.val (.int p1), .val (.int p2), .val (.int p3), .val (.int p4), .val (.int p5), .val (.ref b1), .val (.int fr), .val (.int tt), .val (.int tt), .unset] []))
  refine Gl.st (fun t k => XS.iconst X9.here hx rfl (hb hby at_61) k) ?_
  show Gl _ _ _ _ _ _ _ (T9.setTop (mkF m 62 #[.val (.int p1), .val (.int p2), .val (.int p3), .val (.int p4), .val (.int p5), .val (.ref b1), .val (.int fr), .val (.int tt), .val (.int tt), .unset] [(.int (3 : Int32))]))
  refine Gl.st (fun t k => XS.iload X9.here hx rfl (hb hby at_62) rfl  k) ?_
  show Gl _ _ _ _ _ _ _ (T9.setTop (mkF m 64 #[.val (.int p1), .val (.int p2), .val (.int p3), .val (.int p4), .val (.int p5), .val (.ref b1), .val (.int fr), .val (.int tt), .val (.int tt), .unset] [(.int fr), (.int (3 : Int32))]))
  have J10 : ∀ (Tj10 : State) (Lj10 : List Loc) (Xj10 : Stand p l e room_1 s m #[(.int p1), (.int p2), (.int p3), (.int p4), (.int p5)] below meth c Tj10 Lj10 1 4) (ej10 : Tj10.heap = h9) (Nj10 : Fr n0 Lj10) (z86l8 : Int32) (hz86l8 : z86l8 = (if (3 : Int32) < fr then tt else (if (3 : Int32) < tt then (if (own_ws (nar .byte (own_draw p4))) = (0 : Int32) then (3 : Int32) else tt) else tt))), Gl p e below s (Q0 Z p1 p2 p3 p4 p5 h0 n0) room_1.cells room_1.slots (Tj10.setTop (mkF m 86 #[.val (.int p1), .val (.int p2), .val (.int p3), .val (.int p4), .val (.int p5), .val (.ref b1), .val (.int fr), .val (.int tt), .val (.int z86l8), .unset] [])) := by
    intro Tj10 Lj10 Xj10 ej10 Nj10 z86l8 hz86l8
    show Gl _ _ _ _ _ _ _ (Tj10.setTop (mkF m 86 #[.val (.int p1), .val (.int p2), .val (.int p3), .val (.int p4), .val (.int p5), .val (.ref b1), .val (.int fr), .val (.int tt), .val (.int z86l8), .unset] []))
    refine Gl.st (fun t k => XS.iconst Xj10.here hx rfl (hb hby at_86) k) ?_
    show Gl _ _ _ _ _ _ _ (Tj10.setTop (mkF m 87 #[.val (.int p1), .val (.int p2), .val (.int p3), .val (.int p4), .val (.int p5), .val (.ref b1), .val (.int fr), .val (.int tt), .val (.int z86l8), .unset] [(.int (2 : Int32))]))
    refine Gl.st (fun t k => XS.iload Xj10.here hx rfl (hb hby at_87) rfl  k) ?_
    show Gl _ _ _ _ _ _ _ (Tj10.setTop (mkF m 89 #[.val (.int p1), .val (.int p2), .val (.int p3), .val (.int p4), .val (.int p5), .val (.ref b1), .val (.int fr), .val (.int tt), .val (.int z86l8), .unset] [(.int fr), (.int (2 : Int32))]))
    have J11 : ∀ (Tj11 : State) (Lj11 : List Loc) (Xj11 : Stand p l e room_1 s m #[(.int p1), (.int p2), (.int p3), (.int p4), (.int p5)] below meth c Tj11 Lj11 1 4) (ej11 : Tj11.heap = h9) (Nj11 : Fr n0 Lj11) (z111l8 : Int32) (hz111l8 : z111l8 = (if (2 : Int32) < fr then z86l8 else (if (2 : Int32) < tt then (if (own_ws (nar .byte (own_draw p3))) = (0 : Int32) then (2 : Int32) else z86l8) else z86l8))), Gl p e below s (Q0 Z p1 p2 p3 p4 p5 h0 n0) room_1.cells room_1.slots (Tj11.setTop (mkF m 111 #[.val (.int p1), .val (.int p2), .val (.int p3), .val (.int p4), .val (.int p5), .val (.ref b1), .val (.int fr), .val (.int tt), .val (.int z111l8), .unset] [])) := by
      intro Tj11 Lj11 Xj11 ej11 Nj11 z111l8 hz111l8
      show Gl _ _ _ _ _ _ _ (Tj11.setTop (mkF m 111 #[.val (.int p1), .val (.int p2), .val (.int p3), .val (.int p4), .val (.int p5), .val (.ref b1), .val (.int fr), .val (.int tt), .val (.int z111l8), .unset] []))
      refine Gl.st (fun t k => XS.iconst Xj11.here hx rfl (hb hby at_111) k) ?_
      show Gl _ _ _ _ _ _ _ (Tj11.setTop (mkF m 112 #[.val (.int p1), .val (.int p2), .val (.int p3), .val (.int p4), .val (.int p5), .val (.ref b1), .val (.int fr), .val (.int tt), .val (.int z111l8), .unset] [(.int (1 : Int32))]))
      refine Gl.st (fun t k => XS.iload Xj11.here hx rfl (hb hby at_112) rfl  k) ?_
      show Gl _ _ _ _ _ _ _ (Tj11.setTop (mkF m 114 #[.val (.int p1), .val (.int p2), .val (.int p3), .val (.int p4), .val (.int p5), .val (.ref b1), .val (.int fr), .val (.int tt), .val (.int z111l8), .unset] [(.int fr), (.int (1 : Int32))]))
      have J12 : ∀ (Tj12 : State) (Lj12 : List Loc) (Xj12 : Stand p l e room_1 s m #[(.int p1), (.int p2), (.int p3), (.int p4), (.int p5)] below meth c Tj12 Lj12 1 4) (ej12 : Tj12.heap = h9) (Nj12 : Fr n0 Lj12) (z136l8 : Int32) (hz136l8 : z136l8 = (if (1 : Int32) < fr then z111l8 else (if (1 : Int32) < tt then (if (own_ws (nar .byte (own_draw p2))) = (0 : Int32) then (1 : Int32) else z111l8) else z111l8))), Gl p e below s (Q0 Z p1 p2 p3 p4 p5 h0 n0) room_1.cells room_1.slots (Tj12.setTop (mkF m 136 #[.val (.int p1), .val (.int p2), .val (.int p3), .val (.int p4), .val (.int p5), .val (.ref b1), .val (.int fr), .val (.int tt), .val (.int z136l8), .unset] [])) := by
        intro Tj12 Lj12 Xj12 ej12 Nj12 z136l8 hz136l8
        show Gl _ _ _ _ _ _ _ (Tj12.setTop (mkF m 136 #[.val (.int p1), .val (.int p2), .val (.int p3), .val (.int p4), .val (.int p5), .val (.ref b1), .val (.int fr), .val (.int tt), .val (.int z136l8), .unset] []))
        refine Gl.st (fun t k => XS.iconst Xj12.here hx rfl (hb hby at_136) k) ?_
        show Gl _ _ _ _ _ _ _ (Tj12.setTop (mkF m 137 #[.val (.int p1), .val (.int p2), .val (.int p3), .val (.int p4), .val (.int p5), .val (.ref b1), .val (.int fr), .val (.int tt), .val (.int z136l8), .unset] [(.int (0 : Int32))]))
        refine Gl.st (fun t k => XS.iload Xj12.here hx rfl (hb hby at_137) rfl  k) ?_
        show Gl _ _ _ _ _ _ _ (Tj12.setTop (mkF m 139 #[.val (.int p1), .val (.int p2), .val (.int p3), .val (.int p4), .val (.int p5), .val (.ref b1), .val (.int fr), .val (.int tt), .val (.int z136l8), .unset] [(.int fr), (.int (0 : Int32))]))
        have J13 : ∀ (Tj13 : State) (Lj13 : List Loc) (Xj13 : Stand p l e room_1 s m #[(.int p1), (.int p2), (.int p3), (.int p4), (.int p5)] below meth c Tj13 Lj13 1 4) (ej13 : Tj13.heap = h9) (Nj13 : Fr n0 Lj13) (z161l8 : Int32) (hz161l8 : z161l8 = (if (0 : Int32) < fr then z136l8 else (if (0 : Int32) < tt then (if (own_ws (nar .byte (own_draw p1))) = (0 : Int32) then (0 : Int32) else z136l8) else z136l8))), Gl p e below s (Q0 Z p1 p2 p3 p4 p5 h0 n0) room_1.cells room_1.slots (Tj13.setTop (mkF m 161 #[.val (.int p1), .val (.int p2), .val (.int p3), .val (.int p4), .val (.int p5), .val (.ref b1), .val (.int fr), .val (.int tt), .val (.int z161l8), .unset] [])) := by
          intro Tj13 Lj13 Xj13 ej13 Nj13 z161l8 hz161l8
          show Gl _ _ _ _ _ _ _ (Tj13.setTop (mkF m 161 #[.val (.int p1), .val (.int p2), .val (.int p3), .val (.int p4), .val (.int p5), .val (.ref b1), .val (.int fr), .val (.int tt), .val (.int z161l8), .unset] []))
          refine Gl.st (fun t k => XS.aload Xj13.here hx rfl (hb hby at_161) rfl rfl k) ?_
          show Gl _ _ _ _ _ _ _ (Tj13.setTop (mkF m 163 #[.val (.int p1), .val (.int p2), .val (.int p3), .val (.int p4), .val (.int p5), .val (.ref b1), .val (.int fr), .val (.int tt), .val (.int z161l8), .unset] [(.ref b1)]))
          refine Gl.st (fun t k => XS.iload Xj13.here hx rfl (hb hby at_163) rfl  k) ?_
          show Gl _ _ _ _ _ _ _ (Tj13.setTop (mkF m 165 #[.val (.int p1), .val (.int p2), .val (.int p3), .val (.int p4), .val (.int p5), .val (.ref b1), .val (.int fr), .val (.int tt), .val (.int z161l8), .unset] [(.int fr), (.ref b1)]))
          refine Gl.st (fun t k => XS.iload Xj13.here hx rfl (hb hby at_165) rfl  k) ?_
          show Gl _ _ _ _ _ _ _ (Tj13.setTop (mkF m 167 #[.val (.int p1), .val (.int p2), .val (.int p3), .val (.int p4), .val (.int p5), .val (.ref b1), .val (.int fr), .val (.int tt), .val (.int z161l8), .unset] [(.int tt), (.int fr), (.ref b1)]))
          obtain ⟨_, _, ⟨T14, L14, k14, n14⟩, -, X14, ⟨Lc14, hQ14, l14, y14, z14⟩, st14⟩ := Jvm.LawKit.callS Xj13 hx (y := (⟨"com/example/ilsa/ilsa/io/LineFields", "fieldStart", "([BII)I"⟩ : MethodName)) hown (mvT hZ (hw _ (List.mem_of_getElem? (i := 6) rfl))) (mvT hZ (hw _ (List.mem_of_getElem? (i := 7) rfl))) (mvT hZ (hw _ (List.mem_of_getElem? (i := 8) rfl))) (mvT hZ (hw _ (List.mem_of_getElem? (i := 9) rfl))) (by decide) (backOf (W := 0) (rm2 l Z a0 hw [] b1 fr tt (k1) ((nar .byte (own_draw p1))) ((nar .byte (own_draw p2))) ((nar .byte (own_draw p3))) ((nar .byte (own_draw p4))) h9 n0  V9 hft.1 hft.2.1 hft.2.2) hZ (hw _ (List.mem_of_getElem? (i := 9) rfl)) (hw _ (List.mem_of_getElem? (i := 8) rfl)) (by decide) (by decide)) (g := (mkF m 167 #[.val (.int p1), .val (.int p2), .val (.int p3), .val (.int p4), .val (.int p5), .val (.ref b1), .val (.int fr), .val (.int tt), .val (.int z161l8), .unset] [(.int tt), (.int fr), (.ref b1)])) rfl (by rw [hml]; rfl) (argsL := [(.ref b1), (.int fr), (.int tt)]) (rest := []) (lenOf pd_2 rfl) rfl (by show 2 * 0 + _ ≤ _; exact Nat.le_of_eq rfl) (hb hby at_167) (fun _ _ => ⟨rfl, ej13, (by decide : 1 + 0 ≤ _), (by decide : 4 + 0 ≤ _)⟩)
          dsimp only [Pt.U, Pt.locs, Pt.cells, Pt.slots] at X14 l14 y14 z14 st14 hQ14
          subst l14 y14 z14
          obtain ⟨rfl, N14q, e14⟩ := hQ14
          have N14 := Fr.app Nj13 N14q
          refine Gl.st st14 ?_
          show Gl _ _ _ _ _ _ _ (T14.setTop (mkF m 170 #[.val (.int p1), .val (.int p2), .val (.int p3), .val (.int p4), .val (.int p5), .val (.ref b1), .val (.int fr), .val (.int tt), .val (.int z161l8), .unset] [(.int (own_start [(nar .byte (own_draw p1)), (nar .byte (own_draw p2)), (nar .byte (own_draw p3)), (nar .byte (own_draw p4))] fr tt))]))
          refine Gl.st (fun t k => XS.istore X14.here hx rfl (hb hby at_170) rfl (l' := #[.val (.int p1), .val (.int p2), .val (.int p3), .val (.int p4), .val (.int p5), .val (.ref b1), .val (.int fr), .val (.int tt), .val (.int z161l8), .val (.int (own_start [(nar .byte (own_draw p1)), (nar .byte (own_draw p2)), (nar .byte (own_draw p3)), (nar .byte (own_draw p4))] fr tt))]) rfl k) ?_
          show Gl _ _ _ _ _ _ _ (T14.setTop (mkF m 172 #[.val (.int p1), .val (.int p2), .val (.int p3), .val (.int p4), .val (.int p5), .val (.ref b1), .val (.int fr), .val (.int tt), .val (.int z161l8), .val (.int (own_start [(nar .byte (own_draw p1)), (nar .byte (own_draw p2)), (nar .byte (own_draw p3)), (nar .byte (own_draw p4))] fr tt))] []))
          refine Gl.st (fun t k => XS.iload X14.here hx rfl (hb hby at_172) rfl  k) ?_
          show Gl _ _ _ _ _ _ _ (T14.setTop (mkF m 174 #[.val (.int p1), .val (.int p2), .val (.int p3), .val (.int p4), .val (.int p5), .val (.ref b1), .val (.int fr), .val (.int tt), .val (.int z161l8), .val (.int (own_start [(nar .byte (own_draw p1)), (nar .byte (own_draw p2)), (nar .byte (own_draw p3)), (nar .byte (own_draw p4))] fr tt))] [(.int (own_start [(nar .byte (own_draw p1)), (nar .byte (own_draw p2)), (nar .byte (own_draw p3)), (nar .byte (own_draw p4))] fr tt))]))
          refine Gl.st (fun t k => XS.iload X14.here hx rfl (hb hby at_174) rfl  k) ?_
          show Gl _ _ _ _ _ _ _ (T14.setTop (mkF m 176 #[.val (.int p1), .val (.int p2), .val (.int p3), .val (.int p4), .val (.int p5), .val (.ref b1), .val (.int fr), .val (.int tt), .val (.int z161l8), .val (.int (own_start [(nar .byte (own_draw p1)), (nar .byte (own_draw p2)), (nar .byte (own_draw p3)), (nar .byte (own_draw p4))] fr tt))] [(.int z161l8), (.int (own_start [(nar .byte (own_draw p1)), (nar .byte (own_draw p2)), (nar .byte (own_draw p3)), (nar .byte (own_draw p4))] fr tt))]))
          have hc176_15 : (own_start [(nar .byte (own_draw p1)), (nar .byte (own_draw p2)), (nar .byte (own_draw p3)), (nar .byte (own_draw p4))] fr tt) = z161l8 := by exact own_final _ _ _ _ _ _ _ _ _ _ hft.1 hft.2.1 hft.2.2 hz86l8 hz111l8 hz136l8 hz161l8
          refine Gl.st (fun t k => XS.icmpNo X14.here hx rfl (hb hby at_176) rfl (teq hc176_15).2 k) ?_
          show Gl _ _ _ _ _ _ _ (T14.setTop (mkF m 179 #[.val (.int p1), .val (.int p2), .val (.int p3), .val (.int p4), .val (.int p5), .val (.ref b1), .val (.int fr), .val (.int tt), .val (.int z161l8), .val (.int (own_start [(nar .byte (own_draw p1)), (nar .byte (own_draw p2)), (nar .byte (own_draw p3)), (nar .byte (own_draw p4))] fr tt))] []))
          refine Gl.st (fun t k => XS.iconst X14.here hx rfl (hb hby at_179) k) ?_
          show Gl _ _ _ _ _ _ _ (T14.setTop (mkF m 180 #[.val (.int p1), .val (.int p2), .val (.int p3), .val (.int p4), .val (.int p5), .val (.ref b1), .val (.int fr), .val (.int tt), .val (.int z161l8), .val (.int (own_start [(nar .byte (own_draw p1)), (nar .byte (own_draw p2)), (nar .byte (own_draw p3)), (nar .byte (own_draw p4))] fr tt))] [(.int (1 : Int32))]))
          refine Gl.st (fun t k => XS.goto X14.here hx rfl (pc0 := 180) (pc' := 184) rfl (hb hby at_180) (by decide) (by decide) k) ?_
          show Gl _ _ _ _ _ _ _ (T14.setTop (mkF m 184 #[.val (.int p1), .val (.int p2), .val (.int p3), .val (.int p4), .val (.int p5), .val (.ref b1), .val (.int fr), .val (.int tt), .val (.int z161l8), .val (.int (own_start [(nar .byte (own_draw p1)), (nar .byte (own_draw p2)), (nar .byte (own_draw p3)), (nar .byte (own_draw p4))] fr tt))] [(.int (1 : Int32))]))
          exact Gl.retN X14 hx hlk Bd.returns (by simp) (hb hby at_184) (⟨rfl, N14⟩) (by decide) (by decide)
        by_cases hc139 : (0 : Int32) < fr
        · refine Gl.st (fun t k => XS.icmpYes Xj12.here hx rfl (pc0 := 139) (pc' := 161) rfl (hb hby at_139) rfl (tlt hc139).1 (by decide) (by decide) k) ?_
          show Gl _ _ _ _ _ _ _ (Tj12.setTop (mkF m 161 #[.val (.int p1), .val (.int p2), .val (.int p3), .val (.int p4), .val (.int p5), .val (.ref b1), .val (.int fr), .val (.int tt), .val (.int z136l8), .unset] []))
          exact J13 _ _ Xj12 ej12 Nj12 _ (by simp only [if_pos hc139])
        · refine Gl.st (fun t k => XS.icmpNo Xj12.here hx rfl (hb hby at_139) rfl (flt hc139).1 k) ?_
          show Gl _ _ _ _ _ _ _ (Tj12.setTop (mkF m 142 #[.val (.int p1), .val (.int p2), .val (.int p3), .val (.int p4), .val (.int p5), .val (.ref b1), .val (.int fr), .val (.int tt), .val (.int z136l8), .unset] []))
          refine Gl.st (fun t k => XS.iconst Xj12.here hx rfl (hb hby at_142) k) ?_
          show Gl _ _ _ _ _ _ _ (Tj12.setTop (mkF m 143 #[.val (.int p1), .val (.int p2), .val (.int p3), .val (.int p4), .val (.int p5), .val (.ref b1), .val (.int fr), .val (.int tt), .val (.int z136l8), .unset] [(.int (0 : Int32))]))
          refine Gl.st (fun t k => XS.iload Xj12.here hx rfl (hb hby at_143) rfl  k) ?_
          show Gl _ _ _ _ _ _ _ (Tj12.setTop (mkF m 145 #[.val (.int p1), .val (.int p2), .val (.int p3), .val (.int p4), .val (.int p5), .val (.ref b1), .val (.int fr), .val (.int tt), .val (.int z136l8), .unset] [(.int tt), (.int (0 : Int32))]))
          by_cases hc145 : (0 : Int32) < tt
          · refine Gl.st (fun t k => XS.icmpNo Xj12.here hx rfl (hb hby at_145) rfl (tlt hc145).2.1 k) ?_
            show Gl _ _ _ _ _ _ _ (Tj12.setTop (mkF m 148 #[.val (.int p1), .val (.int p2), .val (.int p3), .val (.int p4), .val (.int p5), .val (.ref b1), .val (.int fr), .val (.int tt), .val (.int z136l8), .unset] []))
            refine Gl.st (fun t k => XS.aload Xj12.here hx rfl (hb hby at_148) rfl rfl k) ?_
            show Gl _ _ _ _ _ _ _ (Tj12.setTop (mkF m 150 #[.val (.int p1), .val (.int p2), .val (.int p3), .val (.int p4), .val (.int p5), .val (.ref b1), .val (.int fr), .val (.int tt), .val (.int z136l8), .unset] [(.ref b1)]))
            refine Gl.st (fun t k => XS.iconst Xj12.here hx rfl (hb hby at_150) k) ?_
            show Gl _ _ _ _ _ _ _ (Tj12.setTop (mkF m 151 #[.val (.int p1), .val (.int p2), .val (.int p3), .val (.int p4), .val (.int p5), .val (.ref b1), .val (.int fr), .val (.int tt), .val (.int z136l8), .unset] [(.int (0 : Int32)), (.ref b1)]))
            have Vx16 := V9
            obtain ⟨cl16, Ar16, qk16, S16, M16, H16, G16⟩ := Vx16
            have hin16 : ¬ ((0 : Int32) < 0 ∨ cl16.slots.size ≤ ((0 : Int32)).toNatClampNeg) := inb_of S16 ⟨by decide, by decide⟩
            have hat16 : cl16.slots[((0 : Int32)).toNatClampNeg]? = some (.int (nar .byte (own_draw p1))) := H16.at hin16 rfl
            refine Gl.st (Xj12.baloadBytes hx (j := (0 : Int32)) (v := (.int (nar .byte (own_draw p1)))) (by rw [ej12]; exact Ar16.1) (State.isArrayOf_alike hZ.alike Ar16.2.1) Ar16.2.2 hin16 hat16 (g := (mkF m 151 #[.val (.int p1), .val (.int p2), .val (.int p3), .val (.int p4), .val (.int p5), .val (.ref b1), .val (.int fr), .val (.int tt), .val (.int z136l8), .unset] [(.int (0 : Int32)), (.ref b1)])) rfl rfl (hb hby at_151)) ?_
            show Gl _ _ _ _ _ _ _ (Tj12.setTop (mkF m 152 #[.val (.int p1), .val (.int p2), .val (.int p3), .val (.int p4), .val (.int p5), .val (.ref b1), .val (.int fr), .val (.int tt), .val (.int z136l8), .unset] [(.int (nar .byte (own_draw p1)))]))
            obtain ⟨_, _, ⟨T17, L17, k17, n17⟩, -, X17, ⟨Lc17, hQ17, l17, y17, z17⟩, st17⟩ := Jvm.LawKit.callS Xj12 hx (y := (⟨"com/example/ilsa/ilsa/io/LineFieldsFieldStartPinLaw", "ws", "(B)Z"⟩ : MethodName)) hown (mvT hZ (hw _ (List.mem_of_getElem? (i := 10) rfl))) (mvT hZ (hw _ (List.mem_of_getElem? (i := 11) rfl))) (mvT hZ (hw _ (List.mem_of_getElem? (i := 3) rfl))) (mvT hZ (hw _ (List.mem_of_getElem? (i := 12) rfl))) (by decide) (backOf (W := 0) (rm3 l Z a0 hw [] (nar .byte (own_draw p1)) h9 n0) hZ (hw _ (List.mem_of_getElem? (i := 12) rfl)) (hw _ (List.mem_of_getElem? (i := 3) rfl)) (by decide) (by decide)) (g := (mkF m 152 #[.val (.int p1), .val (.int p2), .val (.int p3), .val (.int p4), .val (.int p5), .val (.ref b1), .val (.int fr), .val (.int tt), .val (.int z136l8), .unset] [(.int (nar .byte (own_draw p1)))])) rfl (by rw [hml]; rfl) (argsL := [(.int (nar .byte (own_draw p1)))]) (rest := []) (lenOf pd_0 rfl) rfl (by show 2 * 0 + _ ≤ _; exact Nat.le_of_eq rfl) (hb hby at_152) (fun _ _ => ⟨rfl, ej12, (by decide : 1 + 0 ≤ _), (by decide : 4 + 0 ≤ _)⟩)
            dsimp only [Pt.U, Pt.locs, Pt.cells, Pt.slots] at X17 l17 y17 z17 st17 hQ17
            subst l17 y17 z17
            obtain ⟨rfl, N17q, e17⟩ := hQ17
            have N17 := Fr.app Nj12 N17q
            refine Gl.st st17 ?_
            show Gl _ _ _ _ _ _ _ (T17.setTop (mkF m 155 #[.val (.int p1), .val (.int p2), .val (.int p3), .val (.int p4), .val (.int p5), .val (.ref b1), .val (.int fr), .val (.int tt), .val (.int z136l8), .unset] [(.int (own_ws (nar .byte (own_draw p1))))]))
            by_cases hc155 : (own_ws (nar .byte (own_draw p1))) = (0 : Int32)
            · refine Gl.st (fun t k => XS.ifNo X17.here hx rfl (hb hby at_155) rfl ((if0 _ _).trans (teq hc155).2) k) ?_
              show Gl _ _ _ _ _ _ _ (T17.setTop (mkF m 158 #[.val (.int p1), .val (.int p2), .val (.int p3), .val (.int p4), .val (.int p5), .val (.ref b1), .val (.int fr), .val (.int tt), .val (.int z136l8), .unset] []))
              refine Gl.st (fun t k => XS.iconst X17.here hx rfl (hb hby at_158) k) ?_
              show Gl _ _ _ _ _ _ _ (T17.setTop (mkF m 159 #[.val (.int p1), .val (.int p2), .val (.int p3), .val (.int p4), .val (.int p5), .val (.ref b1), .val (.int fr), .val (.int tt), .val (.int z136l8), .unset] [(.int (0 : Int32))]))
              refine Gl.st (fun t k => XS.istore X17.here hx rfl (hb hby at_159) rfl (l' := #[.val (.int p1), .val (.int p2), .val (.int p3), .val (.int p4), .val (.int p5), .val (.ref b1), .val (.int fr), .val (.int tt), .val (.int (0 : Int32)), .unset]) rfl k) ?_
              show Gl _ _ _ _ _ _ _ (T17.setTop (mkF m 161 #[.val (.int p1), .val (.int p2), .val (.int p3), .val (.int p4), .val (.int p5), .val (.ref b1), .val (.int fr), .val (.int tt), .val (.int (0 : Int32)), .unset] []))
              exact J13 _ _ X17 e17 N17 _ (by simp only [if_neg hc139, if_pos hc145, if_pos hc155])
            · refine Gl.st (fun t k => XS.ifYes X17.here hx rfl (pc0 := 155) (pc' := 161) rfl (hb hby at_155) rfl ((if0 _ _).trans (feq hc155).2) (by decide) (by decide) k) ?_
              show Gl _ _ _ _ _ _ _ (T17.setTop (mkF m 161 #[.val (.int p1), .val (.int p2), .val (.int p3), .val (.int p4), .val (.int p5), .val (.ref b1), .val (.int fr), .val (.int tt), .val (.int z136l8), .unset] []))
              exact J13 _ _ X17 e17 N17 _ (by simp only [if_neg hc139, if_pos hc145, if_neg hc155])
          · refine Gl.st (fun t k => XS.icmpYes Xj12.here hx rfl (pc0 := 145) (pc' := 161) rfl (hb hby at_145) rfl (flt hc145).2.1 (by decide) (by decide) k) ?_
            show Gl _ _ _ _ _ _ _ (Tj12.setTop (mkF m 161 #[.val (.int p1), .val (.int p2), .val (.int p3), .val (.int p4), .val (.int p5), .val (.ref b1), .val (.int fr), .val (.int tt), .val (.int z136l8), .unset] []))
            exact J13 _ _ Xj12 ej12 Nj12 _ (by simp only [if_neg hc139, if_neg hc145])
      by_cases hc114 : (1 : Int32) < fr
      · refine Gl.st (fun t k => XS.icmpYes Xj11.here hx rfl (pc0 := 114) (pc' := 136) rfl (hb hby at_114) rfl (tlt hc114).1 (by decide) (by decide) k) ?_
        show Gl _ _ _ _ _ _ _ (Tj11.setTop (mkF m 136 #[.val (.int p1), .val (.int p2), .val (.int p3), .val (.int p4), .val (.int p5), .val (.ref b1), .val (.int fr), .val (.int tt), .val (.int z111l8), .unset] []))
        exact J12 _ _ Xj11 ej11 Nj11 _ (by simp only [if_pos hc114])
      · refine Gl.st (fun t k => XS.icmpNo Xj11.here hx rfl (hb hby at_114) rfl (flt hc114).1 k) ?_
        show Gl _ _ _ _ _ _ _ (Tj11.setTop (mkF m 117 #[.val (.int p1), .val (.int p2), .val (.int p3), .val (.int p4), .val (.int p5), .val (.ref b1), .val (.int fr), .val (.int tt), .val (.int z111l8), .unset] []))
        refine Gl.st (fun t k => XS.iconst Xj11.here hx rfl (hb hby at_117) k) ?_
        show Gl _ _ _ _ _ _ _ (Tj11.setTop (mkF m 118 #[.val (.int p1), .val (.int p2), .val (.int p3), .val (.int p4), .val (.int p5), .val (.ref b1), .val (.int fr), .val (.int tt), .val (.int z111l8), .unset] [(.int (1 : Int32))]))
        refine Gl.st (fun t k => XS.iload Xj11.here hx rfl (hb hby at_118) rfl  k) ?_
        show Gl _ _ _ _ _ _ _ (Tj11.setTop (mkF m 120 #[.val (.int p1), .val (.int p2), .val (.int p3), .val (.int p4), .val (.int p5), .val (.ref b1), .val (.int fr), .val (.int tt), .val (.int z111l8), .unset] [(.int tt), (.int (1 : Int32))]))
        by_cases hc120 : (1 : Int32) < tt
        · refine Gl.st (fun t k => XS.icmpNo Xj11.here hx rfl (hb hby at_120) rfl (tlt hc120).2.1 k) ?_
          show Gl _ _ _ _ _ _ _ (Tj11.setTop (mkF m 123 #[.val (.int p1), .val (.int p2), .val (.int p3), .val (.int p4), .val (.int p5), .val (.ref b1), .val (.int fr), .val (.int tt), .val (.int z111l8), .unset] []))
          refine Gl.st (fun t k => XS.aload Xj11.here hx rfl (hb hby at_123) rfl rfl k) ?_
          show Gl _ _ _ _ _ _ _ (Tj11.setTop (mkF m 125 #[.val (.int p1), .val (.int p2), .val (.int p3), .val (.int p4), .val (.int p5), .val (.ref b1), .val (.int fr), .val (.int tt), .val (.int z111l8), .unset] [(.ref b1)]))
          refine Gl.st (fun t k => XS.iconst Xj11.here hx rfl (hb hby at_125) k) ?_
          show Gl _ _ _ _ _ _ _ (Tj11.setTop (mkF m 126 #[.val (.int p1), .val (.int p2), .val (.int p3), .val (.int p4), .val (.int p5), .val (.ref b1), .val (.int fr), .val (.int tt), .val (.int z111l8), .unset] [(.int (1 : Int32)), (.ref b1)]))
          have Vx18 := V9
          obtain ⟨cl18, Ar18, qk18, S18, M18, H18, G18⟩ := Vx18
          have hin18 : ¬ ((1 : Int32) < 0 ∨ cl18.slots.size ≤ ((1 : Int32)).toNatClampNeg) := inb_of S18 ⟨by decide, by decide⟩
          have hat18 : cl18.slots[((1 : Int32)).toNatClampNeg]? = some (.int (nar .byte (own_draw p2))) := H18.at hin18 rfl
          refine Gl.st (Xj11.baloadBytes hx (j := (1 : Int32)) (v := (.int (nar .byte (own_draw p2)))) (by rw [ej11]; exact Ar18.1) (State.isArrayOf_alike hZ.alike Ar18.2.1) Ar18.2.2 hin18 hat18 (g := (mkF m 126 #[.val (.int p1), .val (.int p2), .val (.int p3), .val (.int p4), .val (.int p5), .val (.ref b1), .val (.int fr), .val (.int tt), .val (.int z111l8), .unset] [(.int (1 : Int32)), (.ref b1)])) rfl rfl (hb hby at_126)) ?_
          show Gl _ _ _ _ _ _ _ (Tj11.setTop (mkF m 127 #[.val (.int p1), .val (.int p2), .val (.int p3), .val (.int p4), .val (.int p5), .val (.ref b1), .val (.int fr), .val (.int tt), .val (.int z111l8), .unset] [(.int (nar .byte (own_draw p2)))]))
          obtain ⟨_, _, ⟨T19, L19, k19, n19⟩, -, X19, ⟨Lc19, hQ19, l19, y19, z19⟩, st19⟩ := Jvm.LawKit.callS Xj11 hx (y := (⟨"com/example/ilsa/ilsa/io/LineFieldsFieldStartPinLaw", "ws", "(B)Z"⟩ : MethodName)) hown (mvT hZ (hw _ (List.mem_of_getElem? (i := 10) rfl))) (mvT hZ (hw _ (List.mem_of_getElem? (i := 11) rfl))) (mvT hZ (hw _ (List.mem_of_getElem? (i := 3) rfl))) (mvT hZ (hw _ (List.mem_of_getElem? (i := 12) rfl))) (by decide) (backOf (W := 0) (rm3 l Z a0 hw [] (nar .byte (own_draw p2)) h9 n0) hZ (hw _ (List.mem_of_getElem? (i := 12) rfl)) (hw _ (List.mem_of_getElem? (i := 3) rfl)) (by decide) (by decide)) (g := (mkF m 127 #[.val (.int p1), .val (.int p2), .val (.int p3), .val (.int p4), .val (.int p5), .val (.ref b1), .val (.int fr), .val (.int tt), .val (.int z111l8), .unset] [(.int (nar .byte (own_draw p2)))])) rfl (by rw [hml]; rfl) (argsL := [(.int (nar .byte (own_draw p2)))]) (rest := []) (lenOf pd_0 rfl) rfl (by show 2 * 0 + _ ≤ _; exact Nat.le_of_eq rfl) (hb hby at_127) (fun _ _ => ⟨rfl, ej11, (by decide : 1 + 0 ≤ _), (by decide : 4 + 0 ≤ _)⟩)
          dsimp only [Pt.U, Pt.locs, Pt.cells, Pt.slots] at X19 l19 y19 z19 st19 hQ19
          subst l19 y19 z19
          obtain ⟨rfl, N19q, e19⟩ := hQ19
          have N19 := Fr.app Nj11 N19q
          refine Gl.st st19 ?_
          show Gl _ _ _ _ _ _ _ (T19.setTop (mkF m 130 #[.val (.int p1), .val (.int p2), .val (.int p3), .val (.int p4), .val (.int p5), .val (.ref b1), .val (.int fr), .val (.int tt), .val (.int z111l8), .unset] [(.int (own_ws (nar .byte (own_draw p2))))]))
          by_cases hc130 : (own_ws (nar .byte (own_draw p2))) = (0 : Int32)
          · refine Gl.st (fun t k => XS.ifNo X19.here hx rfl (hb hby at_130) rfl ((if0 _ _).trans (teq hc130).2) k) ?_
            show Gl _ _ _ _ _ _ _ (T19.setTop (mkF m 133 #[.val (.int p1), .val (.int p2), .val (.int p3), .val (.int p4), .val (.int p5), .val (.ref b1), .val (.int fr), .val (.int tt), .val (.int z111l8), .unset] []))
            refine Gl.st (fun t k => XS.iconst X19.here hx rfl (hb hby at_133) k) ?_
            show Gl _ _ _ _ _ _ _ (T19.setTop (mkF m 134 #[.val (.int p1), .val (.int p2), .val (.int p3), .val (.int p4), .val (.int p5), .val (.ref b1), .val (.int fr), .val (.int tt), .val (.int z111l8), .unset] [(.int (1 : Int32))]))
            refine Gl.st (fun t k => XS.istore X19.here hx rfl (hb hby at_134) rfl (l' := #[.val (.int p1), .val (.int p2), .val (.int p3), .val (.int p4), .val (.int p5), .val (.ref b1), .val (.int fr), .val (.int tt), .val (.int (1 : Int32)), .unset]) rfl k) ?_
            show Gl _ _ _ _ _ _ _ (T19.setTop (mkF m 136 #[.val (.int p1), .val (.int p2), .val (.int p3), .val (.int p4), .val (.int p5), .val (.ref b1), .val (.int fr), .val (.int tt), .val (.int (1 : Int32)), .unset] []))
            exact J12 _ _ X19 e19 N19 _ (by simp only [if_neg hc114, if_pos hc120, if_pos hc130])
          · refine Gl.st (fun t k => XS.ifYes X19.here hx rfl (pc0 := 130) (pc' := 136) rfl (hb hby at_130) rfl ((if0 _ _).trans (feq hc130).2) (by decide) (by decide) k) ?_
            show Gl _ _ _ _ _ _ _ (T19.setTop (mkF m 136 #[.val (.int p1), .val (.int p2), .val (.int p3), .val (.int p4), .val (.int p5), .val (.ref b1), .val (.int fr), .val (.int tt), .val (.int z111l8), .unset] []))
            exact J12 _ _ X19 e19 N19 _ (by simp only [if_neg hc114, if_pos hc120, if_neg hc130])
        · refine Gl.st (fun t k => XS.icmpYes Xj11.here hx rfl (pc0 := 120) (pc' := 136) rfl (hb hby at_120) rfl (flt hc120).2.1 (by decide) (by decide) k) ?_
          show Gl _ _ _ _ _ _ _ (Tj11.setTop (mkF m 136 #[.val (.int p1), .val (.int p2), .val (.int p3), .val (.int p4), .val (.int p5), .val (.ref b1), .val (.int fr), .val (.int tt), .val (.int z111l8), .unset] []))
          exact J12 _ _ Xj11 ej11 Nj11 _ (by simp only [if_neg hc114, if_neg hc120])
    by_cases hc89 : (2 : Int32) < fr
    · refine Gl.st (fun t k => XS.icmpYes Xj10.here hx rfl (pc0 := 89) (pc' := 111) rfl (hb hby at_89) rfl (tlt hc89).1 (by decide) (by decide) k) ?_
      show Gl _ _ _ _ _ _ _ (Tj10.setTop (mkF m 111 #[.val (.int p1), .val (.int p2), .val (.int p3), .val (.int p4), .val (.int p5), .val (.ref b1), .val (.int fr), .val (.int tt), .val (.int z86l8), .unset] []))
      exact J11 _ _ Xj10 ej10 Nj10 _ (by simp only [if_pos hc89])
    · refine Gl.st (fun t k => XS.icmpNo Xj10.here hx rfl (hb hby at_89) rfl (flt hc89).1 k) ?_
      show Gl _ _ _ _ _ _ _ (Tj10.setTop (mkF m 92 #[.val (.int p1), .val (.int p2), .val (.int p3), .val (.int p4), .val (.int p5), .val (.ref b1), .val (.int fr), .val (.int tt), .val (.int z86l8), .unset] []))
      refine Gl.st (fun t k => XS.iconst Xj10.here hx rfl (hb hby at_92) k) ?_
      show Gl _ _ _ _ _ _ _ (Tj10.setTop (mkF m 93 #[.val (.int p1), .val (.int p2), .val (.int p3), .val (.int p4), .val (.int p5), .val (.ref b1), .val (.int fr), .val (.int tt), .val (.int z86l8), .unset] [(.int (2 : Int32))]))
      refine Gl.st (fun t k => XS.iload Xj10.here hx rfl (hb hby at_93) rfl  k) ?_
      show Gl _ _ _ _ _ _ _ (Tj10.setTop (mkF m 95 #[.val (.int p1), .val (.int p2), .val (.int p3), .val (.int p4), .val (.int p5), .val (.ref b1), .val (.int fr), .val (.int tt), .val (.int z86l8), .unset] [(.int tt), (.int (2 : Int32))]))
      by_cases hc95 : (2 : Int32) < tt
      · refine Gl.st (fun t k => XS.icmpNo Xj10.here hx rfl (hb hby at_95) rfl (tlt hc95).2.1 k) ?_
        show Gl _ _ _ _ _ _ _ (Tj10.setTop (mkF m 98 #[.val (.int p1), .val (.int p2), .val (.int p3), .val (.int p4), .val (.int p5), .val (.ref b1), .val (.int fr), .val (.int tt), .val (.int z86l8), .unset] []))
        refine Gl.st (fun t k => XS.aload Xj10.here hx rfl (hb hby at_98) rfl rfl k) ?_
        show Gl _ _ _ _ _ _ _ (Tj10.setTop (mkF m 100 #[.val (.int p1), .val (.int p2), .val (.int p3), .val (.int p4), .val (.int p5), .val (.ref b1), .val (.int fr), .val (.int tt), .val (.int z86l8), .unset] [(.ref b1)]))
        refine Gl.st (fun t k => XS.iconst Xj10.here hx rfl (hb hby at_100) k) ?_
        show Gl _ _ _ _ _ _ _ (Tj10.setTop (mkF m 101 #[.val (.int p1), .val (.int p2), .val (.int p3), .val (.int p4), .val (.int p5), .val (.ref b1), .val (.int fr), .val (.int tt), .val (.int z86l8), .unset] [(.int (2 : Int32)), (.ref b1)]))
        have Vx20 := V9
        obtain ⟨cl20, Ar20, qk20, S20, M20, H20, G20⟩ := Vx20
        have hin20 : ¬ ((2 : Int32) < 0 ∨ cl20.slots.size ≤ ((2 : Int32)).toNatClampNeg) := inb_of S20 ⟨by decide, by decide⟩
        have hat20 : cl20.slots[((2 : Int32)).toNatClampNeg]? = some (.int (nar .byte (own_draw p3))) := H20.at hin20 rfl
        refine Gl.st (Xj10.baloadBytes hx (j := (2 : Int32)) (v := (.int (nar .byte (own_draw p3)))) (by rw [ej10]; exact Ar20.1) (State.isArrayOf_alike hZ.alike Ar20.2.1) Ar20.2.2 hin20 hat20 (g := (mkF m 101 #[.val (.int p1), .val (.int p2), .val (.int p3), .val (.int p4), .val (.int p5), .val (.ref b1), .val (.int fr), .val (.int tt), .val (.int z86l8), .unset] [(.int (2 : Int32)), (.ref b1)])) rfl rfl (hb hby at_101)) ?_
        show Gl _ _ _ _ _ _ _ (Tj10.setTop (mkF m 102 #[.val (.int p1), .val (.int p2), .val (.int p3), .val (.int p4), .val (.int p5), .val (.ref b1), .val (.int fr), .val (.int tt), .val (.int z86l8), .unset] [(.int (nar .byte (own_draw p3)))]))
        obtain ⟨_, _, ⟨T21, L21, k21, n21⟩, -, X21, ⟨Lc21, hQ21, l21, y21, z21⟩, st21⟩ := Jvm.LawKit.callS Xj10 hx (y := (⟨"com/example/ilsa/ilsa/io/LineFieldsFieldStartPinLaw", "ws", "(B)Z"⟩ : MethodName)) hown (mvT hZ (hw _ (List.mem_of_getElem? (i := 10) rfl))) (mvT hZ (hw _ (List.mem_of_getElem? (i := 11) rfl))) (mvT hZ (hw _ (List.mem_of_getElem? (i := 3) rfl))) (mvT hZ (hw _ (List.mem_of_getElem? (i := 12) rfl))) (by decide) (backOf (W := 0) (rm3 l Z a0 hw [] (nar .byte (own_draw p3)) h9 n0) hZ (hw _ (List.mem_of_getElem? (i := 12) rfl)) (hw _ (List.mem_of_getElem? (i := 3) rfl)) (by decide) (by decide)) (g := (mkF m 102 #[.val (.int p1), .val (.int p2), .val (.int p3), .val (.int p4), .val (.int p5), .val (.ref b1), .val (.int fr), .val (.int tt), .val (.int z86l8), .unset] [(.int (nar .byte (own_draw p3)))])) rfl (by rw [hml]; rfl) (argsL := [(.int (nar .byte (own_draw p3)))]) (rest := []) (lenOf pd_0 rfl) rfl (by show 2 * 0 + _ ≤ _; exact Nat.le_of_eq rfl) (hb hby at_102) (fun _ _ => ⟨rfl, ej10, (by decide : 1 + 0 ≤ _), (by decide : 4 + 0 ≤ _)⟩)
        dsimp only [Pt.U, Pt.locs, Pt.cells, Pt.slots] at X21 l21 y21 z21 st21 hQ21
        subst l21 y21 z21
        obtain ⟨rfl, N21q, e21⟩ := hQ21
        have N21 := Fr.app Nj10 N21q
        refine Gl.st st21 ?_
        show Gl _ _ _ _ _ _ _ (T21.setTop (mkF m 105 #[.val (.int p1), .val (.int p2), .val (.int p3), .val (.int p4), .val (.int p5), .val (.ref b1), .val (.int fr), .val (.int tt), .val (.int z86l8), .unset] [(.int (own_ws (nar .byte (own_draw p3))))]))
        by_cases hc105 : (own_ws (nar .byte (own_draw p3))) = (0 : Int32)
        · refine Gl.st (fun t k => XS.ifNo X21.here hx rfl (hb hby at_105) rfl ((if0 _ _).trans (teq hc105).2) k) ?_
          show Gl _ _ _ _ _ _ _ (T21.setTop (mkF m 108 #[.val (.int p1), .val (.int p2), .val (.int p3), .val (.int p4), .val (.int p5), .val (.ref b1), .val (.int fr), .val (.int tt), .val (.int z86l8), .unset] []))
          refine Gl.st (fun t k => XS.iconst X21.here hx rfl (hb hby at_108) k) ?_
          show Gl _ _ _ _ _ _ _ (T21.setTop (mkF m 109 #[.val (.int p1), .val (.int p2), .val (.int p3), .val (.int p4), .val (.int p5), .val (.ref b1), .val (.int fr), .val (.int tt), .val (.int z86l8), .unset] [(.int (2 : Int32))]))
          refine Gl.st (fun t k => XS.istore X21.here hx rfl (hb hby at_109) rfl (l' := #[.val (.int p1), .val (.int p2), .val (.int p3), .val (.int p4), .val (.int p5), .val (.ref b1), .val (.int fr), .val (.int tt), .val (.int (2 : Int32)), .unset]) rfl k) ?_
          show Gl _ _ _ _ _ _ _ (T21.setTop (mkF m 111 #[.val (.int p1), .val (.int p2), .val (.int p3), .val (.int p4), .val (.int p5), .val (.ref b1), .val (.int fr), .val (.int tt), .val (.int (2 : Int32)), .unset] []))
          exact J11 _ _ X21 e21 N21 _ (by simp only [if_neg hc89, if_pos hc95, if_pos hc105])
        · refine Gl.st (fun t k => XS.ifYes X21.here hx rfl (pc0 := 105) (pc' := 111) rfl (hb hby at_105) rfl ((if0 _ _).trans (feq hc105).2) (by decide) (by decide) k) ?_
          show Gl _ _ _ _ _ _ _ (T21.setTop (mkF m 111 #[.val (.int p1), .val (.int p2), .val (.int p3), .val (.int p4), .val (.int p5), .val (.ref b1), .val (.int fr), .val (.int tt), .val (.int z86l8), .unset] []))
          exact J11 _ _ X21 e21 N21 _ (by simp only [if_neg hc89, if_pos hc95, if_neg hc105])
      · refine Gl.st (fun t k => XS.icmpYes Xj10.here hx rfl (pc0 := 95) (pc' := 111) rfl (hb hby at_95) rfl (flt hc95).2.1 (by decide) (by decide) k) ?_
        show Gl _ _ _ _ _ _ _ (Tj10.setTop (mkF m 111 #[.val (.int p1), .val (.int p2), .val (.int p3), .val (.int p4), .val (.int p5), .val (.ref b1), .val (.int fr), .val (.int tt), .val (.int z86l8), .unset] []))
        exact J11 _ _ Xj10 ej10 Nj10 _ (by simp only [if_neg hc89, if_neg hc95])
  by_cases hc64 : (3 : Int32) < fr
  · refine Gl.st (fun t k => XS.icmpYes X9.here hx rfl (pc0 := 64) (pc' := 86) rfl (hb hby at_64) rfl (tlt hc64).1 (by decide) (by decide) k) ?_
    show Gl _ _ _ _ _ _ _ (T9.setTop (mkF m 86 #[.val (.int p1), .val (.int p2), .val (.int p3), .val (.int p4), .val (.int p5), .val (.ref b1), .val (.int fr), .val (.int tt), .val (.int tt), .unset] []))
    exact J10 _ _ X9 e9 N9 _ (by simp only [if_pos hc64])
  · refine Gl.st (fun t k => XS.icmpNo X9.here hx rfl (hb hby at_64) rfl (flt hc64).1 k) ?_
    show Gl _ _ _ _ _ _ _ (T9.setTop (mkF m 67 #[.val (.int p1), .val (.int p2), .val (.int p3), .val (.int p4), .val (.int p5), .val (.ref b1), .val (.int fr), .val (.int tt), .val (.int tt), .unset] []))
    refine Gl.st (fun t k => XS.iconst X9.here hx rfl (hb hby at_67) k) ?_
    show Gl _ _ _ _ _ _ _ (T9.setTop (mkF m 68 #[.val (.int p1), .val (.int p2), .val (.int p3), .val (.int p4), .val (.int p5), .val (.ref b1), .val (.int fr), .val (.int tt), .val (.int tt), .unset] [(.int (3 : Int32))]))
    refine Gl.st (fun t k => XS.iload X9.here hx rfl (hb hby at_68) rfl  k) ?_
    show Gl _ _ _ _ _ _ _ (T9.setTop (mkF m 70 #[.val (.int p1), .val (.int p2), .val (.int p3), .val (.int p4), .val (.int p5), .val (.ref b1), .val (.int fr), .val (.int tt), .val (.int tt), .unset] [(.int tt), (.int (3 : Int32))]))
    by_cases hc70 : (3 : Int32) < tt
    · refine Gl.st (fun t k => XS.icmpNo X9.here hx rfl (hb hby at_70) rfl (tlt hc70).2.1 k) ?_
      show Gl _ _ _ _ _ _ _ (T9.setTop (mkF m 73 #[.val (.int p1), .val (.int p2), .val (.int p3), .val (.int p4), .val (.int p5), .val (.ref b1), .val (.int fr), .val (.int tt), .val (.int tt), .unset] []))
      refine Gl.st (fun t k => XS.aload X9.here hx rfl (hb hby at_73) rfl rfl k) ?_
      show Gl _ _ _ _ _ _ _ (T9.setTop (mkF m 75 #[.val (.int p1), .val (.int p2), .val (.int p3), .val (.int p4), .val (.int p5), .val (.ref b1), .val (.int fr), .val (.int tt), .val (.int tt), .unset] [(.ref b1)]))
      refine Gl.st (fun t k => XS.iconst X9.here hx rfl (hb hby at_75) k) ?_
      show Gl _ _ _ _ _ _ _ (T9.setTop (mkF m 76 #[.val (.int p1), .val (.int p2), .val (.int p3), .val (.int p4), .val (.int p5), .val (.ref b1), .val (.int fr), .val (.int tt), .val (.int tt), .unset] [(.int (3 : Int32)), (.ref b1)]))
      have Vx22 := V9
      obtain ⟨cl22, Ar22, qk22, S22, M22, H22, G22⟩ := Vx22
      have hin22 : ¬ ((3 : Int32) < 0 ∨ cl22.slots.size ≤ ((3 : Int32)).toNatClampNeg) := inb_of S22 ⟨by decide, by decide⟩
      have hat22 : cl22.slots[((3 : Int32)).toNatClampNeg]? = some (.int (nar .byte (own_draw p4))) := H22.at hin22 rfl
      refine Gl.st (X9.baloadBytes hx (j := (3 : Int32)) (v := (.int (nar .byte (own_draw p4)))) (by rw [e9]; exact Ar22.1) (State.isArrayOf_alike hZ.alike Ar22.2.1) Ar22.2.2 hin22 hat22 (g := (mkF m 76 #[.val (.int p1), .val (.int p2), .val (.int p3), .val (.int p4), .val (.int p5), .val (.ref b1), .val (.int fr), .val (.int tt), .val (.int tt), .unset] [(.int (3 : Int32)), (.ref b1)])) rfl rfl (hb hby at_76)) ?_
      show Gl _ _ _ _ _ _ _ (T9.setTop (mkF m 77 #[.val (.int p1), .val (.int p2), .val (.int p3), .val (.int p4), .val (.int p5), .val (.ref b1), .val (.int fr), .val (.int tt), .val (.int tt), .unset] [(.int (nar .byte (own_draw p4)))]))
      obtain ⟨_, _, ⟨T23, L23, k23, n23⟩, -, X23, ⟨Lc23, hQ23, l23, y23, z23⟩, st23⟩ := Jvm.LawKit.callS X9 hx (y := (⟨"com/example/ilsa/ilsa/io/LineFieldsFieldStartPinLaw", "ws", "(B)Z"⟩ : MethodName)) hown (mvT hZ (hw _ (List.mem_of_getElem? (i := 10) rfl))) (mvT hZ (hw _ (List.mem_of_getElem? (i := 11) rfl))) (mvT hZ (hw _ (List.mem_of_getElem? (i := 3) rfl))) (mvT hZ (hw _ (List.mem_of_getElem? (i := 12) rfl))) (by decide) (backOf (W := 0) (rm3 l Z a0 hw [] (nar .byte (own_draw p4)) h9 n0) hZ (hw _ (List.mem_of_getElem? (i := 12) rfl)) (hw _ (List.mem_of_getElem? (i := 3) rfl)) (by decide) (by decide)) (g := (mkF m 77 #[.val (.int p1), .val (.int p2), .val (.int p3), .val (.int p4), .val (.int p5), .val (.ref b1), .val (.int fr), .val (.int tt), .val (.int tt), .unset] [(.int (nar .byte (own_draw p4)))])) rfl (by rw [hml]; rfl) (argsL := [(.int (nar .byte (own_draw p4)))]) (rest := []) (lenOf pd_0 rfl) rfl (by show 2 * 0 + _ ≤ _; exact Nat.le_of_eq rfl) (hb hby at_77) (fun _ _ => ⟨rfl, e9, (by decide : 1 + 0 ≤ _), (by decide : 4 + 0 ≤ _)⟩)
      dsimp only [Pt.U, Pt.locs, Pt.cells, Pt.slots] at X23 l23 y23 z23 st23 hQ23
      subst l23 y23 z23
      obtain ⟨rfl, N23q, e23⟩ := hQ23
      have N23 := Fr.app N9 N23q
      refine Gl.st st23 ?_
      show Gl _ _ _ _ _ _ _ (T23.setTop (mkF m 80 #[.val (.int p1), .val (.int p2), .val (.int p3), .val (.int p4), .val (.int p5), .val (.ref b1), .val (.int fr), .val (.int tt), .val (.int tt), .unset] [(.int (own_ws (nar .byte (own_draw p4))))]))
      by_cases hc80 : (own_ws (nar .byte (own_draw p4))) = (0 : Int32)
      · refine Gl.st (fun t k => XS.ifNo X23.here hx rfl (hb hby at_80) rfl ((if0 _ _).trans (teq hc80).2) k) ?_
        show Gl _ _ _ _ _ _ _ (T23.setTop (mkF m 83 #[.val (.int p1), .val (.int p2), .val (.int p3), .val (.int p4), .val (.int p5), .val (.ref b1), .val (.int fr), .val (.int tt), .val (.int tt), .unset] []))
        refine Gl.st (fun t k => XS.iconst X23.here hx rfl (hb hby at_83) k) ?_
        show Gl _ _ _ _ _ _ _ (T23.setTop (mkF m 84 #[.val (.int p1), .val (.int p2), .val (.int p3), .val (.int p4), .val (.int p5), .val (.ref b1), .val (.int fr), .val (.int tt), .val (.int tt), .unset] [(.int (3 : Int32))]))
        refine Gl.st (fun t k => XS.istore X23.here hx rfl (hb hby at_84) rfl (l' := #[.val (.int p1), .val (.int p2), .val (.int p3), .val (.int p4), .val (.int p5), .val (.ref b1), .val (.int fr), .val (.int tt), .val (.int (3 : Int32)), .unset]) rfl k) ?_
        show Gl _ _ _ _ _ _ _ (T23.setTop (mkF m 86 #[.val (.int p1), .val (.int p2), .val (.int p3), .val (.int p4), .val (.int p5), .val (.ref b1), .val (.int fr), .val (.int tt), .val (.int (3 : Int32)), .unset] []))
        exact J10 _ _ X23 e23 N23 _ (by simp only [if_neg hc64, if_pos hc70, if_pos hc80])
      · refine Gl.st (fun t k => XS.ifYes X23.here hx rfl (pc0 := 80) (pc' := 86) rfl (hb hby at_80) rfl ((if0 _ _).trans (feq hc80).2) (by decide) (by decide) k) ?_
        show Gl _ _ _ _ _ _ _ (T23.setTop (mkF m 86 #[.val (.int p1), .val (.int p2), .val (.int p3), .val (.int p4), .val (.int p5), .val (.ref b1), .val (.int fr), .val (.int tt), .val (.int tt), .unset] []))
        exact J10 _ _ X23 e23 N23 _ (by simp only [if_neg hc64, if_pos hc70, if_neg hc80])
    · refine Gl.st (fun t k => XS.icmpYes X9.here hx rfl (pc0 := 70) (pc' := 86) rfl (hb hby at_70) rfl (flt hc70).2.1 (by decide) (by decide) k) ?_
      show Gl _ _ _ _ _ _ _ (T9.setTop (mkF m 86 #[.val (.int p1), .val (.int p2), .val (.int p3), .val (.int p4), .val (.int p5), .val (.ref b1), .val (.int fr), .val (.int tt), .val (.int tt), .unset] []))
      exact J10 _ _ X9 e9 N9 _ (by simp only [if_neg hc64, if_neg hc70])
set_option maxRecDepth 65536 in
set_option maxHeartbeats 40000000 in
theorem comes_1 {Post : Tables → Env → Array Value → State → Outcome → State → Prop} (hpost : ∀ tb e args s v u, (limb_1_1.after args s (.returned v) u = true ∧ limb_1_2.after args s (.returned v) u = true ∧ True) → FrameEnd s (.returned v) u (Jvm.fieldLocs frame_1_writes args s ++ Jvm.arrayLocs frame_1_arrays args s ++ Jvm.staticLocs frame_1_statics s) 16 128 → Post tb e args s (.returned v) u) :
    ArmFor flags0 classFile x code maxLocals ret World_1 tables_1 room_1 Calls_1 rest_1 Pre_1 Post := by
  intro l hfl _ _ p e ha hc hk s m args below hf hA hF happ hP
  obtain ⟨hcalls, hrest, hpre⟩ := hP
  obtain ⟨-, -, -, hnamed, -, -, -, hat⟩ := (Spec.applies_iff hf).mp happ
  obtain ⟨hg, hn⟩ := and_e (Cond.before_iff.mp (show (Jvm.Cond.and given_1 narrow_1).before args s = true from hpre))
  obtain ⟨hcnt, hr0⟩ := and_e hg
  obtain ⟨ha0, hr1⟩ := and_e hr0
  obtain ⟨ha1, hr2⟩ := and_e hr1
  obtain ⟨ha2, hr3⟩ := and_e hr2
  obtain ⟨ha3, hr4⟩ := and_e hr3
  have ha4 := hr4
  obtain ⟨w0, w1, w2, w3, w4, rfl⟩ : ∃ w0 w1 w2 w3 w4 : Value, args = #[w0, w1, w2, w3, w4] := by
    have hs : args.size = 5 := by simpa [Cond.value, given_1] using hcnt
    obtain ⟨L⟩ := args
    match L, hs with
    | [w0, w1, w2, w3, w4], _ => exact ⟨w0, w1, w2, w3, w4, rfl⟩
  have hw := fun d (hd : d ∈ tables_1) => atoms_spec (ws := Jvm.Cond.code x code maxLocals ret :: tables_1) hat d (List.mem_cons_of_mem _ hd)
  obtain ⟨i0, ei0⟩ := is_v ha0
  obtain rfl : w0 = (.int i0) := Option.some.inj ei0
  obtain ⟨i1, ei1⟩ := is_v ha1
  obtain rfl : w1 = (.int i1) := Option.some.inj ei1
  obtain ⟨i2, ei2⟩ := is_v ha2
  obtain rfl : w2 = (.int i2) := Option.some.inj ei2
  obtain ⟨i3, ei3⟩ := is_v ha3
  obtain rfl : w3 = (.int i3) := Option.some.inj ei3
  obtain ⟨i4, ei4⟩ := is_v ha4
  obtain rfl : w4 = (.int i4) := Option.some.inj ei4
  obtain ⟨n, o, h1, h2, h3, _, L, rfl, ⟨rfl, N⟩, hq⟩ := rm0 l s _ hw tables_1 i0 i1 i2 i3 i4 s.heap s.heap.size (Nat.le_refl _) p e ha hc hk s m _ below hf ((Spec.applies_iff_loose hf).mp happ).1 ⟨rfl, State.Warmed39.refl s, rfl⟩ trivial
  refine ⟨n, _, h1, h2, h3, hpost _ _ _ _ _ _ ⟨Cond.after_iff.mpr rfl, Cond.after_iff.mpr (eq_i res_at (Term.int_eval (1)) rfl), trivial⟩ ⟨hq.1, hq.2.1, (hq.2.2.sift fun y hy => Or.inr (N y hy)).mono (by decide) (by decide)⟩⟩
theorem main_1_1 : Claimed_1_1 := comes_1 fun _ _ _ _ _ _ h hF => ⟨h.1, hF⟩
theorem main_1_2 : Claimed_1_2 := comes_1 fun _ _ _ _ _ _ h hF => ⟨h.2.1, hF⟩
end Jvm.Pilot.@@N@@
namespace Jvm.Pilot.@@N@@
open Jvm Jvm.ClassFile Sem Op Lib Jvm.Free Jvm.Stand Jvm.Pilot.@@N@@.Jvm.D
/-! MADE BY PROGRAM (witnessworld.py) out of the Statement's table words and the real class files: 9 classes; the members and pool entries that the words name. The judged class is class 1, her method 3. -/
namespace start1
open Jvm.ClassFile
def u (s : String) : CpInfo := .utf8 (stringToUtf16 s)
/-- a pool by its gaps: so many unusable entries, then the entry; so many at the end -/
def gap : Nat → List CpInfo → List CpInfo
  | 0, r => r
  | n + 1, r => .unusable :: gap n r
def poolList (es : List (Nat × CpInfo)) (last : Nat) : List CpInfo := es.foldr (fun e r => gap e.1 (e.2 :: r)) (gap last [])
def pool (es : List (Nat × CpInfo)) (last : Nat) : Array CpInfo := ⟨poolList es last⟩
def fileOf (pool : Array CpInfo) (this : Nat) (attrs : Array Attribute := #[]) (ms : Array MethodInfo := #[]) (fl : Nat := 33) (sup : Nat := 0) (ifs : Array Nat := #[]) (fds : Array FieldInfo := #[]) : ClassFile where
  minorVersion := 0
  majorVersion := 65
  constantPool := pool
  accessFlags := fl
  thisClass := this
  superClass := sup
  interfaces := ifs
  fields := fds
  methods := ms
  attributes := attrs
def plain (name : String) (sup : Option ClassId) : Class where
  name := name
  kind := .ordinary
  loader := none
  accessFlags := 33
  super := sup
  interfaces := #[]
  cf := none
  fields := #[]
  methods := #[]
  instanceTypes := #[]
  staticTypes := #[]
  resolved := #[]
  callSites := []
  init := .initialized
  statics := none
  mirror := none

def pool0 : Array CpInfo := pool [(5, u "<init>"), (0, u "()V"), (1, .class_ 10), (1, u "java/lang/Object")] 113

def k0m0 : Method := { name := "<init>", desc := "()V", sig := { parameters := [], returnType := none }, accessFlags := 1, code := none }
/-- java/lang/Object -/
def k0 : Class := { plain "java/lang/Object" none with
  accessFlags := 33
  interfaces := #[]
  cf := some (fileOf pool0 8 #[] #[{ accessFlags := 1, nameIndex := 5, descriptorIndex := 6, attributes := #[] }] 33 0 #[] #[])
  fields := #[]
  methods := #[k0m0]
  instanceTypes := #[]
  staticTypes := #[]
  resolved := Array.replicate 124 none
  statics := none }

def pool1 : Array CpInfo := pool [(2, .class_ 4), (1, u "java/lang/Object"), (0, u "<init>"), (0, u "()V"), (0, .methodref 8 9), (0, .class_ 10), (0, .nameAndType 11 12), (0, u "com/example/ilsa/ilsa/io/LineFieldsFieldStartPinLaw"), (0, u "draw"), (0, u "(I)B"), (0, .integer 2147483647), (0, .methodref 8 15), (0, .nameAndType 16 17), (0, u "ws"), (0, u "(B)Z"), (0, .methodref 19 20), (0, .class_ 21), (0, .nameAndType 22 23), (0, u "com/example/ilsa/ilsa/io/LineFields"), (0, u "fieldStart"), (0, u "([BII)I"), (3, u "law"), (0, u "(IIIII)Z")] 4

def k1m0 : Method := { name := "<init>", desc := "()V", sig := { parameters := [], returnType := none }, accessFlags := 2, code := none }
def k1c1 : Code := { maxStack := 2, maxLocals := 2, code := method_2_code, exceptionTable := #[], attributes := #[] }
def k1m1 : Method := { name := "draw", desc := "(I)B", sig := { parameters := [.int], returnType := some .byte }, accessFlags := 10, code := some k1c1 }
def k1c2 : Code := { maxStack := 2, maxLocals := 1, code := method_3_code, exceptionTable := #[], attributes := #[] }
def k1m2 : Method := { name := "ws", desc := "(B)Z", sig := { parameters := [.byte], returnType := some .boolean }, accessFlags := 10, code := some k1c2 }
def k1c3 : Code := { maxStack := 4, maxLocals := 10, code := code, exceptionTable := #[], attributes := #[] }
def k1m3 : Method := { name := "law", desc := "(IIIII)Z", sig := { parameters := [.int, .int, .int, .int, .int], returnType := some .boolean }, accessFlags := 9, code := some k1c3 }
/-- com/example/ilsa/ilsa/io/LineFieldsFieldStartPinLaw -/
def k1 : Class := { plain "com/example/ilsa/ilsa/io/LineFieldsFieldStartPinLaw" (some 0) with
  accessFlags := 49
  interfaces := #[]
  cf := some (fileOf pool1 8 #[] #[{ accessFlags := 2, nameIndex := 5, descriptorIndex := 6, attributes := #[] }, { accessFlags := 10, nameIndex := 11, descriptorIndex := 12, attributes := #[] }, { accessFlags := 10, nameIndex := 16, descriptorIndex := 17, attributes := #[] }, { accessFlags := 9, nameIndex := 27, descriptorIndex := 28, attributes := #[] }] 49 2 #[] #[])
  fields := #[]
  methods := #[k1m0, k1m1, k1m2, k1m3]
  instanceTypes := #[]
  staticTypes := #[]
  resolved := Array.replicate 33 none
  statics := none }

def pool2 : Array CpInfo := pool [(2, .class_ 4), (1, u "java/lang/Object"), (0, u "<init>"), (0, u "()V"), (1, .class_ 10), (1, u "com/example/ilsa/ilsa/io/LineFields"), (0, u "fieldStart"), (0, u "([BII)I"), (0, .methodref 8 14), (0, .nameAndType 15 16), (0, u "isWhitespace"), (0, u "(B)Z")] 20

def k2m0 : Method := { name := "<init>", desc := "()V", sig := { parameters := [], returnType := none }, accessFlags := 2, code := none }
def k2c1 : Code := { maxStack := 2, maxLocals := 4, code := prog_5_method_3_code, exceptionTable := #[], attributes := #[] }
def k2m1 : Method := { name := "fieldStart", desc := "([BII)I", sig := { parameters := [(.array .byte), .int, .int], returnType := some .int }, accessFlags := 8, code := some k2c1 }
def k2c2 : Code := { maxStack := 2, maxLocals := 1, code := prog_5_method_6_code, exceptionTable := #[], attributes := #[] }
def k2m2 : Method := { name := "isWhitespace", desc := "(B)Z", sig := { parameters := [.byte], returnType := some .boolean }, accessFlags := 10, code := some k2c2 }
/-- com/example/ilsa/ilsa/io/LineFields -/
def k2 : Class := { plain "com/example/ilsa/ilsa/io/LineFields" (some 0) with
  accessFlags := 48
  interfaces := #[]
  cf := some (fileOf pool2 8 #[] #[{ accessFlags := 2, nameIndex := 5, descriptorIndex := 6, attributes := #[] }, { accessFlags := 8, nameIndex := 11, descriptorIndex := 12, attributes := #[] }, { accessFlags := 10, nameIndex := 15, descriptorIndex := 16, attributes := #[] }] 48 2 #[] #[])
  fields := #[]
  methods := #[k2m0, k2m1, k2m2]
  instanceTypes := #[]
  staticTypes := #[]
  resolved := Array.replicate 37 none
  statics := none }

def pool3 : Array CpInfo := pool [(1, u "java/lang/Cloneable"), (0, .class_ 1), (0, u "java/lang/Object"), (0, .class_ 3)] 3

/-- java/lang/Cloneable -/
def k3 : Class := { plain "java/lang/Cloneable" (some 0) with
  accessFlags := 1537
  interfaces := #[]
  cf := some (fileOf pool3 2 #[] #[] 1537 4 #[] #[])
  fields := #[]
  methods := #[]
  instanceTypes := #[]
  staticTypes := #[]
  resolved := Array.replicate 8 none
  statics := none }

def pool4 : Array CpInfo := pool [(1, u "java/io/Serializable"), (0, .class_ 1), (0, u "java/lang/Object"), (0, .class_ 3)] 3

/-- java/io/Serializable -/
def k4 : Class := { plain "java/io/Serializable" (some 0) with
  accessFlags := 1537
  interfaces := #[]
  cf := some (fileOf pool4 2 #[] #[] 1537 4 #[] #[])
  fields := #[]
  methods := #[]
  instanceTypes := #[]
  staticTypes := #[]
  resolved := Array.replicate 8 none
  statics := none }

/-- the primitive byte -/
def k5 : Class := { plain "byte" none with kind := .primitive 'B', accessFlags := 0x411 }
/-- [B -/
def k6 : Class := { plain "[B" (some 0) with kind := .array 5 .byte, interfaces := #[3, 4], accessFlags := 1041 }

/-- the primitive int -/
def k7 : Class := { plain "int" none with kind := .primitive 'I', accessFlags := 0x411 }
/-- [I -/
def k8 : Class := { plain "[I" (some 0) with kind := .array 7 .int, interfaces := #[3, 4], accessFlags := 1041 }

def heap : Heap := #[]
def classes : Array Class := #[k0, k1, k2, k3, k4, k5, k6, k7, k8]
def interned : List (Array UInt16 × Addr) := []
def slotsUsed : Nat := 0
def theMethod : MethodId := ⟨1, 3⟩
def args0 : Array Value := #[.int 5, .int 3, .int 0, .int (-7), .int 12345]
def aboutOver (below : List Frame) : State where
  vm := { classes := classes, interned := interned.toArray }
  heap := heap
  slotsUsed := slotsUsed
  threads := #[{ frames := .invoking theMethod args0 :: below }]
def below0 : List Frame := [.native { method := ⟨0, 0⟩, args := #[] }]
def about1 : State := aboutOver below0
def p0 : Program := .bare "" "" ""
def e0 : Env := launch0.env 0 0 0
theorem w_frames : about1.frames = Frame.invoking theMethod args0 :: below0 := rfl
set_option maxRecDepth 65536 in
theorem w_args : argsFit about1.vm theMethod args0 = true := by decide +kernel
set_option maxRecDepth 65536 in
theorem w_heap : heapFits about1 = true := by decide +kernel
set_option maxRecDepth 65536 in
theorem w_runnable : about1.curStatus? = some .runnable := by decide +kernel
set_option maxRecDepth 65536 in
theorem w_alone : about1.alone = true := by decide +kernel
set_option maxRecDepth 65536 in
theorem w_named : about1.methodNamed? x = some theMethod := by decide +kernel
set_option maxRecDepth 65536 in
theorem w_hears : about1.hears theMethod below0 = true := by decide +kernel
set_option maxRecDepth 65536 in
theorem w_ripe : about1.ripe theMethod args0 below0 = true := by decide +kernel
theorem w_running : about1.status = .running := rfl
set_option maxRecDepth 65536 in
theorem w_room : about1.hasRoom e0.platform room_1 = true :=
  launch0.hasRoom_least _ room_1 (by decide +kernel) (by decide +kernel) (by decide +kernel) (by decide +kernel) (by decide +kernel) (by decide +kernel)
theorem allAtoms_all (ts : List Jvm.Cond) (a : Array Jvm.Value) (st : Jvm.State) : (allAtoms ts).before a st = ts.all (fun c => c.before a st) := by
  induction ts with
  | nil => rfl
  | cons c t ih =>
    show (Jvm.Cond.and c (allAtoms t)).before a st = _
    rw [Jvm.Cond.before_and, ih, List.all_cons]
def words1 : List Jvm.Cond := Jvm.Cond.code x code maxLocals ret :: tables_1
/-- a 'code' word, met by the world's own term for the bytes: nothing is compared byte by byte -/
theorem code_word {y : MethodName} {bytes : ByteArray} {mx : Nat} {rt : Option FieldType} {a : Array Value} {s : State} {m : MethodId} {meth : Method} {c : Code} (h1 : s.methodNamed? y = some m) (h2 : s.vm.method? m = some meth) (h3 : meth.code = some c) (h4 : c.code = bytes)
    (h5 : (c.maxLocals == mx && c.exceptionTable.isEmpty && decide (c.maxStack ≤ mostOperands) && decide (meth.sig.returnType = rt) && !meth.locks && decide (parseMethodDescriptor y.desc = some meth.sig)) = true) : (Jvm.Cond.code y bytes mx rt).before a s = true := by
  simp only [Bool.and_eq_true, beq_iff_eq, Bool.not_eq_true', decide_eq_true_eq] at h5
  obtain ⟨⟨⟨⟨⟨g1, g2⟩, g3⟩, g4⟩, g5⟩, g6⟩ := h5
  simp [Cond.before, Cond.holds, Cond.value, h1, h2, h3, h4, g1, g2, g3, g4, g5, g6]
def isCode : Jvm.Cond → Bool
  | .code _ _ _ _ => true
  | _ => false
theorem all_split {L : List Jvm.Cond} {P : Jvm.Cond → Bool} (h1 : L.all (fun c => isCode c || P c) = true) (h2 : ∀ c ∈ L.filter isCode, P c = true) : L.all P = true := by
  refine List.all_eq_true.mpr fun c hc => ?_
  have h := List.all_eq_true.mp h1 c hc
  rcases Bool.eq_false_or_eq_true (isCode c) with hi | hi
  · exact h2 c (List.mem_filter.mpr ⟨hc, hi⟩)
  · simpa [hi] using h
set_option maxRecDepth 65536 in
theorem w_c0 : (Jvm.Cond.code x code maxLocals ret).before args0 about1 = true := code_word (m := ⟨1, 3⟩) (meth := k1m3) (c := k1c3) (by decide +kernel) rfl rfl rfl (by decide +kernel)
set_option maxRecDepth 65536 in
theorem w_c1 : (Jvm.Cond.code ({ cls := "com/example/ilsa/ilsa/io/LineFieldsFieldStartPinLaw", name := "draw", desc := "(I)B" } : Jvm.MethodName) method_2_code (2 : Nat) (Option.some Jvm.ClassFile.FieldType.byte)).before args0 about1 = true := code_word (m := ⟨1, 1⟩) (meth := k1m1) (c := k1c1) (by decide +kernel) rfl rfl rfl (by decide +kernel)
set_option maxRecDepth 65536 in
theorem w_c2 : (Jvm.Cond.code ({ cls := "com/example/ilsa/ilsa/io/LineFields", name := "fieldStart", desc := "([BII)I" } : Jvm.MethodName) prog_5_method_3_code (4 : Nat) (Option.some Jvm.ClassFile.FieldType.int)).before args0 about1 = true := code_word (m := ⟨2, 1⟩) (meth := k2m1) (c := k2c1) (by decide +kernel) rfl rfl rfl (by decide +kernel)
set_option maxRecDepth 65536 in
theorem w_c3 : (Jvm.Cond.code ({ cls := "com/example/ilsa/ilsa/io/LineFieldsFieldStartPinLaw", name := "ws", desc := "(B)Z" } : Jvm.MethodName) method_3_code (1 : Nat) (Option.some Jvm.ClassFile.FieldType.boolean)).before args0 about1 = true := code_word (m := ⟨1, 2⟩) (meth := k1m2) (c := k1c2) (by decide +kernel) rfl rfl rfl (by decide +kernel)
set_option maxRecDepth 65536 in
theorem w_c4 : (Jvm.Cond.code ({ cls := "com/example/ilsa/ilsa/io/LineFields", name := "isWhitespace", desc := "(B)Z" } : Jvm.MethodName) prog_5_method_6_code (1 : Nat) (Option.some Jvm.ClassFile.FieldType.boolean)).before args0 about1 = true := code_word (m := ⟨2, 2⟩) (meth := k2m2) (c := k2c2) (by decide +kernel) rfl rfl rfl (by decide +kernel)
def codes1 : List Jvm.Cond := [Jvm.Cond.code x code maxLocals ret, Jvm.Cond.code ({ cls := "com/example/ilsa/ilsa/io/LineFieldsFieldStartPinLaw", name := "draw", desc := "(I)B" } : Jvm.MethodName) method_2_code (2 : Nat) (Option.some Jvm.ClassFile.FieldType.byte), Jvm.Cond.code ({ cls := "com/example/ilsa/ilsa/io/LineFields", name := "fieldStart", desc := "([BII)I" } : Jvm.MethodName) prog_5_method_3_code (4 : Nat) (Option.some Jvm.ClassFile.FieldType.int), Jvm.Cond.code ({ cls := "com/example/ilsa/ilsa/io/LineFieldsFieldStartPinLaw", name := "ws", desc := "(B)Z" } : Jvm.MethodName) method_3_code (1 : Nat) (Option.some Jvm.ClassFile.FieldType.boolean), Jvm.Cond.code ({ cls := "com/example/ilsa/ilsa/io/LineFields", name := "isWhitespace", desc := "(B)Z" } : Jvm.MethodName) prog_5_method_6_code (1 : Nat) (Option.some Jvm.ClassFile.FieldType.boolean)]
set_option maxRecDepth 65536 in
theorem codes_eq : words1.filter isCode = codes1 := rfl
theorem w_codes : ∀ c ∈ words1.filter isCode, c.before args0 about1 = true := by
  rw [codes_eq]
  intro c hc
  simp only [codes1, List.mem_cons, List.not_mem_nil, or_false] at hc
  rcases hc with rfl | rfl | rfl | rfl | rfl
  · exact w_c0
  · exact w_c1
  · exact w_c2
  · exact w_c3
  · exact w_c4
set_option maxRecDepth 65536 in
theorem w_t1 : words1.all (fun c => isCode c || c.before args0 about1) = true := by decide +kernel
theorem w_tables : (allAtoms (Jvm.Cond.code x code maxLocals ret :: tables_1)).before args0 about1 = true := by
  rw [allAtoms_all]
  show words1.all (fun c => c.before args0 about1) = true
  refine all_split ?_ w_codes
  rw [w_t1]
set_option maxRecDepth 65536 in
theorem w_case : (Jvm.Cond.and given_1 narrow_1).before args0 about1 = true := by decide +kernel
theorem w_applies : (headSpec (Jvm.Cond.code x code maxLocals ret :: tables_1) room_1).applies x e0.platform about1 = true :=
  (Spec.applies_iff w_frames).mpr ⟨w_running, w_runnable, w_alone, w_named, w_hears, w_ripe, w_room, w_tables⟩
theorem atStart : AtStart classFile x code maxLocals ret World_1 tables_1 room_1 Calls_1 rest_1 Pre_1 launch0 p0 e0 about1 theMethod args0 below0 :=
  ⟨lists_1, trivial, launch0.admits_env _ _ _, launch0.least_env, fairChoices_fair.cas, fairChoices_fair.clock, w_frames, w_args, w_heap, w_applies, trivial, trivial, w_case⟩
end start1
theorem witness_1 : WitnessClaimed_1 := ⟨start1.p0, start1.e0, start1.about1, start1.theMethod, start1.args0, start1.below0, start1.atStart⟩
end Jvm.Pilot.@@N@@
