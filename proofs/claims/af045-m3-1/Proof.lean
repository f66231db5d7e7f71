import JvmDerived
import JvmDerived.Pilot.@@N@@Statement
import JvmDerived.Pilot.@@N@@Code
set_option linter.unusedVariables false
set_option linter.unusedSimpArgs false
namespace Jvm.RoadKit
open Sem ClassFile Op Lib Jvm.Stand Jvm.Free Jvm.LawKit
section New
variable {p : Program} {l : Launch} {e : Env} {R : Room} {s : State} {m : MethodId} {args : Array Value} {below : List Frame} {meth : Method} {c : Code} {T T' : State} {locs : List Loc} {cells slots cs sl : Nat} {Q : Option Value → Heap → List Loc → Prop}
/-- from T the run ends, and Q holds at the end -/
def Gl (p : Program) (e : Env) (below : List Frame) (s : State) (Q : Option Value → Heap → List Loc → Prop) (cs sl : Nat) (T : State) : Prop :=
  ∃ s₂ o, Steps p.tables e below T s₂ ∧ s₂.status = .running ∧ Ended s₂ below o ∧ ∃ v L, o = .returned v ∧ Q v s₂.heap L ∧ FrameEnd s o s₂ L cs sl
theorem Gl.st (k : ∀ t, Steps p.tables e below T' t → Steps p.tables e below T t) (h : Gl p e below s Q cs sl T') : Gl p e below s Q cs sl T := by
  obtain ⟨a, o, h1, r⟩ := h
  exact ⟨a, o, k _ h1, r⟩
theorem Gl.to (k : Steps p.tables e below T T') (h : Gl p e below s Q cs sl T') : Gl p e below s Q cs sl T := Gl.st (fun _ q => k.trans q) h
theorem Gl.fin (X : Stand p l e R s m args below meth c T locs cells slots) {v : Option Value} (hv : meth.sig.returnType = none → v = none) (hlk : meth.locks = false) (hQ : Q v T.heap locs) (hc : cells ≤ cs) (hs : slots ≤ sl) {S0 : State}
    (k : ∀ fs, (∀ (f : JFrame) (acts : List Action), f.method = m → f.locked = none → f.entered = [] → (doReturn e (T.setTop f) acts v).1 = T.setFrames fs) → Steps p.tables e below S0 (T.setFrames fs)) : Gl p e below s Q cs sl S0 := by
  obtain ⟨fs, hr, hrun, hended, hW, hsame⟩ := X.leave hv hlk
  exact ⟨_, _, k fs hr, hrun, hended, v, locs, rfl, hQ, ⟨_, rfl⟩, hW, hsame.mono hc hs⟩
theorem Gl.retN (X : Stand p l e R s m args below meth c T locs cells slots) (hx : p.tables.exec = Jvm.exec) (hlk : meth.locks = false) {pc : Nat} {Ls : Array Slot} {z : Int32} {t : FieldType} {rest : List Value} (hret : meth.sig.returnType = some t) (ht : t = .boolean ∨ t = .byte ∨ t = .char ∨ t = .short)
    (hd : decode c.code pc = .ok (.ireturn, 1)) (hQ : Q (some (.int (nar t z))) T.heap locs) (hc : cells ≤ cs) (hs : slots ≤ sl) : Gl p e below s Q cs sl (T.setTop (mkF m pc Ls (.int z :: rest))) :=
  Gl.fin X (fun h => by rw [hret] at h; cases h) hlk hQ hc hs fun _ hr => Jvm.RoadKit.retN X hx hret ht hd hr
theorem Gl.retI (X : Stand p l e R s m args below meth c T locs cells slots) (hx : p.tables.exec = Jvm.exec) (hlk : meth.locks = false) {pc : Nat} {Ls : Array Slot} {z : Int32} {rest : List Value} (hret : meth.sig.returnType = some .int)
    (hd : decode c.code pc = .ok (.ireturn, 1)) (hQ : Q (some (.int z)) T.heap locs) (hc : cells ≤ cs) (hs : slots ≤ sl) : Gl p e below s Q cs sl (T.setTop (mkF m pc Ls (.int z :: rest))) :=
  Gl.fin X (fun h => by rw [hret] at h; cases h) hlk hQ hc hs fun _ hr => retOut X hx hret rfl (Or.inl ⟨rfl, Or.inl rfl, z, rfl⟩) hd hr
theorem Gl.retJ (X : Stand p l e R s m args below meth c T locs cells slots) (hx : p.tables.exec = Jvm.exec) (hlk : meth.locks = false) {pc : Nat} {Ls : Array Slot} {z : Int64} {rest : List Value} (hret : meth.sig.returnType = some .long)
    (hd : decode c.code pc = .ok (.lreturn, 1)) (hQ : Q (some (.long z)) T.heap locs) (hc : cells ≤ cs) (hs : slots ≤ sl) : Gl p e below s Q cs sl (T.setTop (mkF m pc Ls (.long z :: rest))) :=
  Gl.fin X (fun h => by rw [hret] at h; cases h) hlk hQ hc hs fun _ hr => retOut X hx hret rfl (Or.inr (Or.inl ⟨rfl, rfl, z, rfl⟩)) hd hr
theorem Gl.retV (X : Stand p l e R s m args below meth c T locs cells slots) (hx : p.tables.exec = Jvm.exec) (hlk : meth.locks = false) {pc : Nat} {Ls : Array Slot} (hret : meth.sig.returnType = none)
    (hd : decode c.code pc = .ok (.return_, 1)) (hQ : Q none T.heap locs) (hc : cells ≤ cs) (hs : slots ≤ sl) : Gl p e below s Q cs sl (T.setTop (mkF m pc Ls [])) :=
  Gl.fin X (fun _ => rfl) hlk hQ hc hs fun _ hr => X.returnOut hx hret hd hr
/-- .. where String constants may have been interned -/
def GlW (p : Program) (e : Env) (below : List Frame) (s : State) (Q : Option Value → Heap → List Loc → Prop) (cs sl : Nat) (T : State) : Prop :=
  ∃ s₂ o, Steps p.tables e below T s₂ ∧ s₂.status = .running ∧ Ended s₂ below o ∧ ∃ v L, o = .returned v ∧ Q v s₂.heap L ∧ ReturnedEndW s o s₂ L cs sl
theorem GlW.st (k : ∀ t, Steps p.tables e below T' t → Steps p.tables e below T t) (h : GlW p e below s Q cs sl T') : GlW p e below s Q cs sl T := by
  obtain ⟨a, o, h1, r⟩ := h
  exact ⟨a, o, k _ h1, r⟩
theorem GlW.to (k : Steps p.tables e below T T') (h : GlW p e below s Q cs sl T') : GlW p e below s Q cs sl T := GlW.st (fun _ q => k.trans q) h
theorem GlW.retN {vm₁ : Vm} (X : Stand p l e R (s.setVm vm₁) m args below meth c T locs cells slots) (hx : p.tables.exec = Jvm.exec) {n : Nat} (hS : s.Since vm₁ n) (hn : n ≤ T.heap.size) (hlk : meth.locks = false) {pc : Nat} {Ls : Array Slot} {z : Int32} {t : FieldType} {rest : List Value} (hret : meth.sig.returnType = some t) (ht : t = .boolean ∨ t = .byte ∨ t = .char ∨ t = .short)
    (hd : decode c.code pc = .ok (.ireturn, 1)) (hQ : Q (some (.int (nar t z))) T.heap locs) (hc : cells ≤ cs) (hs : slots ≤ sl) : GlW p e below s Q cs sl (T.setTop (mkF m pc Ls (.int z :: rest))) := by
  obtain ⟨fs, hr, hrun, hended, h1, h2, h3, h4⟩ := X.leaveW hS hn (v := some (.int (nar t z))) (fun h => by rw [hret] at h; cases h) hlk
  exact ⟨_, _, Jvm.RoadKit.retN X hx hret ht hd hr, hrun, hended, _, locs, rfl, hQ, h1, h2, h3, h4.mono hc hs⟩
theorem lc_t {x y : Int64} (h : x < y) : ifCond.holds .lt (lcmpW x y) = true ∧ ifCond.holds .ge (lcmpW x y) = false ∧ ifCond.holds .gt (lcmpW y x) = true ∧ ifCond.holds .le (lcmpW y x) = false :=
  have a := tlt ((lw_lt x y).mpr h)
  have b := tlt ((lw_gt y x).mpr h)
  ⟨(if0 _ _).trans a.1, (if0 _ _).trans a.2.1, (if0 _ _).trans b.2.2.1, (if0 _ _).trans b.2.2.2⟩
theorem lc_f {x y : Int64} (h : ¬ x < y) : ifCond.holds .lt (lcmpW x y) = false ∧ ifCond.holds .ge (lcmpW x y) = true ∧ ifCond.holds .gt (lcmpW y x) = false ∧ ifCond.holds .le (lcmpW y x) = true :=
  have a := flt (fun q => h ((lw_lt x y).mp q))
  have b := flt (fun q => h ((lw_gt y x).mp q))
  ⟨(if0 _ _).trans a.1, (if0 _ _).trans a.2.1, (if0 _ _).trans b.2.2.1, (if0 _ _).trans b.2.2.2⟩
theorem le_t {x y : Int64} (h : x = y) : ifCond.holds .eq (lcmpW x y) = true ∧ ifCond.holds .ne (lcmpW x y) = false :=
  have a := teq ((lw_eq x y).mpr h)
  ⟨(if0 _ _).trans a.1, (if0 _ _).trans a.2⟩
theorem le_f {x y : Int64} (h : ¬ x = y) : ifCond.holds .eq (lcmpW x y) = false ∧ ifCond.holds .ne (lcmpW x y) = true :=
  have a := feq (fun q => h ((lw_eq x y).mp q))
  ⟨(if0 _ _).trans a.1, (if0 _ _).trans a.2⟩
end New
end Jvm.RoadKit
namespace Jvm.Pilot.@@N@@
open Jvm Jvm.ClassFile Sem Op Lib Jvm.Free Jvm.Stand Jvm.LawKit Jvm.RoadKit Bundle Jvm.Pilot.@@N@@.Jvm.D
def own_pick (p1 : Int32) : Int32 := (if (p1 &&& (3 : Int32)) = (0 : Int32) then (nar .byte (((8 : Int32) + ((p1 >>> ((2 : Int32) &&& 31)) &&& (7 : Int32))).toInt8.toInt32)) else (if (p1 &&& (3 : Int32)) = (1 : Int32) then (nar .byte (((30 : Int32) + ((p1 >>> ((2 : Int32) &&& 31)) &&& (7 : Int32))).toInt8.toInt32)) else (nar .byte ((p1 >>> ((2 : Int32) &&& 31)).toInt8.toInt32))))
theorem d1_0 : decode method_2_code 0 = .ok (.iload_n 0, 1) := by decide +kernel
theorem d1_1 : decode method_2_code 1 = .ok (.iconst 3, 1) := by decide +kernel
theorem d1_2 : decode method_2_code 2 = .ok (.iand, 1) := by decide +kernel
theorem d1_3 : decode method_2_code 3 = .ok (.istore_n 1, 1) := by decide +kernel
theorem d1_4 : decode method_2_code 4 = .ok (.iload_n 0, 1) := by decide +kernel
theorem d1_5 : decode method_2_code 5 = .ok (.iconst 2, 1) := by decide +kernel
theorem d1_6 : decode method_2_code 6 = .ok (.ishr, 1) := by decide +kernel
theorem d1_7 : decode method_2_code 7 = .ok (.istore_n 2, 1) := by decide +kernel
theorem d1_8 : decode method_2_code 8 = .ok (.iload_n 1, 1) := by decide +kernel
theorem d1_9 : decode method_2_code 9 = .ok (.ifCond .ne 12, 3) := by decide +kernel
theorem d1_12 : decode method_2_code 12 = .ok (.bipush 8, 2) := by decide +kernel
theorem d1_14 : decode method_2_code 14 = .ok (.iload_n 2, 1) := by decide +kernel
theorem d1_15 : decode method_2_code 15 = .ok (.bipush 7, 2) := by decide +kernel
theorem d1_17 : decode method_2_code 17 = .ok (.iand, 1) := by decide +kernel
theorem d1_18 : decode method_2_code 18 = .ok (.iadd, 1) := by decide +kernel
theorem d1_19 : decode method_2_code 19 = .ok (.i2b, 1) := by decide +kernel
theorem d1_20 : decode method_2_code 20 = .ok (.ireturn, 1) := by decide +kernel
theorem d1_21 : decode method_2_code 21 = .ok (.iload_n 1, 1) := by decide +kernel
theorem d1_22 : decode method_2_code 22 = .ok (.iconst 1, 1) := by decide +kernel
theorem d1_23 : decode method_2_code 23 = .ok (.if_icmp .ne 12, 3) := by decide +kernel
theorem d1_26 : decode method_2_code 26 = .ok (.bipush 30, 2) := by decide +kernel
theorem d1_28 : decode method_2_code 28 = .ok (.iload_n 2, 1) := by decide +kernel
theorem d1_29 : decode method_2_code 29 = .ok (.bipush 7, 2) := by decide +kernel
theorem d1_31 : decode method_2_code 31 = .ok (.iand, 1) := by decide +kernel
theorem d1_32 : decode method_2_code 32 = .ok (.iadd, 1) := by decide +kernel
theorem d1_33 : decode method_2_code 33 = .ok (.i2b, 1) := by decide +kernel
theorem d1_34 : decode method_2_code 34 = .ok (.ireturn, 1) := by decide +kernel
theorem d1_35 : decode method_2_code 35 = .ok (.iload_n 2, 1) := by decide +kernel
theorem d1_36 : decode method_2_code 36 = .ok (.i2b, 1) := by decide +kernel
theorem d1_37 : decode method_2_code 37 = .ok (.ireturn, 1) := by decide +kernel
theorem pf_0 : plainFor (⟨"com/example/ilsa/ilsa/io/LineFieldsRecordStartPinLaw", "pick", "(I)B"⟩ : MethodName) = true := by decide +kernel
def Q1 (Z : State) (p1 : Int32) (h0 : Heap) (n0 : Nat) (v : Option Value) (h : Heap) (L : List Loc) : Prop := v = some (.int (own_pick p1)) ∧ Fr n0 L ∧ h = h0
theorem ef_1 (m : MethodId) (p1 : Int32) : entryFrame m #[(.int p1)] 3 = mkF m 0 #[.val (.int p1), .unset, .unset] [] := by first | (simp [entryFrame, mkF, argsToLocals, Value.category]; done) | rfl
set_option maxRecDepth 65536 in
set_option maxHeartbeats 40000000 in
theorem rm1 (l : Launch) (Z : State) (a0 : Array Value) (hw : ∀ d ∈ tables_1, d.before a0 Z = true) (ws : List Jvm.Cond) (p1 : Int32) (h0 : Heap) (n0 : Nat) :
    MetFree l (⟨"com/example/ilsa/ilsa/io/LineFieldsRecordStartPinLaw", "pick", "(I)B"⟩ : MethodName) (head1 (Jvm.Cond.code (⟨"com/example/ilsa/ilsa/io/LineFieldsRecordStartPinLaw", "pick", "(I)B"⟩ : MethodName) method_2_code 3 (some .byte) :: ws) ({ frames := 0, cells := 0, slots := 0, locals := 0 } : Room)) (fun a U => a = #[(.int p1)] ∧ Z.Warmed39 U.vm ∧ U.heap = h0) (fun _ _ _ _ _ => True) (fun _ U o U' => ∃ v L, o = .returned v ∧ Q1 Z p1 h0 n0 v U'.heap L ∧ FrameEnd U o U' L ({ frames := 0, cells := 0, slots := 0, locals := 0 } : Room).cells ({ frames := 0, cells := 0, slots := 0, locals := 0 } : Room).slots) := by
  refine MetFree.of_bodySF pf_0 hisR ?_
  intro p e s m args below meth c s₁ Bd hml0 hP hK
  obtain ⟨rfl, hZ, hh⟩ := hP
  have hx := Bd.exec
  have hby := Bd.bytes
  have hlk : meth.locks = false := BodyLoose.notSynchronized Bd
  have hml : c.maxLocals = 3 := hml0
  have hown : s.vm.findClass "com/example/ilsa/ilsa/io/LineFieldsRecordStartPinLaw" = some m.cls := findClass_of_methodNamed Bd.named
  have hnm := (name_of_methodNamed Bd.named Bd.method).1
  have X0 : Stand p l e ({ frames := 0, cells := 0, slots := 0, locals := 0 } : Room) s m #[(.int p1)] below meth c s₁ [] 0 0 := Stand.of_body Bd
  have e0 : s₁.heap = h0 := by rw [← hh, Bd.state]; rfl
  have N0 := Fr.nil n0
  show Gl p e below s (Q1 Z p1 h0 n0) ({ frames := 0, cells := 0, slots := 0, locals := 0 } : Room).cells ({ frames := 0, cells := 0, slots := 0, locals := 0 } : Room).slots (s₁.setTop (entryFrame m #[(.int p1)] 3))
  rw [ef_1]
  show Gl _ _ _ _ _ _ _ (s₁.setTop (mkF m 0 #[.val (.int p1), .unset, .unset] []))
  refine Gl.st (fun t k => XS.iloadN X0.here hx rfl (hb hby d1_0) rfl  k) ?_
  show Gl _ _ _ _ _ _ _ (s₁.setTop (mkF m 1 #[.val (.int p1), .unset, .unset] [(.int p1)]))
  refine Gl.st (fun t k => XS.iconst X0.here hx rfl (hb hby d1_1) k) ?_
  show Gl _ _ _ _ _ _ _ (s₁.setTop (mkF m 2 #[.val (.int p1), .unset, .unset] [(.int (3 : Int32)), (.int p1)]))
  refine Gl.st (fun t k => XS.iand X0.here hx rfl (hb hby d1_2) rfl k) ?_
  show Gl _ _ _ _ _ _ _ (s₁.setTop (mkF m 3 #[.val (.int p1), .unset, .unset] [(.int (p1 &&& (3 : Int32)))]))
  refine Gl.st (fun t k => XS.istoreN X0.here hx rfl (hb hby d1_3) rfl (l' := #[.val (.int p1), .val (.int (p1 &&& (3 : Int32))), .unset]) rfl k) ?_
  show Gl _ _ _ _ _ _ _ (s₁.setTop (mkF m 4 #[.val (.int p1), .val (.int (p1 &&& (3 : Int32))), .unset] []))
  refine Gl.st (fun t k => XS.iloadN X0.here hx rfl (hb hby d1_4) rfl  k) ?_
  show Gl _ _ _ _ _ _ _ (s₁.setTop (mkF m 5 #[.val (.int p1), .val (.int (p1 &&& (3 : Int32))), .unset] [(.int p1)]))
  refine Gl.st (fun t k => XS.iconst X0.here hx rfl (hb hby d1_5) k) ?_
  show Gl _ _ _ _ _ _ _ (s₁.setTop (mkF m 6 #[.val (.int p1), .val (.int (p1 &&& (3 : Int32))), .unset] [(.int (2 : Int32)), (.int p1)]))
  refine Gl.st (fun t k => XS.ishr X0.here hx rfl (hb hby d1_6) rfl k) ?_
  show Gl _ _ _ _ _ _ _ (s₁.setTop (mkF m 7 #[.val (.int p1), .val (.int (p1 &&& (3 : Int32))), .unset] [(.int (p1 >>> ((2 : Int32) &&& 31)))]))
  refine Gl.st (fun t k => XS.istoreN X0.here hx rfl (hb hby d1_7) rfl (l' := #[.val (.int p1), .val (.int (p1 &&& (3 : Int32))), .val (.int (p1 >>> ((2 : Int32) &&& 31)))]) rfl k) ?_
  show Gl _ _ _ _ _ _ _ (s₁.setTop (mkF m 8 #[.val (.int p1), .val (.int (p1 &&& (3 : Int32))), .val (.int (p1 >>> ((2 : Int32) &&& 31)))] []))
  refine Gl.st (fun t k => XS.iloadN X0.here hx rfl (hb hby d1_8) rfl  k) ?_
  show Gl _ _ _ _ _ _ _ (s₁.setTop (mkF m 9 #[.val (.int p1), .val (.int (p1 &&& (3 : Int32))), .val (.int (p1 >>> ((2 : Int32) &&& 31)))] [(.int (p1 &&& (3 : Int32)))]))
  by_cases hc9 : (p1 &&& (3 : Int32)) = (0 : Int32)
  · refine Gl.st (fun t k => XS.ifNo X0.here hx rfl (hb hby d1_9) rfl ((if0 _ _).trans (teq hc9).2) k) ?_
    show Gl _ _ _ _ _ _ _ (s₁.setTop (mkF m 12 #[.val (.int p1), .val (.int (p1 &&& (3 : Int32))), .val (.int (p1 >>> ((2 : Int32) &&& 31)))] []))
    refine Gl.st (fun t k => XS.bipush X0.here hx rfl (hb hby d1_12) k) ?_
    show Gl _ _ _ _ _ _ _ (s₁.setTop (mkF m 14 #[.val (.int p1), .val (.int (p1 &&& (3 : Int32))), .val (.int (p1 >>> ((2 : Int32) &&& 31)))] [(.int (8 : Int32))]))
    refine Gl.st (fun t k => XS.iloadN X0.here hx rfl (hb hby d1_14) rfl  k) ?_
    show Gl _ _ _ _ _ _ _ (s₁.setTop (mkF m 15 #[.val (.int p1), .val (.int (p1 &&& (3 : Int32))), .val (.int (p1 >>> ((2 : Int32) &&& 31)))] [(.int (p1 >>> ((2 : Int32) &&& 31))), (.int (8 : Int32))]))
    refine Gl.st (fun t k => XS.bipush X0.here hx rfl (hb hby d1_15) k) ?_
    show Gl _ _ _ _ _ _ _ (s₁.setTop (mkF m 17 #[.val (.int p1), .val (.int (p1 &&& (3 : Int32))), .val (.int (p1 >>> ((2 : Int32) &&& 31)))] [(.int (7 : Int32)), (.int (p1 >>> ((2 : Int32) &&& 31))), (.int (8 : Int32))]))
    refine Gl.st (fun t k => XS.iand X0.here hx rfl (hb hby d1_17) rfl k) ?_
    show Gl _ _ _ _ _ _ _ (s₁.setTop (mkF m 18 #[.val (.int p1), .val (.int (p1 &&& (3 : Int32))), .val (.int (p1 >>> ((2 : Int32) &&& 31)))] [(.int ((p1 >>> ((2 : Int32) &&& 31)) &&& (7 : Int32))), (.int (8 : Int32))]))
    refine Gl.st (fun t k => XS.iadd X0.here hx rfl (hb hby d1_18) rfl k) ?_
    show Gl _ _ _ _ _ _ _ (s₁.setTop (mkF m 19 #[.val (.int p1), .val (.int (p1 &&& (3 : Int32))), .val (.int (p1 >>> ((2 : Int32) &&& 31)))] [(.int ((8 : Int32) + ((p1 >>> ((2 : Int32) &&& 31)) &&& (7 : Int32))))]))
    refine Gl.st (fun t k => XS.i2b X0.here hx rfl (hb hby d1_19) rfl k) ?_
    show Gl _ _ _ _ _ _ _ (s₁.setTop (mkF m 20 #[.val (.int p1), .val (.int (p1 &&& (3 : Int32))), .val (.int (p1 >>> ((2 : Int32) &&& 31)))] [(.int (((8 : Int32) + ((p1 >>> ((2 : Int32) &&& 31)) &&& (7 : Int32))).toInt8.toInt32))]))
    exact Gl.retN X0 hx hlk Bd.returns (by simp) (hb hby d1_20) (⟨congrArg (fun z => some (Value.int z)) (show (nar .byte (((8 : Int32) + ((p1 >>> ((2 : Int32) &&& 31)) &&& (7 : Int32))).toInt8.toInt32)) = own_pick p1 from by simp only [own_pick, if_pos hc9]), N0, e0⟩) (by decide) (by decide)
  · refine Gl.st (fun t k => XS.ifYes X0.here hx rfl (pc0 := 9) (pc' := 21) rfl (hb hby d1_9) rfl ((if0 _ _).trans (feq hc9).2) (by decide) (by decide) k) ?_
    show Gl _ _ _ _ _ _ _ (s₁.setTop (mkF m 21 #[.val (.int p1), .val (.int (p1 &&& (3 : Int32))), .val (.int (p1 >>> ((2 : Int32) &&& 31)))] []))
    refine Gl.st (fun t k => XS.iloadN X0.here hx rfl (hb hby d1_21) rfl  k) ?_
    show Gl _ _ _ _ _ _ _ (s₁.setTop (mkF m 22 #[.val (.int p1), .val (.int (p1 &&& (3 : Int32))), .val (.int (p1 >>> ((2 : Int32) &&& 31)))] [(.int (p1 &&& (3 : Int32)))]))
    refine Gl.st (fun t k => XS.iconst X0.here hx rfl (hb hby d1_22) k) ?_
    show Gl _ _ _ _ _ _ _ (s₁.setTop (mkF m 23 #[.val (.int p1), .val (.int (p1 &&& (3 : Int32))), .val (.int (p1 >>> ((2 : Int32) &&& 31)))] [(.int (1 : Int32)), (.int (p1 &&& (3 : Int32)))]))
    by_cases hc23 : (p1 &&& (3 : Int32)) = (1 : Int32)
    · refine Gl.st (fun t k => XS.icmpNo X0.here hx rfl (hb hby d1_23) rfl (teq hc23).2 k) ?_
      show Gl _ _ _ _ _ _ _ (s₁.setTop (mkF m 26 #[.val (.int p1), .val (.int (p1 &&& (3 : Int32))), .val (.int (p1 >>> ((2 : Int32) &&& 31)))] []))
      refine Gl.st (fun t k => XS.bipush X0.here hx rfl (hb hby d1_26) k) ?_
      show Gl _ _ _ _ _ _ _ (s₁.setTop (mkF m 28 #[.val (.int p1), .val (.int (p1 &&& (3 : Int32))), .val (.int (p1 >>> ((2 : Int32) &&& 31)))] [(.int (30 : Int32))]))
      refine Gl.st (fun t k => XS.iloadN X0.here hx rfl (hb hby d1_28) rfl  k) ?_
      show Gl _ _ _ _ _ _ _ (s₁.setTop (mkF m 29 #[.val (.int p1), .val (.int (p1 &&& (3 : Int32))), .val (.int (p1 >>> ((2 : Int32) &&& 31)))] [(.int (p1 >>> ((2 : Int32) &&& 31))), (.int (30 : Int32))]))
      refine Gl.st (fun t k => XS.bipush X0.here hx rfl (hb hby d1_29) k) ?_
      show Gl _ _ _ _ _ _ _ (s₁.setTop (mkF m 31 #[.val (.int p1), .val (.int (p1 &&& (3 : Int32))), .val (.int (p1 >>> ((2 : Int32) &&& 31)))] [(.int (7 : Int32)), (.int (p1 >>> ((2 : Int32) &&& 31))), (.int (30 : Int32))]))
      refine Gl.st (fun t k => XS.iand X0.here hx rfl (hb hby d1_31) rfl k) ?_
      show Gl _ _ _ _ _ _ _ (s₁.setTop (mkF m 32 #[.val (.int p1), .val (.int (p1 &&& (3 : Int32))), .val (.int (p1 >>> ((2 : Int32) &&& 31)))] [(.int ((p1 >>> ((2 : Int32) &&& 31)) &&& (7 : Int32))), (.int (30 : Int32))]))
      refine Gl.st (fun t k => XS.iadd X0.here hx rfl (hb hby d1_32) rfl k) ?_
      show Gl _ _ _ _ _ _ _ (s₁.setTop (mkF m 33 #[.val (.int p1), .val (.int (p1 &&& (3 : Int32))), .val (.int (p1 >>> ((2 : Int32) &&& 31)))] [(.int ((30 : Int32) + ((p1 >>> ((2 : Int32) &&& 31)) &&& (7 : Int32))))]))
      refine Gl.st (fun t k => XS.i2b X0.here hx rfl (hb hby d1_33) rfl k) ?_
      show Gl _ _ _ _ _ _ _ (s₁.setTop (mkF m 34 #[.val (.int p1), .val (.int (p1 &&& (3 : Int32))), .val (.int (p1 >>> ((2 : Int32) &&& 31)))] [(.int (((30 : Int32) + ((p1 >>> ((2 : Int32) &&& 31)) &&& (7 : Int32))).toInt8.toInt32))]))
      exact Gl.retN X0 hx hlk Bd.returns (by simp) (hb hby d1_34) (⟨congrArg (fun z => some (Value.int z)) (show (nar .byte (((30 : Int32) + ((p1 >>> ((2 : Int32) &&& 31)) &&& (7 : Int32))).toInt8.toInt32)) = own_pick p1 from by simp only [own_pick, if_neg hc9, if_pos hc23]), N0, e0⟩) (by decide) (by decide)
    · refine Gl.st (fun t k => XS.icmpYes X0.here hx rfl (pc0 := 23) (pc' := 35) rfl (hb hby d1_23) rfl (feq hc23).2 (by decide) (by decide) k) ?_
      show Gl _ _ _ _ _ _ _ (s₁.setTop (mkF m 35 #[.val (.int p1), .val (.int (p1 &&& (3 : Int32))), .val (.int (p1 >>> ((2 : Int32) &&& 31)))] []))
      refine Gl.st (fun t k => XS.iloadN X0.here hx rfl (hb hby d1_35) rfl  k) ?_
      show Gl _ _ _ _ _ _ _ (s₁.setTop (mkF m 36 #[.val (.int p1), .val (.int (p1 &&& (3 : Int32))), .val (.int (p1 >>> ((2 : Int32) &&& 31)))] [(.int (p1 >>> ((2 : Int32) &&& 31)))]))
      refine Gl.st (fun t k => XS.i2b X0.here hx rfl (hb hby d1_36) rfl k) ?_
      show Gl _ _ _ _ _ _ _ (s₁.setTop (mkF m 37 #[.val (.int p1), .val (.int (p1 &&& (3 : Int32))), .val (.int (p1 >>> ((2 : Int32) &&& 31)))] [(.int ((p1 >>> ((2 : Int32) &&& 31)).toInt8.toInt32))]))
      exact Gl.retN X0 hx hlk Bd.returns (by simp) (hb hby d1_37) (⟨congrArg (fun z => some (Value.int z)) (show (nar .byte ((p1 >>> ((2 : Int32) &&& 31)).toInt8.toInt32)) = own_pick p1 from by simp only [own_pick, if_neg hc9, if_neg hc23]), N0, e0⟩) (by decide) (by decide)
def own_min (p1 : Int32) (p2 : Int32) : Int32 := (if p2 < p1 then p2 else p1)
theorem d2_0 : decode jdk_29_method_69_code 0 = .ok (.iload_n 0, 1) := by decide +kernel
theorem d2_1 : decode jdk_29_method_69_code 1 = .ok (.iload_n 1, 1) := by decide +kernel
theorem d2_2 : decode jdk_29_method_69_code 2 = .ok (.if_icmp .gt 7, 3) := by decide +kernel
theorem d2_5 : decode jdk_29_method_69_code 5 = .ok (.iload_n 0, 1) := by decide +kernel
theorem d2_6 : decode jdk_29_method_69_code 6 = .ok (.goto 4, 3) := by decide +kernel
theorem d2_9 : decode jdk_29_method_69_code 9 = .ok (.iload_n 1, 1) := by decide +kernel
theorem d2_10 : decode jdk_29_method_69_code 10 = .ok (.ireturn, 1) := by decide +kernel
theorem pf_1 : plainFor (⟨"java/lang/Math", "min", "(II)I"⟩ : MethodName) = true := by decide +kernel
def Q2 (Z : State) (p1 : Int32) (p2 : Int32) (h0 : Heap) (n0 : Nat) (v : Option Value) (h : Heap) (L : List Loc) : Prop := v = some (.int (own_min p1 p2)) ∧ Fr n0 L ∧ h = h0
theorem ef_2 (m : MethodId) (p1 : Int32) (p2 : Int32) : entryFrame m #[(.int p1), (.int p2)] 2 = mkF m 0 #[.val (.int p1), .val (.int p2)] [] := by first | (simp [entryFrame, mkF, argsToLocals, Value.category]; done) | rfl
set_option maxRecDepth 65536 in
set_option maxHeartbeats 40000000 in
theorem rm2 (l : Launch) (Z : State) (a0 : Array Value) (hw : ∀ d ∈ tables_1, d.before a0 Z = true) (ws : List Jvm.Cond) (p1 : Int32) (p2 : Int32) (h0 : Heap) (n0 : Nat) :
    MetFree l (⟨"java/lang/Math", "min", "(II)I"⟩ : MethodName) (head1 (Jvm.Cond.code (⟨"java/lang/Math", "min", "(II)I"⟩ : MethodName) jdk_29_method_69_code 2 (some .int) :: ws) ({ frames := 0, cells := 0, slots := 0, locals := 0 } : Room)) (fun a U => a = #[(.int p1), (.int p2)] ∧ Z.Warmed39 U.vm ∧ U.heap = h0) (fun _ _ _ _ _ => True) (fun _ U o U' => ∃ v L, o = .returned v ∧ Q2 Z p1 p2 h0 n0 v U'.heap L ∧ FrameEnd U o U' L ({ frames := 0, cells := 0, slots := 0, locals := 0 } : Room).cells ({ frames := 0, cells := 0, slots := 0, locals := 0 } : Room).slots) := by
  refine MetFree.of_bodySF pf_1 hisR ?_
  intro p e s m args below meth c s₁ Bd hml0 hP hK
  obtain ⟨rfl, hZ, hh⟩ := hP
  have hx := Bd.exec
  have hby := Bd.bytes
  have hlk : meth.locks = false := BodyLoose.notSynchronized Bd
  have hml : c.maxLocals = 2 := hml0
  have hown : s.vm.findClass "java/lang/Math" = some m.cls := findClass_of_methodNamed Bd.named
  have hnm := (name_of_methodNamed Bd.named Bd.method).1
  have X0 : Stand p l e ({ frames := 0, cells := 0, slots := 0, locals := 0 } : Room) s m #[(.int p1), (.int p2)] below meth c s₁ [] 0 0 := Stand.of_body Bd
  have e0 : s₁.heap = h0 := by rw [← hh, Bd.state]; rfl
  have N0 := Fr.nil n0
  show Gl p e below s (Q2 Z p1 p2 h0 n0) ({ frames := 0, cells := 0, slots := 0, locals := 0 } : Room).cells ({ frames := 0, cells := 0, slots := 0, locals := 0 } : Room).slots (s₁.setTop (entryFrame m #[(.int p1), (.int p2)] 2))
  rw [ef_2]
  show Gl _ _ _ _ _ _ _ (s₁.setTop (mkF m 0 #[.val (.int p1), .val (.int p2)] []))
  refine Gl.st (fun t k => XS.iloadN X0.here hx rfl (hb hby d2_0) rfl  k) ?_
  show Gl _ _ _ _ _ _ _ (s₁.setTop (mkF m 1 #[.val (.int p1), .val (.int p2)] [(.int p1)]))
  refine Gl.st (fun t k => XS.iloadN X0.here hx rfl (hb hby d2_1) rfl  k) ?_
  show Gl _ _ _ _ _ _ _ (s₁.setTop (mkF m 2 #[.val (.int p1), .val (.int p2)] [(.int p2), (.int p1)]))
  by_cases hc2 : p2 < p1
  · refine Gl.st (fun t k => XS.icmpYes X0.here hx rfl (pc0 := 2) (pc' := 9) rfl (hb hby d2_2) rfl (tlt hc2).2.2.1 (by decide) (by decide) k) ?_
    show Gl _ _ _ _ _ _ _ (s₁.setTop (mkF m 9 #[.val (.int p1), .val (.int p2)] []))
    refine Gl.st (fun t k => XS.iloadN X0.here hx rfl (hb hby d2_9) rfl  k) ?_
    show Gl _ _ _ _ _ _ _ (s₁.setTop (mkF m 10 #[.val (.int p1), .val (.int p2)] [(.int p2)]))
    exact Gl.retI X0 hx hlk Bd.returns (hb hby d2_10) (⟨congrArg (fun z => some (Value.int z)) (show p2 = own_min p1 p2 from by simp only [own_min, if_pos hc2]), N0, e0⟩) (by decide) (by decide)
  · refine Gl.st (fun t k => XS.icmpNo X0.here hx rfl (hb hby d2_2) rfl (flt hc2).2.2.1 k) ?_
    show Gl _ _ _ _ _ _ _ (s₁.setTop (mkF m 5 #[.val (.int p1), .val (.int p2)] []))
    refine Gl.st (fun t k => XS.iloadN X0.here hx rfl (hb hby d2_5) rfl  k) ?_
    show Gl _ _ _ _ _ _ _ (s₁.setTop (mkF m 6 #[.val (.int p1), .val (.int p2)] [(.int p1)]))
    refine Gl.st (fun t k => XS.goto X0.here hx rfl (pc0 := 6) (pc' := 10) rfl (hb hby d2_6) (by decide) (by decide) k) ?_
    show Gl _ _ _ _ _ _ _ (s₁.setTop (mkF m 10 #[.val (.int p1), .val (.int p2)] [(.int p1)]))
    exact Gl.retI X0 hx hlk Bd.returns (hb hby d2_10) (⟨congrArg (fun z => some (Value.int z)) (show p1 = own_min p1 p2 from by simp only [own_min, if_neg hc2]), N0, e0⟩) (by decide) (by decide)
def own_max (p1 : Int32) (p2 : Int32) : Int32 := (if p1 < p2 then p2 else p1)
theorem d3_0 : decode jdk_29_method_65_code 0 = .ok (.iload_n 0, 1) := by decide +kernel
theorem d3_1 : decode jdk_29_method_65_code 1 = .ok (.iload_n 1, 1) := by decide +kernel
theorem d3_2 : decode jdk_29_method_65_code 2 = .ok (.if_icmp .lt 7, 3) := by decide +kernel
theorem d3_5 : decode jdk_29_method_65_code 5 = .ok (.iload_n 0, 1) := by decide +kernel
theorem d3_6 : decode jdk_29_method_65_code 6 = .ok (.goto 4, 3) := by decide +kernel
theorem d3_9 : decode jdk_29_method_65_code 9 = .ok (.iload_n 1, 1) := by decide +kernel
theorem d3_10 : decode jdk_29_method_65_code 10 = .ok (.ireturn, 1) := by decide +kernel
theorem pf_2 : plainFor (⟨"java/lang/Math", "max", "(II)I"⟩ : MethodName) = true := by decide +kernel
def Q3 (Z : State) (p1 : Int32) (p2 : Int32) (h0 : Heap) (n0 : Nat) (v : Option Value) (h : Heap) (L : List Loc) : Prop := v = some (.int (own_max p1 p2)) ∧ Fr n0 L ∧ h = h0
theorem ef_3 (m : MethodId) (p1 : Int32) (p2 : Int32) : entryFrame m #[(.int p1), (.int p2)] 2 = mkF m 0 #[.val (.int p1), .val (.int p2)] [] := by first | (simp [entryFrame, mkF, argsToLocals, Value.category]; done) | rfl
set_option maxRecDepth 65536 in
set_option maxHeartbeats 40000000 in
theorem rm3 (l : Launch) (Z : State) (a0 : Array Value) (hw : ∀ d ∈ tables_1, d.before a0 Z = true) (ws : List Jvm.Cond) (p1 : Int32) (p2 : Int32) (h0 : Heap) (n0 : Nat) :
    MetFree l (⟨"java/lang/Math", "max", "(II)I"⟩ : MethodName) (head1 (Jvm.Cond.code (⟨"java/lang/Math", "max", "(II)I"⟩ : MethodName) jdk_29_method_65_code 2 (some .int) :: ws) ({ frames := 0, cells := 0, slots := 0, locals := 0 } : Room)) (fun a U => a = #[(.int p1), (.int p2)] ∧ Z.Warmed39 U.vm ∧ U.heap = h0) (fun _ _ _ _ _ => True) (fun _ U o U' => ∃ v L, o = .returned v ∧ Q3 Z p1 p2 h0 n0 v U'.heap L ∧ FrameEnd U o U' L ({ frames := 0, cells := 0, slots := 0, locals := 0 } : Room).cells ({ frames := 0, cells := 0, slots := 0, locals := 0 } : Room).slots) := by
  refine MetFree.of_bodySF pf_2 hisR ?_
  intro p e s m args below meth c s₁ Bd hml0 hP hK
  obtain ⟨rfl, hZ, hh⟩ := hP
  have hx := Bd.exec
  have hby := Bd.bytes
  have hlk : meth.locks = false := BodyLoose.notSynchronized Bd
  have hml : c.maxLocals = 2 := hml0
  have hown : s.vm.findClass "java/lang/Math" = some m.cls := findClass_of_methodNamed Bd.named
  have hnm := (name_of_methodNamed Bd.named Bd.method).1
  have X0 : Stand p l e ({ frames := 0, cells := 0, slots := 0, locals := 0 } : Room) s m #[(.int p1), (.int p2)] below meth c s₁ [] 0 0 := Stand.of_body Bd
  have e0 : s₁.heap = h0 := by rw [← hh, Bd.state]; rfl
  have N0 := Fr.nil n0
  show Gl p e below s (Q3 Z p1 p2 h0 n0) ({ frames := 0, cells := 0, slots := 0, locals := 0 } : Room).cells ({ frames := 0, cells := 0, slots := 0, locals := 0 } : Room).slots (s₁.setTop (entryFrame m #[(.int p1), (.int p2)] 2))
  rw [ef_3]
  show Gl _ _ _ _ _ _ _ (s₁.setTop (mkF m 0 #[.val (.int p1), .val (.int p2)] []))
  refine Gl.st (fun t k => XS.iloadN X0.here hx rfl (hb hby d3_0) rfl  k) ?_
  show Gl _ _ _ _ _ _ _ (s₁.setTop (mkF m 1 #[.val (.int p1), .val (.int p2)] [(.int p1)]))
  refine Gl.st (fun t k => XS.iloadN X0.here hx rfl (hb hby d3_1) rfl  k) ?_
  show Gl _ _ _ _ _ _ _ (s₁.setTop (mkF m 2 #[.val (.int p1), .val (.int p2)] [(.int p2), (.int p1)]))
  by_cases hc2 : p1 < p2
  · refine Gl.st (fun t k => XS.icmpYes X0.here hx rfl (pc0 := 2) (pc' := 9) rfl (hb hby d3_2) rfl (tlt hc2).1 (by decide) (by decide) k) ?_
    show Gl _ _ _ _ _ _ _ (s₁.setTop (mkF m 9 #[.val (.int p1), .val (.int p2)] []))
    refine Gl.st (fun t k => XS.iloadN X0.here hx rfl (hb hby d3_9) rfl  k) ?_
    show Gl _ _ _ _ _ _ _ (s₁.setTop (mkF m 10 #[.val (.int p1), .val (.int p2)] [(.int p2)]))
    exact Gl.retI X0 hx hlk Bd.returns (hb hby d3_10) (⟨congrArg (fun z => some (Value.int z)) (show p2 = own_max p1 p2 from by simp only [own_max, if_pos hc2]), N0, e0⟩) (by decide) (by decide)
  · refine Gl.st (fun t k => XS.icmpNo X0.here hx rfl (hb hby d3_2) rfl (flt hc2).1 k) ?_
    show Gl _ _ _ _ _ _ _ (s₁.setTop (mkF m 5 #[.val (.int p1), .val (.int p2)] []))
    refine Gl.st (fun t k => XS.iloadN X0.here hx rfl (hb hby d3_5) rfl  k) ?_
    show Gl _ _ _ _ _ _ _ (s₁.setTop (mkF m 6 #[.val (.int p1), .val (.int p2)] [(.int p1)]))
    refine Gl.st (fun t k => XS.goto X0.here hx rfl (pc0 := 6) (pc' := 10) rfl (hb hby d3_6) (by decide) (by decide) k) ?_
    show Gl _ _ _ _ _ _ _ (s₁.setTop (mkF m 10 #[.val (.int p1), .val (.int p2)] [(.int p1)]))
    exact Gl.retI X0 hx hlk Bd.returns (hb hby d3_10) (⟨congrArg (fun z => some (Value.int z)) (show p1 = own_max p1 p2 from by simp only [own_max, if_neg hc2]), N0, e0⟩) (by decide) (by decide)
def own_ws (p1 : Int32) : Int32 := (if (p1 &&& (255 : Int32)) = (32 : Int32) then (nar .boolean (1 : Int32)) else (if (p1 &&& (255 : Int32)) = (9 : Int32) then (nar .boolean (1 : Int32)) else (if (p1 &&& (255 : Int32)) = (10 : Int32) then (nar .boolean (1 : Int32)) else (if (p1 &&& (255 : Int32)) = (11 : Int32) then (nar .boolean (1 : Int32)) else (if (p1 &&& (255 : Int32)) = (12 : Int32) then (nar .boolean (1 : Int32)) else (if (p1 &&& (255 : Int32)) = (13 : Int32) then (nar .boolean (1 : Int32)) else (nar .boolean (0 : Int32))))))))
theorem d7_0 : decode method_3_code 0 = .ok (.iload_n 0, 1) := by decide +kernel
theorem d7_1 : decode method_3_code 1 = .ok (.sipush 255, 3) := by decide +kernel
theorem d7_4 : decode method_3_code 4 = .ok (.iand, 1) := by decide +kernel
theorem d7_5 : decode method_3_code 5 = .ok (.istore_n 1, 1) := by decide +kernel
theorem d7_6 : decode method_3_code 6 = .ok (.iload_n 1, 1) := by decide +kernel
theorem d7_7 : decode method_3_code 7 = .ok (.bipush 32, 2) := by decide +kernel
theorem d7_9 : decode method_3_code 9 = .ok (.if_icmp .eq 33, 3) := by decide +kernel
theorem d7_12 : decode method_3_code 12 = .ok (.iload_n 1, 1) := by decide +kernel
theorem d7_13 : decode method_3_code 13 = .ok (.bipush 9, 2) := by decide +kernel
theorem d7_15 : decode method_3_code 15 = .ok (.if_icmp .eq 27, 3) := by decide +kernel
theorem d7_18 : decode method_3_code 18 = .ok (.iload_n 1, 1) := by decide +kernel
theorem d7_19 : decode method_3_code 19 = .ok (.bipush 10, 2) := by decide +kernel
theorem d7_21 : decode method_3_code 21 = .ok (.if_icmp .eq 21, 3) := by decide +kernel
theorem d7_24 : decode method_3_code 24 = .ok (.iload_n 1, 1) := by decide +kernel
theorem d7_25 : decode method_3_code 25 = .ok (.bipush 11, 2) := by decide +kernel
theorem d7_27 : decode method_3_code 27 = .ok (.if_icmp .eq 15, 3) := by decide +kernel
theorem d7_30 : decode method_3_code 30 = .ok (.iload_n 1, 1) := by decide +kernel
theorem d7_31 : decode method_3_code 31 = .ok (.bipush 12, 2) := by decide +kernel
theorem d7_33 : decode method_3_code 33 = .ok (.if_icmp .eq 9, 3) := by decide +kernel
theorem d7_36 : decode method_3_code 36 = .ok (.iload_n 1, 1) := by decide +kernel
theorem d7_37 : decode method_3_code 37 = .ok (.bipush 13, 2) := by decide +kernel
theorem d7_39 : decode method_3_code 39 = .ok (.if_icmp .ne 7, 3) := by decide +kernel
theorem d7_42 : decode method_3_code 42 = .ok (.iconst 1, 1) := by decide +kernel
theorem d7_43 : decode method_3_code 43 = .ok (.goto 4, 3) := by decide +kernel
theorem d7_46 : decode method_3_code 46 = .ok (.iconst 0, 1) := by decide +kernel
theorem d7_47 : decode method_3_code 47 = .ok (.ireturn, 1) := by decide +kernel
theorem pf_3 : plainFor (⟨"com/example/ilsa/ilsa/io/LineFieldsRecordStartPinLaw", "ws", "(B)Z"⟩ : MethodName) = true := by decide +kernel
def Q7 (Z : State) (p1 : Int32) (h0 : Heap) (n0 : Nat) (v : Option Value) (h : Heap) (L : List Loc) : Prop := v = some (.int (own_ws p1)) ∧ Fr n0 L ∧ h = h0
theorem ef_7 (m : MethodId) (p1 : Int32) : entryFrame m #[(.int p1)] 2 = mkF m 0 #[.val (.int p1), .unset] [] := by first | (simp [entryFrame, mkF, argsToLocals, Value.category]; done) | rfl
set_option maxRecDepth 65536 in
set_option maxHeartbeats 40000000 in
theorem rm7 (l : Launch) (Z : State) (a0 : Array Value) (hw : ∀ d ∈ tables_1, d.before a0 Z = true) (ws : List Jvm.Cond) (p1 : Int32) (h0 : Heap) (n0 : Nat) :
    MetFree l (⟨"com/example/ilsa/ilsa/io/LineFieldsRecordStartPinLaw", "ws", "(B)Z"⟩ : MethodName) (head1 (Jvm.Cond.code (⟨"com/example/ilsa/ilsa/io/LineFieldsRecordStartPinLaw", "ws", "(B)Z"⟩ : MethodName) method_3_code 2 (some .boolean) :: ws) ({ frames := 0, cells := 0, slots := 0, locals := 0 } : Room)) (fun a U => a = #[(.int p1)] ∧ Z.Warmed39 U.vm ∧ U.heap = h0) (fun _ _ _ _ _ => True) (fun _ U o U' => ∃ v L, o = .returned v ∧ Q7 Z p1 h0 n0 v U'.heap L ∧ FrameEnd U o U' L ({ frames := 0, cells := 0, slots := 0, locals := 0 } : Room).cells ({ frames := 0, cells := 0, slots := 0, locals := 0 } : Room).slots) := by
  refine MetFree.of_bodySF pf_3 hisR ?_
  intro p e s m args below meth c s₁ Bd hml0 hP hK
  obtain ⟨rfl, hZ, hh⟩ := hP
  have hx := Bd.exec
  have hby := Bd.bytes
  have hlk : meth.locks = false := BodyLoose.notSynchronized Bd
  have hml : c.maxLocals = 2 := hml0
  have hown : s.vm.findClass "com/example/ilsa/ilsa/io/LineFieldsRecordStartPinLaw" = some m.cls := findClass_of_methodNamed Bd.named
  have hnm := (name_of_methodNamed Bd.named Bd.method).1
  have X0 : Stand p l e ({ frames := 0, cells := 0, slots := 0, locals := 0 } : Room) s m #[(.int p1)] below meth c s₁ [] 0 0 := Stand.of_body Bd
  have e0 : s₁.heap = h0 := by rw [← hh, Bd.state]; rfl
  have N0 := Fr.nil n0
  show Gl p e below s (Q7 Z p1 h0 n0) ({ frames := 0, cells := 0, slots := 0, locals := 0 } : Room).cells ({ frames := 0, cells := 0, slots := 0, locals := 0 } : Room).slots (s₁.setTop (entryFrame m #[(.int p1)] 2))
  rw [ef_7]
  show Gl _ _ _ _ _ _ _ (s₁.setTop (mkF m 0 #[.val (.int p1), .unset] []))
  refine Gl.st (fun t k => XS.iloadN X0.here hx rfl (hb hby d7_0) rfl  k) ?_
  show Gl _ _ _ _ _ _ _ (s₁.setTop (mkF m 1 #[.val (.int p1), .unset] [(.int p1)]))
  refine Gl.st (fun t k => XS.sipush X0.here hx rfl (hb hby d7_1) k) ?_
  show Gl _ _ _ _ _ _ _ (s₁.setTop (mkF m 4 #[.val (.int p1), .unset] [(.int (255 : Int32)), (.int p1)]))
  refine Gl.st (fun t k => XS.iand X0.here hx rfl (hb hby d7_4) rfl k) ?_
  show Gl _ _ _ _ _ _ _ (s₁.setTop (mkF m 5 #[.val (.int p1), .unset] [(.int (p1 &&& (255 : Int32)))]))
  refine Gl.st (fun t k => XS.istoreN X0.here hx rfl (hb hby d7_5) rfl (l' := #[.val (.int p1), .val (.int (p1 &&& (255 : Int32)))]) rfl k) ?_
  show Gl _ _ _ _ _ _ _ (s₁.setTop (mkF m 6 #[.val (.int p1), .val (.int (p1 &&& (255 : Int32)))] []))
  refine Gl.st (fun t k => XS.iloadN X0.here hx rfl (hb hby d7_6) rfl  k) ?_
  show Gl _ _ _ _ _ _ _ (s₁.setTop (mkF m 7 #[.val (.int p1), .val (.int (p1 &&& (255 : Int32)))] [(.int (p1 &&& (255 : Int32)))]))
  refine Gl.st (fun t k => XS.bipush X0.here hx rfl (hb hby d7_7) k) ?_
  show Gl _ _ _ _ _ _ _ (s₁.setTop (mkF m 9 #[.val (.int p1), .val (.int (p1 &&& (255 : Int32)))] [(.int (32 : Int32)), (.int (p1 &&& (255 : Int32)))]))
  by_cases hc9 : (p1 &&& (255 : Int32)) = (32 : Int32)
  · refine Gl.st (fun t k => XS.icmpYes X0.here hx rfl (pc0 := 9) (pc' := 42) rfl (hb hby d7_9) rfl (teq hc9).1 (by decide) (by decide) k) ?_
    show Gl _ _ _ _ _ _ _ (s₁.setTop (mkF m 42 #[.val (.int p1), .val (.int (p1 &&& (255 : Int32)))] []))
    refine Gl.st (fun t k => XS.iconst X0.here hx rfl (hb hby d7_42) k) ?_
    show Gl _ _ _ _ _ _ _ (s₁.setTop (mkF m 43 #[.val (.int p1), .val (.int (p1 &&& (255 : Int32)))] [(.int (1 : Int32))]))
    refine Gl.st (fun t k => XS.goto X0.here hx rfl (pc0 := 43) (pc' := 47) rfl (hb hby d7_43) (by decide) (by decide) k) ?_
    show Gl _ _ _ _ _ _ _ (s₁.setTop (mkF m 47 #[.val (.int p1), .val (.int (p1 &&& (255 : Int32)))] [(.int (1 : Int32))]))
    exact Gl.retN X0 hx hlk Bd.returns (by simp) (hb hby d7_47) (⟨congrArg (fun z => some (Value.int z)) (show (nar .boolean (1 : Int32)) = own_ws p1 from by simp only [own_ws, if_pos hc9]), N0, e0⟩) (by decide) (by decide)
  · refine Gl.st (fun t k => XS.icmpNo X0.here hx rfl (hb hby d7_9) rfl (feq hc9).1 k) ?_
    show Gl _ _ _ _ _ _ _ (s₁.setTop (mkF m 12 #[.val (.int p1), .val (.int (p1 &&& (255 : Int32)))] []))
    refine Gl.st (fun t k => XS.iloadN X0.here hx rfl (hb hby d7_12) rfl  k) ?_
    show Gl _ _ _ _ _ _ _ (s₁.setTop (mkF m 13 #[.val (.int p1), .val (.int (p1 &&& (255 : Int32)))] [(.int (p1 &&& (255 : Int32)))]))
    refine Gl.st (fun t k => XS.bipush X0.here hx rfl (hb hby d7_13) k) ?_
    show Gl _ _ _ _ _ _ _ (s₁.setTop (mkF m 15 #[.val (.int p1), .val (.int (p1 &&& (255 : Int32)))] [(.int (9 : Int32)), (.int (p1 &&& (255 : Int32)))]))
    by_cases hc15 : (p1 &&& (255 : Int32)) = (9 : Int32)
    · refine Gl.st (fun t k => XS.icmpYes X0.here hx rfl (pc0 := 15) (pc' := 42) rfl (hb hby d7_15) rfl (teq hc15).1 (by decide) (by decide) k) ?_
      show Gl _ _ _ _ _ _ _ (s₁.setTop (mkF m 42 #[.val (.int p1), .val (.int (p1 &&& (255 : Int32)))] []))
      refine Gl.st (fun t k => XS.iconst X0.here hx rfl (hb hby d7_42) k) ?_
      show Gl _ _ _ _ _ _ _ (s₁.setTop (mkF m 43 #[.val (.int p1), .val (.int (p1 &&& (255 : Int32)))] [(.int (1 : Int32))]))
      refine Gl.st (fun t k => XS.goto X0.here hx rfl (pc0 := 43) (pc' := 47) rfl (hb hby d7_43) (by decide) (by decide) k) ?_
      show Gl _ _ _ _ _ _ _ (s₁.setTop (mkF m 47 #[.val (.int p1), .val (.int (p1 &&& (255 : Int32)))] [(.int (1 : Int32))]))
      exact Gl.retN X0 hx hlk Bd.returns (by simp) (hb hby d7_47) (⟨congrArg (fun z => some (Value.int z)) (show (nar .boolean (1 : Int32)) = own_ws p1 from by simp only [own_ws, if_neg hc9, if_pos hc15]), N0, e0⟩) (by decide) (by decide)
    · refine Gl.st (fun t k => XS.icmpNo X0.here hx rfl (hb hby d7_15) rfl (feq hc15).1 k) ?_
      show Gl _ _ _ _ _ _ _ (s₁.setTop (mkF m 18 #[.val (.int p1), .val (.int (p1 &&& (255 : Int32)))] []))
      refine Gl.st (fun t k => XS.iloadN X0.here hx rfl (hb hby d7_18) rfl  k) ?_
      show Gl _ _ _ _ _ _ _ (s₁.setTop (mkF m 19 #[.val (.int p1), .val (.int (p1 &&& (255 : Int32)))] [(.int (p1 &&& (255 : Int32)))]))
      refine Gl.st (fun t k => XS.bipush X0.here hx rfl (hb hby d7_19) k) ?_
      show Gl _ _ _ _ _ _ _ (s₁.setTop (mkF m 21 #[.val (.int p1), .val (.int (p1 &&& (255 : Int32)))] [(.int (10 : Int32)), (.int (p1 &&& (255 : Int32)))]))
      by_cases hc21 : (p1 &&& (255 : Int32)) = (10 : Int32)
      · refine Gl.st (fun t k => XS.icmpYes X0.here hx rfl (pc0 := 21) (pc' := 42) rfl (hb hby d7_21) rfl (teq hc21).1 (by decide) (by decide) k) ?_
        show Gl _ _ _ _ _ _ _ (s₁.setTop (mkF m 42 #[.val (.int p1), .val (.int (p1 &&& (255 : Int32)))] []))
        refine Gl.st (fun t k => XS.iconst X0.here hx rfl (hb hby d7_42) k) ?_
        show Gl _ _ _ _ _ _ _ (s₁.setTop (mkF m 43 #[.val (.int p1), .val (.int (p1 &&& (255 : Int32)))] [(.int (1 : Int32))]))
        refine Gl.st (fun t k => XS.goto X0.here hx rfl (pc0 := 43) (pc' := 47) rfl (hb hby d7_43) (by decide) (by decide) k) ?_
        show Gl _ _ _ _ _ _ _ (s₁.setTop (mkF m 47 #[.val (.int p1), .val (.int (p1 &&& (255 : Int32)))] [(.int (1 : Int32))]))
        exact Gl.retN X0 hx hlk Bd.returns (by simp) (hb hby d7_47) (⟨congrArg (fun z => some (Value.int z)) (show (nar .boolean (1 : Int32)) = own_ws p1 from by simp only [own_ws, if_neg hc9, if_neg hc15, if_pos hc21]), N0, e0⟩) (by decide) (by decide)
      · refine Gl.st (fun t k => XS.icmpNo X0.here hx rfl (hb hby d7_21) rfl (feq hc21).1 k) ?_
        show Gl _ _ _ _ _ _ _ (s₁.setTop (mkF m 24 #[.val (.int p1), .val (.int (p1 &&& (255 : Int32)))] []))
        refine Gl.st (fun t k => XS.iloadN X0.here hx rfl (hb hby d7_24) rfl  k) ?_
        show Gl _ _ _ _ _ _ _ (s₁.setTop (mkF m 25 #[.val (.int p1), .val (.int (p1 &&& (255 : Int32)))] [(.int (p1 &&& (255 : Int32)))]))
        refine Gl.st (fun t k => XS.bipush X0.here hx rfl (hb hby d7_25) k) ?_
        show Gl _ _ _ _ _ _ _ (s₁.setTop (mkF m 27 #[.val (.int p1), .val (.int (p1 &&& (255 : Int32)))] [(.int (11 : Int32)), (.int (p1 &&& (255 : Int32)))]))
        by_cases hc27 : (p1 &&& (255 : Int32)) = (11 : Int32)
        · refine Gl.st (fun t k => XS.icmpYes X0.here hx rfl (pc0 := 27) (pc' := 42) rfl (hb hby d7_27) rfl (teq hc27).1 (by decide) (by decide) k) ?_
          show Gl _ _ _ _ _ _ _ (s₁.setTop (mkF m 42 #[.val (.int p1), .val (.int (p1 &&& (255 : Int32)))] []))
          refine Gl.st (fun t k => XS.iconst X0.here hx rfl (hb hby d7_42) k) ?_
          show Gl _ _ _ _ _ _ _ (s₁.setTop (mkF m 43 #[.val (.int p1), .val (.int (p1 &&& (255 : Int32)))] [(.int (1 : Int32))]))
          refine Gl.st (fun t k => XS.goto X0.here hx rfl (pc0 := 43) (pc' := 47) rfl (hb hby d7_43) (by decide) (by decide) k) ?_
          show Gl _ _ _ _ _ _ _ (s₁.setTop (mkF m 47 #[.val (.int p1), .val (.int (p1 &&& (255 : Int32)))] [(.int (1 : Int32))]))
          exact Gl.retN X0 hx hlk Bd.returns (by simp) (hb hby d7_47) (⟨congrArg (fun z => some (Value.int z)) (show (nar .boolean (1 : Int32)) = own_ws p1 from by simp only [own_ws, if_neg hc9, if_neg hc15, if_neg hc21, if_pos hc27]), N0, e0⟩) (by decide) (by decide)
        · refine Gl.st (fun t k => XS.icmpNo X0.here hx rfl (hb hby d7_27) rfl (feq hc27).1 k) ?_
          show Gl _ _ _ _ _ _ _ (s₁.setTop (mkF m 30 #[.val (.int p1), .val (.int (p1 &&& (255 : Int32)))] []))
          refine Gl.st (fun t k => XS.iloadN X0.here hx rfl (hb hby d7_30) rfl  k) ?_
          show Gl _ _ _ _ _ _ _ (s₁.setTop (mkF m 31 #[.val (.int p1), .val (.int (p1 &&& (255 : Int32)))] [(.int (p1 &&& (255 : Int32)))]))
          refine Gl.st (fun t k => XS.bipush X0.here hx rfl (hb hby d7_31) k) ?_
          show Gl _ _ _ _ _ _ _ (s₁.setTop (mkF m 33 #[.val (.int p1), .val (.int (p1 &&& (255 : Int32)))] [(.int (12 : Int32)), (.int (p1 &&& (255 : Int32)))]))
          by_cases hc33 : (p1 &&& (255 : Int32)) = (12 : Int32)
          · refine Gl.st (fun t k => XS.icmpYes X0.here hx rfl (pc0 := 33) (pc' := 42) rfl (hb hby d7_33) rfl (teq hc33).1 (by decide) (by decide) k) ?_
            show Gl _ _ _ _ _ _ _ (s₁.setTop (mkF m 42 #[.val (.int p1), .val (.int (p1 &&& (255 : Int32)))] []))
            refine Gl.st (fun t k => XS.iconst X0.here hx rfl (hb hby d7_42) k) ?_
            show Gl _ _ _ _ _ _ _ (s₁.setTop (mkF m 43 #[.val (.int p1), .val (.int (p1 &&& (255 : Int32)))] [(.int (1 : Int32))]))
            refine Gl.st (fun t k => XS.goto X0.here hx rfl (pc0 := 43) (pc' := 47) rfl (hb hby d7_43) (by decide) (by decide) k) ?_
            show Gl _ _ _ _ _ _ _ (s₁.setTop (mkF m 47 #[.val (.int p1), .val (.int (p1 &&& (255 : Int32)))] [(.int (1 : Int32))]))
            exact Gl.retN X0 hx hlk Bd.returns (by simp) (hb hby d7_47) (⟨congrArg (fun z => some (Value.int z)) (show (nar .boolean (1 : Int32)) = own_ws p1 from by simp only [own_ws, if_neg hc9, if_neg hc15, if_neg hc21, if_neg hc27, if_pos hc33]), N0, e0⟩) (by decide) (by decide)
          · refine Gl.st (fun t k => XS.icmpNo X0.here hx rfl (hb hby d7_33) rfl (feq hc33).1 k) ?_
            show Gl _ _ _ _ _ _ _ (s₁.setTop (mkF m 36 #[.val (.int p1), .val (.int (p1 &&& (255 : Int32)))] []))
            refine Gl.st (fun t k => XS.iloadN X0.here hx rfl (hb hby d7_36) rfl  k) ?_
            show Gl _ _ _ _ _ _ _ (s₁.setTop (mkF m 37 #[.val (.int p1), .val (.int (p1 &&& (255 : Int32)))] [(.int (p1 &&& (255 : Int32)))]))
            refine Gl.st (fun t k => XS.bipush X0.here hx rfl (hb hby d7_37) k) ?_
            show Gl _ _ _ _ _ _ _ (s₁.setTop (mkF m 39 #[.val (.int p1), .val (.int (p1 &&& (255 : Int32)))] [(.int (13 : Int32)), (.int (p1 &&& (255 : Int32)))]))
            by_cases hc39 : (p1 &&& (255 : Int32)) = (13 : Int32)
            · refine Gl.st (fun t k => XS.icmpNo X0.here hx rfl (hb hby d7_39) rfl (teq hc39).2 k) ?_
              show Gl _ _ _ _ _ _ _ (s₁.setTop (mkF m 42 #[.val (.int p1), .val (.int (p1 &&& (255 : Int32)))] []))
              refine Gl.st (fun t k => XS.iconst X0.here hx rfl (hb hby d7_42) k) ?_
              show Gl _ _ _ _ _ _ _ (s₁.setTop (mkF m 43 #[.val (.int p1), .val (.int (p1 &&& (255 : Int32)))] [(.int (1 : Int32))]))
              refine Gl.st (fun t k => XS.goto X0.here hx rfl (pc0 := 43) (pc' := 47) rfl (hb hby d7_43) (by decide) (by decide) k) ?_
              show Gl _ _ _ _ _ _ _ (s₁.setTop (mkF m 47 #[.val (.int p1), .val (.int (p1 &&& (255 : Int32)))] [(.int (1 : Int32))]))
              exact Gl.retN X0 hx hlk Bd.returns (by simp) (hb hby d7_47) (⟨congrArg (fun z => some (Value.int z)) (show (nar .boolean (1 : Int32)) = own_ws p1 from by simp only [own_ws, if_neg hc9, if_neg hc15, if_neg hc21, if_neg hc27, if_neg hc33, if_pos hc39]), N0, e0⟩) (by decide) (by decide)
            · refine Gl.st (fun t k => XS.icmpYes X0.here hx rfl (pc0 := 39) (pc' := 46) rfl (hb hby d7_39) rfl (feq hc39).2 (by decide) (by decide) k) ?_
              show Gl _ _ _ _ _ _ _ (s₁.setTop (mkF m 46 #[.val (.int p1), .val (.int (p1 &&& (255 : Int32)))] []))
              refine Gl.st (fun t k => XS.iconst X0.here hx rfl (hb hby d7_46) k) ?_
              show Gl _ _ _ _ _ _ _ (s₁.setTop (mkF m 47 #[.val (.int p1), .val (.int (p1 &&& (255 : Int32)))] [(.int (0 : Int32))]))
              exact Gl.retN X0 hx hlk Bd.returns (by simp) (hb hby d7_47) (⟨congrArg (fun z => some (Value.int z)) (show (nar .boolean (0 : Int32)) = own_ws p1 from by simp only [own_ws, if_neg hc9, if_neg hc15, if_neg hc21, if_neg hc27, if_neg hc33, if_neg hc39]), N0, e0⟩) (by decide) (by decide)
def own_isws (p1 : Int32) : Int32 := (if p1 = (32 : Int32) then (nar .boolean (1 : Int32)) else (if p1 < (9 : Int32) then (nar .boolean (0 : Int32)) else (if (13 : Int32) < p1 then (nar .boolean (0 : Int32)) else (nar .boolean (1 : Int32)))))
theorem d8_0 : decode prog_5_method_6_code 0 = .ok (.iload_n 0, 1) := by decide +kernel
theorem d8_1 : decode prog_5_method_6_code 1 = .ok (.bipush 32, 2) := by decide +kernel
theorem d8_3 : decode prog_5_method_6_code 3 = .ok (.if_icmp .eq 15, 3) := by decide +kernel
theorem d8_6 : decode prog_5_method_6_code 6 = .ok (.iload_n 0, 1) := by decide +kernel
theorem d8_7 : decode prog_5_method_6_code 7 = .ok (.bipush 9, 2) := by decide +kernel
theorem d8_9 : decode prog_5_method_6_code 9 = .ok (.if_icmp .lt 13, 3) := by decide +kernel
theorem d8_12 : decode prog_5_method_6_code 12 = .ok (.iload_n 0, 1) := by decide +kernel
theorem d8_13 : decode prog_5_method_6_code 13 = .ok (.bipush 13, 2) := by decide +kernel
theorem d8_15 : decode prog_5_method_6_code 15 = .ok (.if_icmp .gt 7, 3) := by decide +kernel
theorem d8_18 : decode prog_5_method_6_code 18 = .ok (.iconst 1, 1) := by decide +kernel
theorem d8_19 : decode prog_5_method_6_code 19 = .ok (.goto 4, 3) := by decide +kernel
theorem d8_22 : decode prog_5_method_6_code 22 = .ok (.iconst 0, 1) := by decide +kernel
theorem d8_23 : decode prog_5_method_6_code 23 = .ok (.ireturn, 1) := by decide +kernel
theorem pf_4 : plainFor (⟨"com/example/ilsa/ilsa/io/LineFields", "isWhitespace", "(B)Z"⟩ : MethodName) = true := by decide +kernel
def Q8 (Z : State) (p1 : Int32) (h0 : Heap) (n0 : Nat) (v : Option Value) (h : Heap) (L : List Loc) : Prop := v = some (.int (own_isws p1)) ∧ Fr n0 L ∧ h = h0
theorem ef_8 (m : MethodId) (p1 : Int32) : entryFrame m #[(.int p1)] 1 = mkF m 0 #[.val (.int p1)] [] := by first | (simp [entryFrame, mkF, argsToLocals, Value.category]; done) | rfl
set_option maxRecDepth 65536 in
set_option maxHeartbeats 40000000 in
theorem rm8 (l : Launch) (Z : State) (a0 : Array Value) (hw : ∀ d ∈ tables_1, d.before a0 Z = true) (ws : List Jvm.Cond) (p1 : Int32) (h0 : Heap) (n0 : Nat) :
    MetFree l (⟨"com/example/ilsa/ilsa/io/LineFields", "isWhitespace", "(B)Z"⟩ : MethodName) (head1 (Jvm.Cond.code (⟨"com/example/ilsa/ilsa/io/LineFields", "isWhitespace", "(B)Z"⟩ : MethodName) prog_5_method_6_code 1 (some .boolean) :: ws) ({ frames := 0, cells := 0, slots := 0, locals := 0 } : Room)) (fun a U => a = #[(.int p1)] ∧ Z.Warmed39 U.vm ∧ U.heap = h0) (fun _ _ _ _ _ => True) (fun _ U o U' => ∃ v L, o = .returned v ∧ Q8 Z p1 h0 n0 v U'.heap L ∧ FrameEnd U o U' L ({ frames := 0, cells := 0, slots := 0, locals := 0 } : Room).cells ({ frames := 0, cells := 0, slots := 0, locals := 0 } : Room).slots) := by
  refine MetFree.of_bodySF pf_4 hisR ?_
  intro p e s m args below meth c s₁ Bd hml0 hP hK
  obtain ⟨rfl, hZ, hh⟩ := hP
  have hx := Bd.exec
  have hby := Bd.bytes
  have hlk : meth.locks = false := BodyLoose.notSynchronized Bd
  have hml : c.maxLocals = 1 := hml0
  have hown : s.vm.findClass "com/example/ilsa/ilsa/io/LineFields" = some m.cls := findClass_of_methodNamed Bd.named
  have hnm := (name_of_methodNamed Bd.named Bd.method).1
  have X0 : Stand p l e ({ frames := 0, cells := 0, slots := 0, locals := 0 } : Room) s m #[(.int p1)] below meth c s₁ [] 0 0 := Stand.of_body Bd
  have e0 : s₁.heap = h0 := by rw [← hh, Bd.state]; rfl
  have N0 := Fr.nil n0
  show Gl p e below s (Q8 Z p1 h0 n0) ({ frames := 0, cells := 0, slots := 0, locals := 0 } : Room).cells ({ frames := 0, cells := 0, slots := 0, locals := 0 } : Room).slots (s₁.setTop (entryFrame m #[(.int p1)] 1))
  rw [ef_8]
  show Gl _ _ _ _ _ _ _ (s₁.setTop (mkF m 0 #[.val (.int p1)] []))
  refine Gl.st (fun t k => XS.iloadN X0.here hx rfl (hb hby d8_0) rfl  k) ?_
  show Gl _ _ _ _ _ _ _ (s₁.setTop (mkF m 1 #[.val (.int p1)] [(.int p1)]))
  refine Gl.st (fun t k => XS.bipush X0.here hx rfl (hb hby d8_1) k) ?_
  show Gl _ _ _ _ _ _ _ (s₁.setTop (mkF m 3 #[.val (.int p1)] [(.int (32 : Int32)), (.int p1)]))
  by_cases hc3 : p1 = (32 : Int32)
  · refine Gl.st (fun t k => XS.icmpYes X0.here hx rfl (pc0 := 3) (pc' := 18) rfl (hb hby d8_3) rfl (teq hc3).1 (by decide) (by decide) k) ?_
    show Gl _ _ _ _ _ _ _ (s₁.setTop (mkF m 18 #[.val (.int p1)] []))
    refine Gl.st (fun t k => XS.iconst X0.here hx rfl (hb hby d8_18) k) ?_
    show Gl _ _ _ _ _ _ _ (s₁.setTop (mkF m 19 #[.val (.int p1)] [(.int (1 : Int32))]))
    refine Gl.st (fun t k => XS.goto X0.here hx rfl (pc0 := 19) (pc' := 23) rfl (hb hby d8_19) (by decide) (by decide) k) ?_
    show Gl _ _ _ _ _ _ _ (s₁.setTop (mkF m 23 #[.val (.int p1)] [(.int (1 : Int32))]))
    exact Gl.retN X0 hx hlk Bd.returns (by simp) (hb hby d8_23) (⟨congrArg (fun z => some (Value.int z)) (show (nar .boolean (1 : Int32)) = own_isws p1 from by simp only [own_isws, if_pos hc3]), N0, e0⟩) (by decide) (by decide)
  · refine Gl.st (fun t k => XS.icmpNo X0.here hx rfl (hb hby d8_3) rfl (feq hc3).1 k) ?_
    show Gl _ _ _ _ _ _ _ (s₁.setTop (mkF m 6 #[.val (.int p1)] []))
    refine Gl.st (fun t k => XS.iloadN X0.here hx rfl (hb hby d8_6) rfl  k) ?_
    show Gl _ _ _ _ _ _ _ (s₁.setTop (mkF m 7 #[.val (.int p1)] [(.int p1)]))
    refine Gl.st (fun t k => XS.bipush X0.here hx rfl (hb hby d8_7) k) ?_
    show Gl _ _ _ _ _ _ _ (s₁.setTop (mkF m 9 #[.val (.int p1)] [(.int (9 : Int32)), (.int p1)]))
    by_cases hc9 : p1 < (9 : Int32)
    · refine Gl.st (fun t k => XS.icmpYes X0.here hx rfl (pc0 := 9) (pc' := 22) rfl (hb hby d8_9) rfl (tlt hc9).1 (by decide) (by decide) k) ?_
      show Gl _ _ _ _ _ _ _ (s₁.setTop (mkF m 22 #[.val (.int p1)] []))
      refine Gl.st (fun t k => XS.iconst X0.here hx rfl (hb hby d8_22) k) ?_
      show Gl _ _ _ _ _ _ _ (s₁.setTop (mkF m 23 #[.val (.int p1)] [(.int (0 : Int32))]))
      exact Gl.retN X0 hx hlk Bd.returns (by simp) (hb hby d8_23) (⟨congrArg (fun z => some (Value.int z)) (show (nar .boolean (0 : Int32)) = own_isws p1 from by simp only [own_isws, if_neg hc3, if_pos hc9]), N0, e0⟩) (by decide) (by decide)
    · refine Gl.st (fun t k => XS.icmpNo X0.here hx rfl (hb hby d8_9) rfl (flt hc9).1 k) ?_
      show Gl _ _ _ _ _ _ _ (s₁.setTop (mkF m 12 #[.val (.int p1)] []))
      refine Gl.st (fun t k => XS.iloadN X0.here hx rfl (hb hby d8_12) rfl  k) ?_
      show Gl _ _ _ _ _ _ _ (s₁.setTop (mkF m 13 #[.val (.int p1)] [(.int p1)]))
      refine Gl.st (fun t k => XS.bipush X0.here hx rfl (hb hby d8_13) k) ?_
      show Gl _ _ _ _ _ _ _ (s₁.setTop (mkF m 15 #[.val (.int p1)] [(.int (13 : Int32)), (.int p1)]))
      by_cases hc15 : (13 : Int32) < p1
      · refine Gl.st (fun t k => XS.icmpYes X0.here hx rfl (pc0 := 15) (pc' := 22) rfl (hb hby d8_15) rfl (tlt hc15).2.2.1 (by decide) (by decide) k) ?_
        show Gl _ _ _ _ _ _ _ (s₁.setTop (mkF m 22 #[.val (.int p1)] []))
        refine Gl.st (fun t k => XS.iconst X0.here hx rfl (hb hby d8_22) k) ?_
        show Gl _ _ _ _ _ _ _ (s₁.setTop (mkF m 23 #[.val (.int p1)] [(.int (0 : Int32))]))
        exact Gl.retN X0 hx hlk Bd.returns (by simp) (hb hby d8_23) (⟨congrArg (fun z => some (Value.int z)) (show (nar .boolean (0 : Int32)) = own_isws p1 from by simp only [own_isws, if_neg hc3, if_neg hc9, if_pos hc15]), N0, e0⟩) (by decide) (by decide)
      · refine Gl.st (fun t k => XS.icmpNo X0.here hx rfl (hb hby d8_15) rfl (flt hc15).2.2.1 k) ?_
        show Gl _ _ _ _ _ _ _ (s₁.setTop (mkF m 18 #[.val (.int p1)] []))
        refine Gl.st (fun t k => XS.iconst X0.here hx rfl (hb hby d8_18) k) ?_
        show Gl _ _ _ _ _ _ _ (s₁.setTop (mkF m 19 #[.val (.int p1)] [(.int (1 : Int32))]))
        refine Gl.st (fun t k => XS.goto X0.here hx rfl (pc0 := 19) (pc' := 23) rfl (hb hby d8_19) (by decide) (by decide) k) ?_
        show Gl _ _ _ _ _ _ _ (s₁.setTop (mkF m 23 #[.val (.int p1)] [(.int (1 : Int32))]))
        exact Gl.retN X0 hx hlk Bd.returns (by simp) (hb hby d8_23) (⟨congrArg (fun z => some (Value.int z)) (show (nar .boolean (1 : Int32)) = own_isws p1 from by simp only [own_isws, if_neg hc3, if_neg hc9, if_neg hc15]), N0, e0⟩) (by decide) (by decide)
theorem pd_0 : parseMethodDescriptor "(B)Z" = some ⟨[.byte], some .boolean⟩ := by decide +kernel
def own_field0 (p3 : Int32) (p4 : Int32) (w0 : Int32) (w1 : Int32) (w2 : Int32) (w3 : Int32) : Int32 := (if (0 : Int32) < p3 then (nar .boolean (0 : Int32)) else (if (0 : Int32) < p4 then (if (own_ws w0) = (0 : Int32) then (nar .boolean (1 : Int32)) else (nar .boolean (0 : Int32))) else (nar .boolean (0 : Int32))))
theorem d4_0 : decode method_4_code 0 = .ok (.iload_n 1, 1) := by decide +kernel
theorem d4_1 : decode method_4_code 1 = .ok (.iload_n 2, 1) := by decide +kernel
theorem d4_2 : decode method_4_code 2 = .ok (.if_icmp .lt 21, 3) := by decide +kernel
theorem d4_5 : decode method_4_code 5 = .ok (.iload_n 1, 1) := by decide +kernel
theorem d4_6 : decode method_4_code 6 = .ok (.iload_n 3, 1) := by decide +kernel
theorem d4_7 : decode method_4_code 7 = .ok (.if_icmp .ge 16, 3) := by decide +kernel
theorem d4_10 : decode method_4_code 10 = .ok (.aload_n 0, 1) := by decide +kernel
theorem d4_11 : decode method_4_code 11 = .ok (.iload_n 1, 1) := by decide +kernel
theorem d4_12 : decode method_4_code 12 = .ok (.baload, 1) := by decide +kernel
theorem d4_13 : decode method_4_code 13 = .ok (.invokestatic 7, 3) := by decide +kernel
theorem d4_16 : decode method_4_code 16 = .ok (.ifCond .ne 7, 3) := by decide +kernel
theorem d4_19 : decode method_4_code 19 = .ok (.iconst 1, 1) := by decide +kernel
theorem d4_20 : decode method_4_code 20 = .ok (.goto 4, 3) := by decide +kernel
theorem d4_23 : decode method_4_code 23 = .ok (.iconst 0, 1) := by decide +kernel
theorem d4_24 : decode method_4_code 24 = .ok (.ireturn, 1) := by decide +kernel
theorem pf_5 : plainFor (⟨"com/example/ilsa/ilsa/io/LineFieldsRecordStartPinLaw", "field", "([BIII)Z"⟩ : MethodName) = true := by decide +kernel
def Q4v0 (Z : State) (a1 : Addr) (p3 : Int32) (p4 : Int32) (ck : ClassId) (w0 : Int32) (w1 : Int32) (w2 : Int32) (w3 : Int32) (h0 : Heap) (n0 : Nat) (v : Option Value) (h : Heap) (L : List Loc) : Prop := v = some (.int (own_field0 p3 p4 w0 w1 w2 w3)) ∧ Fr n0 L ∧ h = h0
theorem ef_4v0 (m : MethodId) (a1 : Addr) (p3 : Int32) (p4 : Int32) : entryFrame m #[(.ref a1), (.int (0 : Int32)), (.int p3), (.int p4)] 4 = mkF m 0 #[.val (.ref a1), .val (.int (0 : Int32)), .val (.int p3), .val (.int p4)] [] := by first | (simp [entryFrame, mkF, argsToLocals, Value.category]; done) | rfl
set_option maxRecDepth 65536 in
set_option maxHeartbeats 40000000 in
theorem rm4v0 (l : Launch) (Z : State) (a0 : Array Value) (hw : ∀ d ∈ tables_1, d.before a0 Z = true) (ws : List Jvm.Cond) (a1 : Addr) (p3 : Int32) (p4 : Int32) (ck : ClassId) (w0 : Int32) (w1 : Int32) (w2 : Int32) (w3 : Int32) (h0 : Heap) (n0 : Nat) (Va : Arv Z h0 a1 ck .byte (4 : Int32) [(.int w0), (.int w1), (.int w2), (.int w3)] (.int (0 : Int32))) :
    MetFree l (⟨"com/example/ilsa/ilsa/io/LineFieldsRecordStartPinLaw", "field", "([BIII)Z"⟩ : MethodName) (head1 (Jvm.Cond.code (⟨"com/example/ilsa/ilsa/io/LineFieldsRecordStartPinLaw", "field", "([BIII)Z"⟩ : MethodName) method_4_code 4 (some .boolean) :: ws) ({ frames := 1, cells := 0, slots := 0, locals := 13 } : Room)) (fun a U => a = #[(.ref a1), (.int (0 : Int32)), (.int p3), (.int p4)] ∧ Z.Warmed39 U.vm ∧ U.heap = h0) (fun _ _ _ _ _ => True) (fun _ U o U' => ∃ v L, o = .returned v ∧ Q4v0 Z a1 p3 p4 ck w0 w1 w2 w3 h0 n0 v U'.heap L ∧ FrameEnd U o U' L ({ frames := 1, cells := 0, slots := 0, locals := 13 } : Room).cells ({ frames := 1, cells := 0, slots := 0, locals := 13 } : Room).slots) := by
  refine MetFree.of_bodySF pf_5 hisR ?_
  intro p e s m args below meth c s₁ Bd hml0 hP hK
  obtain ⟨rfl, hZ, hh⟩ := hP
  have hx := Bd.exec
  have hby := Bd.bytes
  have hlk : meth.locks = false := BodyLoose.notSynchronized Bd
  have hml : c.maxLocals = 4 := hml0
  have hown : s.vm.findClass "com/example/ilsa/ilsa/io/LineFieldsRecordStartPinLaw" = some m.cls := findClass_of_methodNamed Bd.named
  have hnm := (name_of_methodNamed Bd.named Bd.method).1
  have X0 : Stand p l e ({ frames := 1, cells := 0, slots := 0, locals := 13 } : Room) s m #[(.ref a1), (.int (0 : Int32)), (.int p3), (.int p4)] below meth c s₁ [] 0 0 := Stand.of_body Bd
  have e0 : s₁.heap = h0 := by rw [← hh, Bd.state]; rfl
  have N0 := Fr.nil n0
  show Gl p e below s (Q4v0 Z a1 p3 p4 ck w0 w1 w2 w3 h0 n0) ({ frames := 1, cells := 0, slots := 0, locals := 13 } : Room).cells ({ frames := 1, cells := 0, slots := 0, locals := 13 } : Room).slots (s₁.setTop (entryFrame m #[(.ref a1), (.int (0 : Int32)), (.int p3), (.int p4)] 4))
  rw [ef_4v0]
  show Gl _ _ _ _ _ _ _ (s₁.setTop (mkF m 0 #[.val (.ref a1), .val (.int (0 : Int32)), .val (.int p3), .val (.int p4)] []))
  refine Gl.st (fun t k => XS.iloadN X0.here hx rfl (hb hby d4_0) rfl  k) ?_
  show Gl _ _ _ _ _ _ _ (s₁.setTop (mkF m 1 #[.val (.ref a1), .val (.int (0 : Int32)), .val (.int p3), .val (.int p4)] [(.int (0 : Int32))]))
  refine Gl.st (fun t k => XS.iloadN X0.here hx rfl (hb hby d4_1) rfl  k) ?_
  show Gl _ _ _ _ _ _ _ (s₁.setTop (mkF m 2 #[.val (.ref a1), .val (.int (0 : Int32)), .val (.int p3), .val (.int p4)] [(.int p3), (.int (0 : Int32))]))
  by_cases hc2 : (0 : Int32) < p3
  · refine Gl.st (fun t k => XS.icmpYes X0.here hx rfl (pc0 := 2) (pc' := 23) rfl (hb hby d4_2) rfl (tlt hc2).1 (by decide) (by decide) k) ?_
    show Gl _ _ _ _ _ _ _ (s₁.setTop (mkF m 23 #[.val (.ref a1), .val (.int (0 : Int32)), .val (.int p3), .val (.int p4)] []))
    refine Gl.st (fun t k => XS.iconst X0.here hx rfl (hb hby d4_23) k) ?_
    show Gl _ _ _ _ _ _ _ (s₁.setTop (mkF m 24 #[.val (.ref a1), .val (.int (0 : Int32)), .val (.int p3), .val (.int p4)] [(.int (0 : Int32))]))
    exact Gl.retN X0 hx hlk Bd.returns (by simp) (hb hby d4_24) (⟨congrArg (fun z => some (Value.int z)) (show (nar .boolean (0 : Int32)) = (own_field0 p3 p4 w0 w1 w2 w3) from by simp only [own_field0, if_pos hc2]), N0, e0⟩) (by decide) (by decide)
  · refine Gl.st (fun t k => XS.icmpNo X0.here hx rfl (hb hby d4_2) rfl (flt hc2).1 k) ?_
    show Gl _ _ _ _ _ _ _ (s₁.setTop (mkF m 5 #[.val (.ref a1), .val (.int (0 : Int32)), .val (.int p3), .val (.int p4)] []))
    refine Gl.st (fun t k => XS.iloadN X0.here hx rfl (hb hby d4_5) rfl  k) ?_
    show Gl _ _ _ _ _ _ _ (s₁.setTop (mkF m 6 #[.val (.ref a1), .val (.int (0 : Int32)), .val (.int p3), .val (.int p4)] [(.int (0 : Int32))]))
    refine Gl.st (fun t k => XS.iloadN X0.here hx rfl (hb hby d4_6) rfl  k) ?_
    show Gl _ _ _ _ _ _ _ (s₁.setTop (mkF m 7 #[.val (.ref a1), .val (.int (0 : Int32)), .val (.int p3), .val (.int p4)] [(.int p4), (.int (0 : Int32))]))
    by_cases hc7 : (0 : Int32) < p4
    · refine Gl.st (fun t k => XS.icmpNo X0.here hx rfl (hb hby d4_7) rfl (tlt hc7).2.1 k) ?_
      show Gl _ _ _ _ _ _ _ (s₁.setTop (mkF m 10 #[.val (.ref a1), .val (.int (0 : Int32)), .val (.int p3), .val (.int p4)] []))
      refine Gl.st (fun t k => XS.aloadN X0.here hx rfl (hb hby d4_10) rfl rfl k) ?_
      show Gl _ _ _ _ _ _ _ (s₁.setTop (mkF m 11 #[.val (.ref a1), .val (.int (0 : Int32)), .val (.int p3), .val (.int p4)] [(.ref a1)]))
      refine Gl.st (fun t k => XS.iloadN X0.here hx rfl (hb hby d4_11) rfl  k) ?_
      show Gl _ _ _ _ _ _ _ (s₁.setTop (mkF m 12 #[.val (.ref a1), .val (.int (0 : Int32)), .val (.int p3), .val (.int p4)] [(.int (0 : Int32)), (.ref a1)]))
      have Vx1 := Va
      obtain ⟨cl1, Ar1, qk1, S1, M1, H1, G1⟩ := Vx1
      have hin1 : ¬ ((0 : Int32) < 0 ∨ cl1.slots.size ≤ ((0 : Int32)).toNatClampNeg) := inb_of S1 ⟨by decide, by decide⟩
      have hat1 : cl1.slots[((0 : Int32)).toNatClampNeg]? = some (.int w0) := H1.at hin1 rfl
      refine Gl.st (X0.baloadBytes hx (j := (0 : Int32)) (v := (.int w0)) (by rw [e0]; exact Ar1.1) (State.isArrayOf_alike hZ.alike Ar1.2.1) Ar1.2.2 hin1 hat1 (g := (mkF m 12 #[.val (.ref a1), .val (.int (0 : Int32)), .val (.int p3), .val (.int p4)] [(.int (0 : Int32)), (.ref a1)])) rfl rfl (hb hby d4_12)) ?_
      show Gl _ _ _ _ _ _ _ (s₁.setTop (mkF m 13 #[.val (.ref a1), .val (.int (0 : Int32)), .val (.int p3), .val (.int p4)] [(.int w0)]))
      obtain ⟨_, _, ⟨T2, L2, k2, n2⟩, -, X2, ⟨Lc2, hQ2, l2, y2, z2⟩, st2⟩ := Jvm.LawKit.callS X0 hx (y := (⟨"com/example/ilsa/ilsa/io/LineFieldsRecordStartPinLaw", "ws", "(B)Z"⟩ : MethodName)) hown (mvT hZ (hw _ (List.mem_of_getElem? (i := 22) rfl))) (mvT hZ (hw _ (List.mem_of_getElem? (i := 23) rfl))) (mvT hZ (hw _ (List.mem_of_getElem? (i := 3) rfl))) (mvT hZ (hw _ (List.mem_of_getElem? (i := 24) rfl))) (by decide) (backOf (W := 0) (rm7 l Z a0 hw [] w0 h0 n0) hZ (hw _ (List.mem_of_getElem? (i := 24) rfl)) (hw _ (List.mem_of_getElem? (i := 3) rfl)) (by decide) (by decide)) (g := (mkF m 13 #[.val (.ref a1), .val (.int (0 : Int32)), .val (.int p3), .val (.int p4)] [(.int w0)])) rfl (by rw [hml]; rfl) (argsL := [(.int w0)]) (rest := []) (lenOf pd_0 rfl) rfl (by show 2 * 0 + _ ≤ _; exact Nat.le_of_eq rfl) (hb hby d4_13) (fun _ _ => ⟨rfl, e0, (by decide : 0 + 0 ≤ _), (by decide : 0 + 0 ≤ _)⟩)
      dsimp only [Pt.U, Pt.locs, Pt.cells, Pt.slots] at X2 l2 y2 z2 st2 hQ2
      rw [y2, z2] at X2
      obtain ⟨rfl, N2q, e2⟩ := hQ2
      have N2 : Fr n0 L2 := by rw [l2]; exact Fr.app N0 N2q
      refine Gl.st st2 ?_
      show Gl _ _ _ _ _ _ _ (T2.setTop (mkF m 16 #[.val (.ref a1), .val (.int (0 : Int32)), .val (.int p3), .val (.int p4)] [(.int (own_ws w0))]))
      by_cases hc16 : (own_ws w0) = (0 : Int32)
      · refine Gl.st (fun t k => XS.ifNo X2.here hx rfl (hb hby d4_16) rfl ((if0 _ _).trans (teq hc16).2) k) ?_
        show Gl _ _ _ _ _ _ _ (T2.setTop (mkF m 19 #[.val (.ref a1), .val (.int (0 : Int32)), .val (.int p3), .val (.int p4)] []))
        refine Gl.st (fun t k => XS.iconst X2.here hx rfl (hb hby d4_19) k) ?_
        show Gl _ _ _ _ _ _ _ (T2.setTop (mkF m 20 #[.val (.ref a1), .val (.int (0 : Int32)), .val (.int p3), .val (.int p4)] [(.int (1 : Int32))]))
        refine Gl.st (fun t k => XS.goto X2.here hx rfl (pc0 := 20) (pc' := 24) rfl (hb hby d4_20) (by decide) (by decide) k) ?_
        show Gl _ _ _ _ _ _ _ (T2.setTop (mkF m 24 #[.val (.ref a1), .val (.int (0 : Int32)), .val (.int p3), .val (.int p4)] [(.int (1 : Int32))]))
        exact Gl.retN X2 hx hlk Bd.returns (by simp) (hb hby d4_24) (⟨congrArg (fun z => some (Value.int z)) (show (nar .boolean (1 : Int32)) = (own_field0 p3 p4 w0 w1 w2 w3) from by simp only [own_field0, if_neg hc2, if_pos hc7, if_pos hc16]), N2, e2⟩) (by decide) (by decide)
      · refine Gl.st (fun t k => XS.ifYes X2.here hx rfl (pc0 := 16) (pc' := 23) rfl (hb hby d4_16) rfl ((if0 _ _).trans (feq hc16).2) (by decide) (by decide) k) ?_
        show Gl _ _ _ _ _ _ _ (T2.setTop (mkF m 23 #[.val (.ref a1), .val (.int (0 : Int32)), .val (.int p3), .val (.int p4)] []))
        refine Gl.st (fun t k => XS.iconst X2.here hx rfl (hb hby d4_23) k) ?_
        show Gl _ _ _ _ _ _ _ (T2.setTop (mkF m 24 #[.val (.ref a1), .val (.int (0 : Int32)), .val (.int p3), .val (.int p4)] [(.int (0 : Int32))]))
        exact Gl.retN X2 hx hlk Bd.returns (by simp) (hb hby d4_24) (⟨congrArg (fun z => some (Value.int z)) (show (nar .boolean (0 : Int32)) = (own_field0 p3 p4 w0 w1 w2 w3) from by simp only [own_field0, if_neg hc2, if_pos hc7, if_neg hc16]), N2, e2⟩) (by decide) (by decide)
    · refine Gl.st (fun t k => XS.icmpYes X0.here hx rfl (pc0 := 7) (pc' := 23) rfl (hb hby d4_7) rfl (flt hc7).2.1 (by decide) (by decide) k) ?_
      show Gl _ _ _ _ _ _ _ (s₁.setTop (mkF m 23 #[.val (.ref a1), .val (.int (0 : Int32)), .val (.int p3), .val (.int p4)] []))
      refine Gl.st (fun t k => XS.iconst X0.here hx rfl (hb hby d4_23) k) ?_
      show Gl _ _ _ _ _ _ _ (s₁.setTop (mkF m 24 #[.val (.ref a1), .val (.int (0 : Int32)), .val (.int p3), .val (.int p4)] [(.int (0 : Int32))]))
      exact Gl.retN X0 hx hlk Bd.returns (by simp) (hb hby d4_24) (⟨congrArg (fun z => some (Value.int z)) (show (nar .boolean (0 : Int32)) = (own_field0 p3 p4 w0 w1 w2 w3) from by simp only [own_field0, if_neg hc2, if_neg hc7]), N0, e0⟩) (by decide) (by decide)
def own_field1 (p3 : Int32) (p4 : Int32) (w0 : Int32) (w1 : Int32) (w2 : Int32) (w3 : Int32) : Int32 := (if (1 : Int32) < p3 then (nar .boolean (0 : Int32)) else (if (1 : Int32) < p4 then (if (own_ws w1) = (0 : Int32) then (nar .boolean (1 : Int32)) else (nar .boolean (0 : Int32))) else (nar .boolean (0 : Int32))))
def Q4v1 (Z : State) (a1 : Addr) (p3 : Int32) (p4 : Int32) (ck : ClassId) (w0 : Int32) (w1 : Int32) (w2 : Int32) (w3 : Int32) (h0 : Heap) (n0 : Nat) (v : Option Value) (h : Heap) (L : List Loc) : Prop := v = some (.int (own_field1 p3 p4 w0 w1 w2 w3)) ∧ Fr n0 L ∧ h = h0
theorem ef_4v1 (m : MethodId) (a1 : Addr) (p3 : Int32) (p4 : Int32) : entryFrame m #[(.ref a1), (.int (1 : Int32)), (.int p3), (.int p4)] 4 = mkF m 0 #[.val (.ref a1), .val (.int (1 : Int32)), .val (.int p3), .val (.int p4)] [] := by first | (simp [entryFrame, mkF, argsToLocals, Value.category]; done) | rfl
set_option maxRecDepth 65536 in
set_option maxHeartbeats 40000000 in
theorem rm4v1 (l : Launch) (Z : State) (a0 : Array Value) (hw : ∀ d ∈ tables_1, d.before a0 Z = true) (ws : List Jvm.Cond) (a1 : Addr) (p3 : Int32) (p4 : Int32) (ck : ClassId) (w0 : Int32) (w1 : Int32) (w2 : Int32) (w3 : Int32) (h0 : Heap) (n0 : Nat) (Va : Arv Z h0 a1 ck .byte (4 : Int32) [(.int w0), (.int w1), (.int w2), (.int w3)] (.int (0 : Int32))) :
    MetFree l (⟨"com/example/ilsa/ilsa/io/LineFieldsRecordStartPinLaw", "field", "([BIII)Z"⟩ : MethodName) (head1 (Jvm.Cond.code (⟨"com/example/ilsa/ilsa/io/LineFieldsRecordStartPinLaw", "field", "([BIII)Z"⟩ : MethodName) method_4_code 4 (some .boolean) :: ws) ({ frames := 1, cells := 0, slots := 0, locals := 13 } : Room)) (fun a U => a = #[(.ref a1), (.int (1 : Int32)), (.int p3), (.int p4)] ∧ Z.Warmed39 U.vm ∧ U.heap = h0) (fun _ _ _ _ _ => True) (fun _ U o U' => ∃ v L, o = .returned v ∧ Q4v1 Z a1 p3 p4 ck w0 w1 w2 w3 h0 n0 v U'.heap L ∧ FrameEnd U o U' L ({ frames := 1, cells := 0, slots := 0, locals := 13 } : Room).cells ({ frames := 1, cells := 0, slots := 0, locals := 13 } : Room).slots) := by
  refine MetFree.of_bodySF pf_5 hisR ?_
  intro p e s m args below meth c s₁ Bd hml0 hP hK
  obtain ⟨rfl, hZ, hh⟩ := hP
  have hx := Bd.exec
  have hby := Bd.bytes
  have hlk : meth.locks = false := BodyLoose.notSynchronized Bd
  have hml : c.maxLocals = 4 := hml0
  have hown : s.vm.findClass "com/example/ilsa/ilsa/io/LineFieldsRecordStartPinLaw" = some m.cls := findClass_of_methodNamed Bd.named
  have hnm := (name_of_methodNamed Bd.named Bd.method).1
  have X0 : Stand p l e ({ frames := 1, cells := 0, slots := 0, locals := 13 } : Room) s m #[(.ref a1), (.int (1 : Int32)), (.int p3), (.int p4)] below meth c s₁ [] 0 0 := Stand.of_body Bd
  have e0 : s₁.heap = h0 := by rw [← hh, Bd.state]; rfl
  have N0 := Fr.nil n0
  show Gl p e below s (Q4v1 Z a1 p3 p4 ck w0 w1 w2 w3 h0 n0) ({ frames := 1, cells := 0, slots := 0, locals := 13 } : Room).cells ({ frames := 1, cells := 0, slots := 0, locals := 13 } : Room).slots (s₁.setTop (entryFrame m #[(.ref a1), (.int (1 : Int32)), (.int p3), (.int p4)] 4))
  rw [ef_4v1]
  show Gl _ _ _ _ _ _ _ (s₁.setTop (mkF m 0 #[.val (.ref a1), .val (.int (1 : Int32)), .val (.int p3), .val (.int p4)] []))
  refine Gl.st (fun t k => XS.iloadN X0.here hx rfl (hb hby d4_0) rfl  k) ?_
  show Gl _ _ _ _ _ _ _ (s₁.setTop (mkF m 1 #[.val (.ref a1), .val (.int (1 : Int32)), .val (.int p3), .val (.int p4)] [(.int (1 : Int32))]))
  refine Gl.st (fun t k => XS.iloadN X0.here hx rfl (hb hby d4_1) rfl  k) ?_
  show Gl _ _ _ _ _ _ _ (s₁.setTop (mkF m 2 #[.val (.ref a1), .val (.int (1 : Int32)), .val (.int p3), .val (.int p4)] [(.int p3), (.int (1 : Int32))]))
  by_cases hc2 : (1 : Int32) < p3
  · refine Gl.st (fun t k => XS.icmpYes X0.here hx rfl (pc0 := 2) (pc' := 23) rfl (hb hby d4_2) rfl (tlt hc2).1 (by decide) (by decide) k) ?_
    show Gl _ _ _ _ _ _ _ (s₁.setTop (mkF m 23 #[.val (.ref a1), .val (.int (1 : Int32)), .val (.int p3), .val (.int p4)] []))
    refine Gl.st (fun t k => XS.iconst X0.here hx rfl (hb hby d4_23) k) ?_
    show Gl _ _ _ _ _ _ _ (s₁.setTop (mkF m 24 #[.val (.ref a1), .val (.int (1 : Int32)), .val (.int p3), .val (.int p4)] [(.int (0 : Int32))]))
    exact Gl.retN X0 hx hlk Bd.returns (by simp) (hb hby d4_24) (⟨congrArg (fun z => some (Value.int z)) (show (nar .boolean (0 : Int32)) = (own_field1 p3 p4 w0 w1 w2 w3) from by simp only [own_field1, if_pos hc2]), N0, e0⟩) (by decide) (by decide)
  · refine Gl.st (fun t k => XS.icmpNo X0.here hx rfl (hb hby d4_2) rfl (flt hc2).1 k) ?_
    show Gl _ _ _ _ _ _ _ (s₁.setTop (mkF m 5 #[.val (.ref a1), .val (.int (1 : Int32)), .val (.int p3), .val (.int p4)] []))
    refine Gl.st (fun t k => XS.iloadN X0.here hx rfl (hb hby d4_5) rfl  k) ?_
    show Gl _ _ _ _ _ _ _ (s₁.setTop (mkF m 6 #[.val (.ref a1), .val (.int (1 : Int32)), .val (.int p3), .val (.int p4)] [(.int (1 : Int32))]))
    refine Gl.st (fun t k => XS.iloadN X0.here hx rfl (hb hby d4_6) rfl  k) ?_
    show Gl _ _ _ _ _ _ _ (s₁.setTop (mkF m 7 #[.val (.ref a1), .val (.int (1 : Int32)), .val (.int p3), .val (.int p4)] [(.int p4), (.int (1 : Int32))]))
    by_cases hc7 : (1 : Int32) < p4
    · refine Gl.st (fun t k => XS.icmpNo X0.here hx rfl (hb hby d4_7) rfl (tlt hc7).2.1 k) ?_
      show Gl _ _ _ _ _ _ _ (s₁.setTop (mkF m 10 #[.val (.ref a1), .val (.int (1 : Int32)), .val (.int p3), .val (.int p4)] []))
      refine Gl.st (fun t k => XS.aloadN X0.here hx rfl (hb hby d4_10) rfl rfl k) ?_
      show Gl _ _ _ _ _ _ _ (s₁.setTop (mkF m 11 #[.val (.ref a1), .val (.int (1 : Int32)), .val (.int p3), .val (.int p4)] [(.ref a1)]))
      refine Gl.st (fun t k => XS.iloadN X0.here hx rfl (hb hby d4_11) rfl  k) ?_
      show Gl _ _ _ _ _ _ _ (s₁.setTop (mkF m 12 #[.val (.ref a1), .val (.int (1 : Int32)), .val (.int p3), .val (.int p4)] [(.int (1 : Int32)), (.ref a1)]))
      have Vx1 := Va
      obtain ⟨cl1, Ar1, qk1, S1, M1, H1, G1⟩ := Vx1
      have hin1 : ¬ ((1 : Int32) < 0 ∨ cl1.slots.size ≤ ((1 : Int32)).toNatClampNeg) := inb_of S1 ⟨by decide, by decide⟩
      have hat1 : cl1.slots[((1 : Int32)).toNatClampNeg]? = some (.int w1) := H1.at hin1 rfl
      refine Gl.st (X0.baloadBytes hx (j := (1 : Int32)) (v := (.int w1)) (by rw [e0]; exact Ar1.1) (State.isArrayOf_alike hZ.alike Ar1.2.1) Ar1.2.2 hin1 hat1 (g := (mkF m 12 #[.val (.ref a1), .val (.int (1 : Int32)), .val (.int p3), .val (.int p4)] [(.int (1 : Int32)), (.ref a1)])) rfl rfl (hb hby d4_12)) ?_
      show Gl _ _ _ _ _ _ _ (s₁.setTop (mkF m 13 #[.val (.ref a1), .val (.int (1 : Int32)), .val (.int p3), .val (.int p4)] [(.int w1)]))
      obtain ⟨_, _, ⟨T2, L2, k2, n2⟩, -, X2, ⟨Lc2, hQ2, l2, y2, z2⟩, st2⟩ := Jvm.LawKit.callS X0 hx (y := (⟨"com/example/ilsa/ilsa/io/LineFieldsRecordStartPinLaw", "ws", "(B)Z"⟩ : MethodName)) hown (mvT hZ (hw _ (List.mem_of_getElem? (i := 22) rfl))) (mvT hZ (hw _ (List.mem_of_getElem? (i := 23) rfl))) (mvT hZ (hw _ (List.mem_of_getElem? (i := 3) rfl))) (mvT hZ (hw _ (List.mem_of_getElem? (i := 24) rfl))) (by decide) (backOf (W := 0) (rm7 l Z a0 hw [] w1 h0 n0) hZ (hw _ (List.mem_of_getElem? (i := 24) rfl)) (hw _ (List.mem_of_getElem? (i := 3) rfl)) (by decide) (by decide)) (g := (mkF m 13 #[.val (.ref a1), .val (.int (1 : Int32)), .val (.int p3), .val (.int p4)] [(.int w1)])) rfl (by rw [hml]; rfl) (argsL := [(.int w1)]) (rest := []) (lenOf pd_0 rfl) rfl (by show 2 * 0 + _ ≤ _; exact Nat.le_of_eq rfl) (hb hby d4_13) (fun _ _ => ⟨rfl, e0, (by decide : 0 + 0 ≤ _), (by decide : 0 + 0 ≤ _)⟩)
      dsimp only [Pt.U, Pt.locs, Pt.cells, Pt.slots] at X2 l2 y2 z2 st2 hQ2
      rw [y2, z2] at X2
      obtain ⟨rfl, N2q, e2⟩ := hQ2
      have N2 : Fr n0 L2 := by rw [l2]; exact Fr.app N0 N2q
      refine Gl.st st2 ?_
      show Gl _ _ _ _ _ _ _ (T2.setTop (mkF m 16 #[.val (.ref a1), .val (.int (1 : Int32)), .val (.int p3), .val (.int p4)] [(.int (own_ws w1))]))
      by_cases hc16 : (own_ws w1) = (0 : Int32)
      · refine Gl.st (fun t k => XS.ifNo X2.here hx rfl (hb hby d4_16) rfl ((if0 _ _).trans (teq hc16).2) k) ?_
        show Gl _ _ _ _ _ _ _ (T2.setTop (mkF m 19 #[.val (.ref a1), .val (.int (1 : Int32)), .val (.int p3), .val (.int p4)] []))
        refine Gl.st (fun t k => XS.iconst X2.here hx rfl (hb hby d4_19) k) ?_
        show Gl _ _ _ _ _ _ _ (T2.setTop (mkF m 20 #[.val (.ref a1), .val (.int (1 : Int32)), .val (.int p3), .val (.int p4)] [(.int (1 : Int32))]))
        refine Gl.st (fun t k => XS.goto X2.here hx rfl (pc0 := 20) (pc' := 24) rfl (hb hby d4_20) (by decide) (by decide) k) ?_
        show Gl _ _ _ _ _ _ _ (T2.setTop (mkF m 24 #[.val (.ref a1), .val (.int (1 : Int32)), .val (.int p3), .val (.int p4)] [(.int (1 : Int32))]))
        exact Gl.retN X2 hx hlk Bd.returns (by simp) (hb hby d4_24) (⟨congrArg (fun z => some (Value.int z)) (show (nar .boolean (1 : Int32)) = (own_field1 p3 p4 w0 w1 w2 w3) from by simp only [own_field1, if_neg hc2, if_pos hc7, if_pos hc16]), N2, e2⟩) (by decide) (by decide)
      · refine Gl.st (fun t k => XS.ifYes X2.here hx rfl (pc0 := 16) (pc' := 23) rfl (hb hby d4_16) rfl ((if0 _ _).trans (feq hc16).2) (by decide) (by decide) k) ?_
        show Gl _ _ _ _ _ _ _ (T2.setTop (mkF m 23 #[.val (.ref a1), .val (.int (1 : Int32)), .val (.int p3), .val (.int p4)] []))
        refine Gl.st (fun t k => XS.iconst X2.here hx rfl (hb hby d4_23) k) ?_
        show Gl _ _ _ _ _ _ _ (T2.setTop (mkF m 24 #[.val (.ref a1), .val (.int (1 : Int32)), .val (.int p3), .val (.int p4)] [(.int (0 : Int32))]))
        exact Gl.retN X2 hx hlk Bd.returns (by simp) (hb hby d4_24) (⟨congrArg (fun z => some (Value.int z)) (show (nar .boolean (0 : Int32)) = (own_field1 p3 p4 w0 w1 w2 w3) from by simp only [own_field1, if_neg hc2, if_pos hc7, if_neg hc16]), N2, e2⟩) (by decide) (by decide)
    · refine Gl.st (fun t k => XS.icmpYes X0.here hx rfl (pc0 := 7) (pc' := 23) rfl (hb hby d4_7) rfl (flt hc7).2.1 (by decide) (by decide) k) ?_
      show Gl _ _ _ _ _ _ _ (s₁.setTop (mkF m 23 #[.val (.ref a1), .val (.int (1 : Int32)), .val (.int p3), .val (.int p4)] []))
      refine Gl.st (fun t k => XS.iconst X0.here hx rfl (hb hby d4_23) k) ?_
      show Gl _ _ _ _ _ _ _ (s₁.setTop (mkF m 24 #[.val (.ref a1), .val (.int (1 : Int32)), .val (.int p3), .val (.int p4)] [(.int (0 : Int32))]))
      exact Gl.retN X0 hx hlk Bd.returns (by simp) (hb hby d4_24) (⟨congrArg (fun z => some (Value.int z)) (show (nar .boolean (0 : Int32)) = (own_field1 p3 p4 w0 w1 w2 w3) from by simp only [own_field1, if_neg hc2, if_neg hc7]), N0, e0⟩) (by decide) (by decide)
def own_field2 (p3 : Int32) (p4 : Int32) (w0 : Int32) (w1 : Int32) (w2 : Int32) (w3 : Int32) : Int32 := (if (2 : Int32) < p3 then (nar .boolean (0 : Int32)) else (if (2 : Int32) < p4 then (if (own_ws w2) = (0 : Int32) then (nar .boolean (1 : Int32)) else (nar .boolean (0 : Int32))) else (nar .boolean (0 : Int32))))
def Q4v2 (Z : State) (a1 : Addr) (p3 : Int32) (p4 : Int32) (ck : ClassId) (w0 : Int32) (w1 : Int32) (w2 : Int32) (w3 : Int32) (h0 : Heap) (n0 : Nat) (v : Option Value) (h : Heap) (L : List Loc) : Prop := v = some (.int (own_field2 p3 p4 w0 w1 w2 w3)) ∧ Fr n0 L ∧ h = h0
theorem ef_4v2 (m : MethodId) (a1 : Addr) (p3 : Int32) (p4 : Int32) : entryFrame m #[(.ref a1), (.int (2 : Int32)), (.int p3), (.int p4)] 4 = mkF m 0 #[.val (.ref a1), .val (.int (2 : Int32)), .val (.int p3), .val (.int p4)] [] := by first | (simp [entryFrame, mkF, argsToLocals, Value.category]; done) | rfl
set_option maxRecDepth 65536 in
set_option maxHeartbeats 40000000 in
theorem rm4v2 (l : Launch) (Z : State) (a0 : Array Value) (hw : ∀ d ∈ tables_1, d.before a0 Z = true) (ws : List Jvm.Cond) (a1 : Addr) (p3 : Int32) (p4 : Int32) (ck : ClassId) (w0 : Int32) (w1 : Int32) (w2 : Int32) (w3 : Int32) (h0 : Heap) (n0 : Nat) (Va : Arv Z h0 a1 ck .byte (4 : Int32) [(.int w0), (.int w1), (.int w2), (.int w3)] (.int (0 : Int32))) :
    MetFree l (⟨"com/example/ilsa/ilsa/io/LineFieldsRecordStartPinLaw", "field", "([BIII)Z"⟩ : MethodName) (head1 (Jvm.Cond.code (⟨"com/example/ilsa/ilsa/io/LineFieldsRecordStartPinLaw", "field", "([BIII)Z"⟩ : MethodName) method_4_code 4 (some .boolean) :: ws) ({ frames := 1, cells := 0, slots := 0, locals := 13 } : Room)) (fun a U => a = #[(.ref a1), (.int (2 : Int32)), (.int p3), (.int p4)] ∧ Z.Warmed39 U.vm ∧ U.heap = h0) (fun _ _ _ _ _ => True) (fun _ U o U' => ∃ v L, o = .returned v ∧ Q4v2 Z a1 p3 p4 ck w0 w1 w2 w3 h0 n0 v U'.heap L ∧ FrameEnd U o U' L ({ frames := 1, cells := 0, slots := 0, locals := 13 } : Room).cells ({ frames := 1, cells := 0, slots := 0, locals := 13 } : Room).slots) := by
  refine MetFree.of_bodySF pf_5 hisR ?_
  intro p e s m args below meth c s₁ Bd hml0 hP hK
  obtain ⟨rfl, hZ, hh⟩ := hP
  have hx := Bd.exec
  have hby := Bd.bytes
  have hlk : meth.locks = false := BodyLoose.notSynchronized Bd
  have hml : c.maxLocals = 4 := hml0
  have hown : s.vm.findClass "com/example/ilsa/ilsa/io/LineFieldsRecordStartPinLaw" = some m.cls := findClass_of_methodNamed Bd.named
  have hnm := (name_of_methodNamed Bd.named Bd.method).1
  have X0 : Stand p l e ({ frames := 1, cells := 0, slots := 0, locals := 13 } : Room) s m #[(.ref a1), (.int (2 : Int32)), (.int p3), (.int p4)] below meth c s₁ [] 0 0 := Stand.of_body Bd
  have e0 : s₁.heap = h0 := by rw [← hh, Bd.state]; rfl
  have N0 := Fr.nil n0
  show Gl p e below s (Q4v2 Z a1 p3 p4 ck w0 w1 w2 w3 h0 n0) ({ frames := 1, cells := 0, slots := 0, locals := 13 } : Room).cells ({ frames := 1, cells := 0, slots := 0, locals := 13 } : Room).slots (s₁.setTop (entryFrame m #[(.ref a1), (.int (2 : Int32)), (.int p3), (.int p4)] 4))
  rw [ef_4v2]
  show Gl _ _ _ _ _ _ _ (s₁.setTop (mkF m 0 #[.val (.ref a1), .val (.int (2 : Int32)), .val (.int p3), .val (.int p4)] []))
  refine Gl.st (fun t k => XS.iloadN X0.here hx rfl (hb hby d4_0) rfl  k) ?_
  show Gl _ _ _ _ _ _ _ (s₁.setTop (mkF m 1 #[.val (.ref a1), .val (.int (2 : Int32)), .val (.int p3), .val (.int p4)] [(.int (2 : Int32))]))
  refine Gl.st (fun t k => XS.iloadN X0.here hx rfl (hb hby d4_1) rfl  k) ?_
  show Gl _ _ _ _ _ _ _ (s₁.setTop (mkF m 2 #[.val (.ref a1), .val (.int (2 : Int32)), .val (.int p3), .val (.int p4)] [(.int p3), (.int (2 : Int32))]))
  by_cases hc2 : (2 : Int32) < p3
  · refine Gl.st (fun t k => XS.icmpYes X0.here hx rfl (pc0 := 2) (pc' := 23) rfl (hb hby d4_2) rfl (tlt hc2).1 (by decide) (by decide) k) ?_
    show Gl _ _ _ _ _ _ _ (s₁.setTop (mkF m 23 #[.val (.ref a1), .val (.int (2 : Int32)), .val (.int p3), .val (.int p4)] []))
    refine Gl.st (fun t k => XS.iconst X0.here hx rfl (hb hby d4_23) k) ?_
    show Gl _ _ _ _ _ _ _ (s₁.setTop (mkF m 24 #[.val (.ref a1), .val (.int (2 : Int32)), .val (.int p3), .val (.int p4)] [(.int (0 : Int32))]))
    exact Gl.retN X0 hx hlk Bd.returns (by simp) (hb hby d4_24) (⟨congrArg (fun z => some (Value.int z)) (show (nar .boolean (0 : Int32)) = (own_field2 p3 p4 w0 w1 w2 w3) from by simp only [own_field2, if_pos hc2]), N0, e0⟩) (by decide) (by decide)
  · refine Gl.st (fun t k => XS.icmpNo X0.here hx rfl (hb hby d4_2) rfl (flt hc2).1 k) ?_
    show Gl _ _ _ _ _ _ _ (s₁.setTop (mkF m 5 #[.val (.ref a1), .val (.int (2 : Int32)), .val (.int p3), .val (.int p4)] []))
    refine Gl.st (fun t k => XS.iloadN X0.here hx rfl (hb hby d4_5) rfl  k) ?_
    show Gl _ _ _ _ _ _ _ (s₁.setTop (mkF m 6 #[.val (.ref a1), .val (.int (2 : Int32)), .val (.int p3), .val (.int p4)] [(.int (2 : Int32))]))
    refine Gl.st (fun t k => XS.iloadN X0.here hx rfl (hb hby d4_6) rfl  k) ?_
    show Gl _ _ _ _ _ _ _ (s₁.setTop (mkF m 7 #[.val (.ref a1), .val (.int (2 : Int32)), .val (.int p3), .val (.int p4)] [(.int p4), (.int (2 : Int32))]))
    by_cases hc7 : (2 : Int32) < p4
    · refine Gl.st (fun t k => XS.icmpNo X0.here hx rfl (hb hby d4_7) rfl (tlt hc7).2.1 k) ?_
      show Gl _ _ _ _ _ _ _ (s₁.setTop (mkF m 10 #[.val (.ref a1), .val (.int (2 : Int32)), .val (.int p3), .val (.int p4)] []))
      refine Gl.st (fun t k => XS.aloadN X0.here hx rfl (hb hby d4_10) rfl rfl k) ?_
      show Gl _ _ _ _ _ _ _ (s₁.setTop (mkF m 11 #[.val (.ref a1), .val (.int (2 : Int32)), .val (.int p3), .val (.int p4)] [(.ref a1)]))
      refine Gl.st (fun t k => XS.iloadN X0.here hx rfl (hb hby d4_11) rfl  k) ?_
      show Gl _ _ _ _ _ _ _ (s₁.setTop (mkF m 12 #[.val (.ref a1), .val (.int (2 : Int32)), .val (.int p3), .val (.int p4)] [(.int (2 : Int32)), (.ref a1)]))
      have Vx1 := Va
      obtain ⟨cl1, Ar1, qk1, S1, M1, H1, G1⟩ := Vx1
      have hin1 : ¬ ((2 : Int32) < 0 ∨ cl1.slots.size ≤ ((2 : Int32)).toNatClampNeg) := inb_of S1 ⟨by decide, by decide⟩
      have hat1 : cl1.slots[((2 : Int32)).toNatClampNeg]? = some (.int w2) := H1.at hin1 rfl
      refine Gl.st (X0.baloadBytes hx (j := (2 : Int32)) (v := (.int w2)) (by rw [e0]; exact Ar1.1) (State.isArrayOf_alike hZ.alike Ar1.2.1) Ar1.2.2 hin1 hat1 (g := (mkF m 12 #[.val (.ref a1), .val (.int (2 : Int32)), .val (.int p3), .val (.int p4)] [(.int (2 : Int32)), (.ref a1)])) rfl rfl (hb hby d4_12)) ?_
      show Gl _ _ _ _ _ _ _ (s₁.setTop (mkF m 13 #[.val (.ref a1), .val (.int (2 : Int32)), .val (.int p3), .val (.int p4)] [(.int w2)]))
      obtain ⟨_, _, ⟨T2, L2, k2, n2⟩, -, X2, ⟨Lc2, hQ2, l2, y2, z2⟩, st2⟩ := Jvm.LawKit.callS X0 hx (y := (⟨"com/example/ilsa/ilsa/io/LineFieldsRecordStartPinLaw", "ws", "(B)Z"⟩ : MethodName)) hown (mvT hZ (hw _ (List.mem_of_getElem? (i := 22) rfl))) (mvT hZ (hw _ (List.mem_of_getElem? (i := 23) rfl))) (mvT hZ (hw _ (List.mem_of_getElem? (i := 3) rfl))) (mvT hZ (hw _ (List.mem_of_getElem? (i := 24) rfl))) (by decide) (backOf (W := 0) (rm7 l Z a0 hw [] w2 h0 n0) hZ (hw _ (List.mem_of_getElem? (i := 24) rfl)) (hw _ (List.mem_of_getElem? (i := 3) rfl)) (by decide) (by decide)) (g := (mkF m 13 #[.val (.ref a1), .val (.int (2 : Int32)), .val (.int p3), .val (.int p4)] [(.int w2)])) rfl (by rw [hml]; rfl) (argsL := [(.int w2)]) (rest := []) (lenOf pd_0 rfl) rfl (by show 2 * 0 + _ ≤ _; exact Nat.le_of_eq rfl) (hb hby d4_13) (fun _ _ => ⟨rfl, e0, (by decide : 0 + 0 ≤ _), (by decide : 0 + 0 ≤ _)⟩)
      dsimp only [Pt.U, Pt.locs, Pt.cells, Pt.slots] at X2 l2 y2 z2 st2 hQ2
      rw [y2, z2] at X2
      obtain ⟨rfl, N2q, e2⟩ := hQ2
      have N2 : Fr n0 L2 := by rw [l2]; exact Fr.app N0 N2q
      refine Gl.st st2 ?_
      show Gl _ _ _ _ _ _ _ (T2.setTop (mkF m 16 #[.val (.ref a1), .val (.int (2 : Int32)), .val (.int p3), .val (.int p4)] [(.int (own_ws w2))]))
      by_cases hc16 : (own_ws w2) = (0 : Int32)
      · refine Gl.st (fun t k => XS.ifNo X2.here hx rfl (hb hby d4_16) rfl ((if0 _ _).trans (teq hc16).2) k) ?_
        show Gl _ _ _ _ _ _ _ (T2.setTop (mkF m 19 #[.val (.ref a1), .val (.int (2 : Int32)), .val (.int p3), .val (.int p4)] []))
        refine Gl.st (fun t k => XS.iconst X2.here hx rfl (hb hby d4_19) k) ?_
        show Gl _ _ _ _ _ _ _ (T2.setTop (mkF m 20 #[.val (.ref a1), .val (.int (2 : Int32)), .val (.int p3), .val (.int p4)] [(.int (1 : Int32))]))
        refine Gl.st (fun t k => XS.goto X2.here hx rfl (pc0 := 20) (pc' := 24) rfl (hb hby d4_20) (by decide) (by decide) k) ?_
        show Gl _ _ _ _ _ _ _ (T2.setTop (mkF m 24 #[.val (.ref a1), .val (.int (2 : Int32)), .val (.int p3), .val (.int p4)] [(.int (1 : Int32))]))
        exact Gl.retN X2 hx hlk Bd.returns (by simp) (hb hby d4_24) (⟨congrArg (fun z => some (Value.int z)) (show (nar .boolean (1 : Int32)) = (own_field2 p3 p4 w0 w1 w2 w3) from by simp only [own_field2, if_neg hc2, if_pos hc7, if_pos hc16]), N2, e2⟩) (by decide) (by decide)
      · refine Gl.st (fun t k => XS.ifYes X2.here hx rfl (pc0 := 16) (pc' := 23) rfl (hb hby d4_16) rfl ((if0 _ _).trans (feq hc16).2) (by decide) (by decide) k) ?_
        show Gl _ _ _ _ _ _ _ (T2.setTop (mkF m 23 #[.val (.ref a1), .val (.int (2 : Int32)), .val (.int p3), .val (.int p4)] []))
        refine Gl.st (fun t k => XS.iconst X2.here hx rfl (hb hby d4_23) k) ?_
        show Gl _ _ _ _ _ _ _ (T2.setTop (mkF m 24 #[.val (.ref a1), .val (.int (2 : Int32)), .val (.int p3), .val (.int p4)] [(.int (0 : Int32))]))
        exact Gl.retN X2 hx hlk Bd.returns (by simp) (hb hby d4_24) (⟨congrArg (fun z => some (Value.int z)) (show (nar .boolean (0 : Int32)) = (own_field2 p3 p4 w0 w1 w2 w3) from by simp only [own_field2, if_neg hc2, if_pos hc7, if_neg hc16]), N2, e2⟩) (by decide) (by decide)
    · refine Gl.st (fun t k => XS.icmpYes X0.here hx rfl (pc0 := 7) (pc' := 23) rfl (hb hby d4_7) rfl (flt hc7).2.1 (by decide) (by decide) k) ?_
      show Gl _ _ _ _ _ _ _ (s₁.setTop (mkF m 23 #[.val (.ref a1), .val (.int (2 : Int32)), .val (.int p3), .val (.int p4)] []))
      refine Gl.st (fun t k => XS.iconst X0.here hx rfl (hb hby d4_23) k) ?_
      show Gl _ _ _ _ _ _ _ (s₁.setTop (mkF m 24 #[.val (.ref a1), .val (.int (2 : Int32)), .val (.int p3), .val (.int p4)] [(.int (0 : Int32))]))
      exact Gl.retN X0 hx hlk Bd.returns (by simp) (hb hby d4_24) (⟨congrArg (fun z => some (Value.int z)) (show (nar .boolean (0 : Int32)) = (own_field2 p3 p4 w0 w1 w2 w3) from by simp only [own_field2, if_neg hc2, if_neg hc7]), N0, e0⟩) (by decide) (by decide)
def own_field3 (p3 : Int32) (p4 : Int32) (w0 : Int32) (w1 : Int32) (w2 : Int32) (w3 : Int32) : Int32 := (if (3 : Int32) < p3 then (nar .boolean (0 : Int32)) else (if (3 : Int32) < p4 then (if (own_ws w3) = (0 : Int32) then (nar .boolean (1 : Int32)) else (nar .boolean (0 : Int32))) else (nar .boolean (0 : Int32))))
def Q4v3 (Z : State) (a1 : Addr) (p3 : Int32) (p4 : Int32) (ck : ClassId) (w0 : Int32) (w1 : Int32) (w2 : Int32) (w3 : Int32) (h0 : Heap) (n0 : Nat) (v : Option Value) (h : Heap) (L : List Loc) : Prop := v = some (.int (own_field3 p3 p4 w0 w1 w2 w3)) ∧ Fr n0 L ∧ h = h0
theorem ef_4v3 (m : MethodId) (a1 : Addr) (p3 : Int32) (p4 : Int32) : entryFrame m #[(.ref a1), (.int (3 : Int32)), (.int p3), (.int p4)] 4 = mkF m 0 #[.val (.ref a1), .val (.int (3 : Int32)), .val (.int p3), .val (.int p4)] [] := by first | (simp [entryFrame, mkF, argsToLocals, Value.category]; done) | rfl
set_option maxRecDepth 65536 in
set_option maxHeartbeats 40000000 in
theorem rm4v3 (l : Launch) (Z : State) (a0 : Array Value) (hw : ∀ d ∈ tables_1, d.before a0 Z = true) (ws : List Jvm.Cond) (a1 : Addr) (p3 : Int32) (p4 : Int32) (ck : ClassId) (w0 : Int32) (w1 : Int32) (w2 : Int32) (w3 : Int32) (h0 : Heap) (n0 : Nat) (Va : Arv Z h0 a1 ck .byte (4 : Int32) [(.int w0), (.int w1), (.int w2), (.int w3)] (.int (0 : Int32))) :
    MetFree l (⟨"com/example/ilsa/ilsa/io/LineFieldsRecordStartPinLaw", "field", "([BIII)Z"⟩ : MethodName) (head1 (Jvm.Cond.code (⟨"com/example/ilsa/ilsa/io/LineFieldsRecordStartPinLaw", "field", "([BIII)Z"⟩ : MethodName) method_4_code 4 (some .boolean) :: ws) ({ frames := 1, cells := 0, slots := 0, locals := 13 } : Room)) (fun a U => a = #[(.ref a1), (.int (3 : Int32)), (.int p3), (.int p4)] ∧ Z.Warmed39 U.vm ∧ U.heap = h0) (fun _ _ _ _ _ => True) (fun _ U o U' => ∃ v L, o = .returned v ∧ Q4v3 Z a1 p3 p4 ck w0 w1 w2 w3 h0 n0 v U'.heap L ∧ FrameEnd U o U' L ({ frames := 1, cells := 0, slots := 0, locals := 13 } : Room).cells ({ frames := 1, cells := 0, slots := 0, locals := 13 } : Room).slots) := by
  refine MetFree.of_bodySF pf_5 hisR ?_
  intro p e s m args below meth c s₁ Bd hml0 hP hK
  obtain ⟨rfl, hZ, hh⟩ := hP
  have hx := Bd.exec
  have hby := Bd.bytes
  have hlk : meth.locks = false := BodyLoose.notSynchronized Bd
  have hml : c.maxLocals = 4 := hml0
  have hown : s.vm.findClass "com/example/ilsa/ilsa/io/LineFieldsRecordStartPinLaw" = some m.cls := findClass_of_methodNamed Bd.named
  have hnm := (name_of_methodNamed Bd.named Bd.method).1
  have X0 : Stand p l e ({ frames := 1, cells := 0, slots := 0, locals := 13 } : Room) s m #[(.ref a1), (.int (3 : Int32)), (.int p3), (.int p4)] below meth c s₁ [] 0 0 := Stand.of_body Bd
  have e0 : s₁.heap = h0 := by rw [← hh, Bd.state]; rfl
  have N0 := Fr.nil n0
  show Gl p e below s (Q4v3 Z a1 p3 p4 ck w0 w1 w2 w3 h0 n0) ({ frames := 1, cells := 0, slots := 0, locals := 13 } : Room).cells ({ frames := 1, cells := 0, slots := 0, locals := 13 } : Room).slots (s₁.setTop (entryFrame m #[(.ref a1), (.int (3 : Int32)), (.int p3), (.int p4)] 4))
  rw [ef_4v3]
  show Gl _ _ _ _ _ _ _ (s₁.setTop (mkF m 0 #[.val (.ref a1), .val (.int (3 : Int32)), .val (.int p3), .val (.int p4)] []))
  refine Gl.st (fun t k => XS.iloadN X0.here hx rfl (hb hby d4_0) rfl  k) ?_
  show Gl _ _ _ _ _ _ _ (s₁.setTop (mkF m 1 #[.val (.ref a1), .val (.int (3 : Int32)), .val (.int p3), .val (.int p4)] [(.int (3 : Int32))]))
  refine Gl.st (fun t k => XS.iloadN X0.here hx rfl (hb hby d4_1) rfl  k) ?_
  show Gl _ _ _ _ _ _ _ (s₁.setTop (mkF m 2 #[.val (.ref a1), .val (.int (3 : Int32)), .val (.int p3), .val (.int p4)] [(.int p3), (.int (3 : Int32))]))
  by_cases hc2 : (3 : Int32) < p3
  · refine Gl.st (fun t k => XS.icmpYes X0.here hx rfl (pc0 := 2) (pc' := 23) rfl (hb hby d4_2) rfl (tlt hc2).1 (by decide) (by decide) k) ?_
    show Gl _ _ _ _ _ _ _ (s₁.setTop (mkF m 23 #[.val (.ref a1), .val (.int (3 : Int32)), .val (.int p3), .val (.int p4)] []))
    refine Gl.st (fun t k => XS.iconst X0.here hx rfl (hb hby d4_23) k) ?_
    show Gl _ _ _ _ _ _ _ (s₁.setTop (mkF m 24 #[.val (.ref a1), .val (.int (3 : Int32)), .val (.int p3), .val (.int p4)] [(.int (0 : Int32))]))
    exact Gl.retN X0 hx hlk Bd.returns (by simp) (hb hby d4_24) (⟨congrArg (fun z => some (Value.int z)) (show (nar .boolean (0 : Int32)) = (own_field3 p3 p4 w0 w1 w2 w3) from by simp only [own_field3, if_pos hc2]), N0, e0⟩) (by decide) (by decide)
  · refine Gl.st (fun t k => XS.icmpNo X0.here hx rfl (hb hby d4_2) rfl (flt hc2).1 k) ?_
    show Gl _ _ _ _ _ _ _ (s₁.setTop (mkF m 5 #[.val (.ref a1), .val (.int (3 : Int32)), .val (.int p3), .val (.int p4)] []))
    refine Gl.st (fun t k => XS.iloadN X0.here hx rfl (hb hby d4_5) rfl  k) ?_
    show Gl _ _ _ _ _ _ _ (s₁.setTop (mkF m 6 #[.val (.ref a1), .val (.int (3 : Int32)), .val (.int p3), .val (.int p4)] [(.int (3 : Int32))]))
    refine Gl.st (fun t k => XS.iloadN X0.here hx rfl (hb hby d4_6) rfl  k) ?_
    show Gl _ _ _ _ _ _ _ (s₁.setTop (mkF m 7 #[.val (.ref a1), .val (.int (3 : Int32)), .val (.int p3), .val (.int p4)] [(.int p4), (.int (3 : Int32))]))
    by_cases hc7 : (3 : Int32) < p4
    · refine Gl.st (fun t k => XS.icmpNo X0.here hx rfl (hb hby d4_7) rfl (tlt hc7).2.1 k) ?_
      show Gl _ _ _ _ _ _ _ (s₁.setTop (mkF m 10 #[.val (.ref a1), .val (.int (3 : Int32)), .val (.int p3), .val (.int p4)] []))
      refine Gl.st (fun t k => XS.aloadN X0.here hx rfl (hb hby d4_10) rfl rfl k) ?_
      show Gl _ _ _ _ _ _ _ (s₁.setTop (mkF m 11 #[.val (.ref a1), .val (.int (3 : Int32)), .val (.int p3), .val (.int p4)] [(.ref a1)]))
      refine Gl.st (fun t k => XS.iloadN X0.here hx rfl (hb hby d4_11) rfl  k) ?_
      show Gl _ _ _ _ _ _ _ (s₁.setTop (mkF m 12 #[.val (.ref a1), .val (.int (3 : Int32)), .val (.int p3), .val (.int p4)] [(.int (3 : Int32)), (.ref a1)]))
      have Vx1 := Va
      obtain ⟨cl1, Ar1, qk1, S1, M1, H1, G1⟩ := Vx1
      have hin1 : ¬ ((3 : Int32) < 0 ∨ cl1.slots.size ≤ ((3 : Int32)).toNatClampNeg) := inb_of S1 ⟨by decide, by decide⟩
      have hat1 : cl1.slots[((3 : Int32)).toNatClampNeg]? = some (.int w3) := H1.at hin1 rfl
      refine Gl.st (X0.baloadBytes hx (j := (3 : Int32)) (v := (.int w3)) (by rw [e0]; exact Ar1.1) (State.isArrayOf_alike hZ.alike Ar1.2.1) Ar1.2.2 hin1 hat1 (g := (mkF m 12 #[.val (.ref a1), .val (.int (3 : Int32)), .val (.int p3), .val (.int p4)] [(.int (3 : Int32)), (.ref a1)])) rfl rfl (hb hby d4_12)) ?_
      show Gl _ _ _ _ _ _ _ (s₁.setTop (mkF m 13 #[.val (.ref a1), .val (.int (3 : Int32)), .val (.int p3), .val (.int p4)] [(.int w3)]))
      obtain ⟨_, _, ⟨T2, L2, k2, n2⟩, -, X2, ⟨Lc2, hQ2, l2, y2, z2⟩, st2⟩ := Jvm.LawKit.callS X0 hx (y := (⟨"com/example/ilsa/ilsa/io/LineFieldsRecordStartPinLaw", "ws", "(B)Z"⟩ : MethodName)) hown (mvT hZ (hw _ (List.mem_of_getElem? (i := 22) rfl))) (mvT hZ (hw _ (List.mem_of_getElem? (i := 23) rfl))) (mvT hZ (hw _ (List.mem_of_getElem? (i := 3) rfl))) (mvT hZ (hw _ (List.mem_of_getElem? (i := 24) rfl))) (by decide) (backOf (W := 0) (rm7 l Z a0 hw [] w3 h0 n0) hZ (hw _ (List.mem_of_getElem? (i := 24) rfl)) (hw _ (List.mem_of_getElem? (i := 3) rfl)) (by decide) (by decide)) (g := (mkF m 13 #[.val (.ref a1), .val (.int (3 : Int32)), .val (.int p3), .val (.int p4)] [(.int w3)])) rfl (by rw [hml]; rfl) (argsL := [(.int w3)]) (rest := []) (lenOf pd_0 rfl) rfl (by show 2 * 0 + _ ≤ _; exact Nat.le_of_eq rfl) (hb hby d4_13) (fun _ _ => ⟨rfl, e0, (by decide : 0 + 0 ≤ _), (by decide : 0 + 0 ≤ _)⟩)
      dsimp only [Pt.U, Pt.locs, Pt.cells, Pt.slots] at X2 l2 y2 z2 st2 hQ2
      rw [y2, z2] at X2
      obtain ⟨rfl, N2q, e2⟩ := hQ2
      have N2 : Fr n0 L2 := by rw [l2]; exact Fr.app N0 N2q
      refine Gl.st st2 ?_
      show Gl _ _ _ _ _ _ _ (T2.setTop (mkF m 16 #[.val (.ref a1), .val (.int (3 : Int32)), .val (.int p3), .val (.int p4)] [(.int (own_ws w3))]))
      by_cases hc16 : (own_ws w3) = (0 : Int32)
      · refine Gl.st (fun t k => XS.ifNo X2.here hx rfl (hb hby d4_16) rfl ((if0 _ _).trans (teq hc16).2) k) ?_
        show Gl _ _ _ _ _ _ _ (T2.setTop (mkF m 19 #[.val (.ref a1), .val (.int (3 : Int32)), .val (.int p3), .val (.int p4)] []))
        refine Gl.st (fun t k => XS.iconst X2.here hx rfl (hb hby d4_19) k) ?_
        show Gl _ _ _ _ _ _ _ (T2.setTop (mkF m 20 #[.val (.ref a1), .val (.int (3 : Int32)), .val (.int p3), .val (.int p4)] [(.int (1 : Int32))]))
        refine Gl.st (fun t k => XS.goto X2.here hx rfl (pc0 := 20) (pc' := 24) rfl (hb hby d4_20) (by decide) (by decide) k) ?_
        show Gl _ _ _ _ _ _ _ (T2.setTop (mkF m 24 #[.val (.ref a1), .val (.int (3 : Int32)), .val (.int p3), .val (.int p4)] [(.int (1 : Int32))]))
        exact Gl.retN X2 hx hlk Bd.returns (by simp) (hb hby d4_24) (⟨congrArg (fun z => some (Value.int z)) (show (nar .boolean (1 : Int32)) = (own_field3 p3 p4 w0 w1 w2 w3) from by simp only [own_field3, if_neg hc2, if_pos hc7, if_pos hc16]), N2, e2⟩) (by decide) (by decide)
      · refine Gl.st (fun t k => XS.ifYes X2.here hx rfl (pc0 := 16) (pc' := 23) rfl (hb hby d4_16) rfl ((if0 _ _).trans (feq hc16).2) (by decide) (by decide) k) ?_
        show Gl _ _ _ _ _ _ _ (T2.setTop (mkF m 23 #[.val (.ref a1), .val (.int (3 : Int32)), .val (.int p3), .val (.int p4)] []))
        refine Gl.st (fun t k => XS.iconst X2.here hx rfl (hb hby d4_23) k) ?_
        show Gl _ _ _ _ _ _ _ (T2.setTop (mkF m 24 #[.val (.ref a1), .val (.int (3 : Int32)), .val (.int p3), .val (.int p4)] [(.int (0 : Int32))]))
        exact Gl.retN X2 hx hlk Bd.returns (by simp) (hb hby d4_24) (⟨congrArg (fun z => some (Value.int z)) (show (nar .boolean (0 : Int32)) = (own_field3 p3 p4 w0 w1 w2 w3) from by simp only [own_field3, if_neg hc2, if_pos hc7, if_neg hc16]), N2, e2⟩) (by decide) (by decide)
    · refine Gl.st (fun t k => XS.icmpYes X0.here hx rfl (pc0 := 7) (pc' := 23) rfl (hb hby d4_7) rfl (flt hc7).2.1 (by decide) (by decide) k) ?_
      show Gl _ _ _ _ _ _ _ (s₁.setTop (mkF m 23 #[.val (.ref a1), .val (.int (3 : Int32)), .val (.int p3), .val (.int p4)] []))
      refine Gl.st (fun t k => XS.iconst X0.here hx rfl (hb hby d4_23) k) ?_
      show Gl _ _ _ _ _ _ _ (s₁.setTop (mkF m 24 #[.val (.ref a1), .val (.int (3 : Int32)), .val (.int p3), .val (.int p4)] [(.int (0 : Int32))]))
      exact Gl.retN X0 hx hlk Bd.returns (by simp) (hb hby d4_24) (⟨congrArg (fun z => some (Value.int z)) (show (nar .boolean (0 : Int32)) = (own_field3 p3 p4 w0 w1 w2 w3) from by simp only [own_field3, if_neg hc2, if_neg hc7]), N0, e0⟩) (by decide) (by decide)
theorem own_getD (bs : List Int32) (n : Nat) : (bs.map Value.int).getD n (.int 0) = .int (bs.getD n 0) := by
  simp only [List.getD_eq_getElem?_getD, List.getElem?_map]
  cases bs[n]? <;> rfl
theorem own_succ {i : Int32} (h : i.toInt < 2147483647) : (i + 1).toInt = i.toInt + 1 := by
  have a := c_iadd i 1
  have b := rng32 i
  have d := rng32 (i + 1)
  have e : (1 : Int32).toInt = 1 := by decide
  omega
theorem own_nn {i : Int32} (h : 0 ≤ i.toInt) : ¬ i < 0 := by
  rw [Int32.lt_iff_toInt_lt, show (0 : Int32).toInt = 0 from by decide]; omega
theorem own_lit {i j : Int32} {n : Int} (hj : j.toInt = n) (h : i.toInt < n) : i < j := by
  rw [Int32.lt_iff_toInt_lt, hj]; exact h
def own_scanN (bs : List Int32) : Nat → Int32 → Int32
  | 0, i => i
  | k + 1, i => if own_isws (bs.getD i.toNatClampNeg 0) = 0 then i else own_scanN bs k (i + 1)
def own_start (bs : List Int32) (f t : Int32) : Int32 := own_scanN bs (t.toInt - f.toInt).toNat f
theorem d6_0 : decode prog_5_method_3_code 0 = .ok (.iload_n 1, 1) := by decide +kernel
theorem d6_1 : decode prog_5_method_3_code 1 = .ok (.istore_n 3, 1) := by decide +kernel
theorem d6_2 : decode prog_5_method_3_code 2 = .ok (.iload_n 3, 1) := by decide +kernel
theorem d6_3 : decode prog_5_method_3_code 3 = .ok (.iload_n 2, 1) := by decide +kernel
theorem d6_4 : decode prog_5_method_3_code 4 = .ok (.if_icmp .ge 18, 3) := by decide +kernel
theorem d6_7 : decode prog_5_method_3_code 7 = .ok (.aload_n 0, 1) := by decide +kernel
theorem d6_8 : decode prog_5_method_3_code 8 = .ok (.iload_n 3, 1) := by decide +kernel
theorem d6_9 : decode prog_5_method_3_code 9 = .ok (.baload, 1) := by decide +kernel
theorem d6_10 : decode prog_5_method_3_code 10 = .ok (.invokestatic 13, 3) := by decide +kernel
theorem d6_13 : decode prog_5_method_3_code 13 = .ok (.ifCond .eq 9, 3) := by decide +kernel
theorem d6_16 : decode prog_5_method_3_code 16 = .ok (.iinc 3 1, 3) := by decide +kernel
theorem d6_19 : decode prog_5_method_3_code 19 = .ok (.goto (-17), 3) := by decide +kernel
theorem d6_22 : decode prog_5_method_3_code 22 = .ok (.iload_n 3, 1) := by decide +kernel
theorem d6_23 : decode prog_5_method_3_code 23 = .ok (.ireturn, 1) := by decide +kernel
theorem pf_6 : plainFor (⟨"com/example/ilsa/ilsa/io/LineFields", "fieldStart", "([BII)I"⟩ : MethodName) = true := by decide +kernel
def Q6 (Z : State) (a1 : Addr) (p2 : Int32) (p3 : Int32) (ck : ClassId) (w0 : Int32) (w1 : Int32) (w2 : Int32) (w3 : Int32) (h0 : Heap) (n0 : Nat) (v : Option Value) (h : Heap) (L : List Loc) : Prop := v = some (.int (own_start [w0, w1, w2, w3] p2 p3)) ∧ Fr n0 L ∧ h = h0
theorem ef_6 (m : MethodId) (a1 : Addr) (p2 : Int32) (p3 : Int32) : entryFrame m #[(.ref a1), (.int p2), (.int p3)] 4 = mkF m 0 #[.val (.ref a1), .val (.int p2), .val (.int p3), .unset] [] := by first | (simp [entryFrame, mkF, argsToLocals, Value.category]; done) | rfl
set_option maxRecDepth 65536 in
set_option maxHeartbeats 40000000 in
theorem rm6 (l : Launch) (Z : State) (a0 : Array Value) (hw : ∀ d ∈ tables_1, d.before a0 Z = true) (ws : List Jvm.Cond) (a1 : Addr) (p2 : Int32) (p3 : Int32) (ck : ClassId) (w0 : Int32) (w1 : Int32) (w2 : Int32) (w3 : Int32) (h0 : Heap) (n0 : Nat) (Va : Arv Z h0 a1 ck .byte (4 : Int32) [(.int w0), (.int w1), (.int w2), (.int w3)] (.int (0 : Int32))) (hb1 : 0 ≤ p2.toInt) (hb2 : p2.toInt ≤ p3.toInt) (hb3 : p3.toInt ≤ 4) :
    MetFree l (⟨"com/example/ilsa/ilsa/io/LineFields", "fieldStart", "([BII)I"⟩ : MethodName) (head1 (Jvm.Cond.code (⟨"com/example/ilsa/ilsa/io/LineFields", "fieldStart", "([BII)I"⟩ : MethodName) prog_5_method_3_code 4 (some .int) :: ws) ({ frames := 1, cells := 0, slots := 0, locals := 12 } : Room)) (fun a U => a = #[(.ref a1), (.int p2), (.int p3)] ∧ Z.Warmed39 U.vm ∧ U.heap = h0) (fun _ _ _ _ _ => True) (fun _ U o U' => ∃ v L, o = .returned v ∧ Q6 Z a1 p2 p3 ck w0 w1 w2 w3 h0 n0 v U'.heap L ∧ FrameEnd U o U' L ({ frames := 1, cells := 0, slots := 0, locals := 12 } : Room).cells ({ frames := 1, cells := 0, slots := 0, locals := 12 } : Room).slots) := by
  refine MetFree.of_bodySF pf_6 hisR ?_
  intro p e s m args below meth c s₁ Bd hml0 hP hK
  obtain ⟨rfl, hZ, hh⟩ := hP
  have hx := Bd.exec
  have hby := Bd.bytes
  have hlk : meth.locks = false := BodyLoose.notSynchronized Bd
  have hml : c.maxLocals = 4 := hml0
  have hown : s.vm.findClass "com/example/ilsa/ilsa/io/LineFields" = some m.cls := findClass_of_methodNamed Bd.named
  have hnm := (name_of_methodNamed Bd.named Bd.method).1
  have X0 : Stand p l e ({ frames := 1, cells := 0, slots := 0, locals := 12 } : Room) s m #[(.ref a1), (.int p2), (.int p3)] below meth c s₁ [] 0 0 := Stand.of_body Bd
  have e0 : s₁.heap = h0 := by rw [← hh, Bd.state]; rfl
  have N0 := Fr.nil n0
  show Gl p e below s (Q6 Z a1 p2 p3 ck w0 w1 w2 w3 h0 n0) ({ frames := 1, cells := 0, slots := 0, locals := 12 } : Room).cells ({ frames := 1, cells := 0, slots := 0, locals := 12 } : Room).slots (s₁.setTop (entryFrame m #[(.ref a1), (.int p2), (.int p3)] 4))
  rw [ef_6]
  show Gl _ _ _ _ _ _ _ (s₁.setTop (mkF m 0 #[.val (.ref a1), .val (.int p2), .val (.int p3), .unset] []))
  refine Gl.st (fun t k => XS.iloadN X0.here hx rfl (hb hby d6_0) rfl  k) ?_
  show Gl _ _ _ _ _ _ _ (s₁.setTop (mkF m 1 #[.val (.ref a1), .val (.int p2), .val (.int p3), .unset] [(.int p2)]))
  refine Gl.st (fun t k => XS.istoreN X0.here hx rfl (hb hby d6_1) rfl (l' := #[.val (.ref a1), .val (.int p2), .val (.int p3), .val (.int p2)]) rfl k) ?_
  have LP1 : ∀ (k : Nat) (Tl1 : State) (Ll1 : List Loc) (Xl1 : Stand p l e ({ frames := 1, cells := 0, slots := 0, locals := 12 } : Room) s m #[(.ref a1), (.int p2), (.int p3)] below meth c Tl1 Ll1 0 0) (el1 : Tl1.heap = h0) (Nl1 : Fr n0 Ll1) (i : Int32) (hi1 : 0 ≤ i.toInt) (hk : i.toInt + (k : Nat) = p3.toInt) (hR : own_scanN [w0, w1, w2, w3] k i = own_start [w0, w1, w2, w3] p2 p3), Gl p e below s (Q6 Z a1 p2 p3 ck w0 w1 w2 w3 h0 n0) ({ frames := 1, cells := 0, slots := 0, locals := 12 } : Room).cells ({ frames := 1, cells := 0, slots := 0, locals := 12 } : Room).slots (Tl1.setTop (mkF m 2 #[.val (.ref a1), .val (.int p2), .val (.int p3), .val (.int i)] [])) := by
    intro k
    induction k with
    | zero =>
      intro Tl1 Ll1 Xl1 el1 Nl1 i hi1 hk hR
      show Gl _ _ _ _ _ _ _ (Tl1.setTop (mkF m 2 #[.val (.ref a1), .val (.int p2), .val (.int p3), .val (.int i)] []))
      refine Gl.st (fun t k => XS.iloadN Xl1.here hx rfl (hb hby d6_2) rfl  k) ?_
      show Gl _ _ _ _ _ _ _ (Tl1.setTop (mkF m 3 #[.val (.ref a1), .val (.int p2), .val (.int p3), .val (.int i)] [(.int i)]))
      refine Gl.st (fun t k => XS.iloadN Xl1.here hx rfl (hb hby d6_3) rfl  k) ?_
      show Gl _ _ _ _ _ _ _ (Tl1.setTop (mkF m 4 #[.val (.ref a1), .val (.int p2), .val (.int p3), .val (.int i)] [(.int p3), (.int i)]))
      have hc4_2 : ¬ (i < p3) := by rw [Int32.lt_iff_toInt_lt]; omega
      refine Gl.st (fun t k => XS.icmpYes Xl1.here hx rfl (pc0 := 4) (pc' := 22) rfl (hb hby d6_4) rfl (flt hc4_2).2.1 (by decide) (by decide) k) ?_
      show Gl _ _ _ _ _ _ _ (Tl1.setTop (mkF m 22 #[.val (.ref a1), .val (.int p2), .val (.int p3), .val (.int i)] []))
      refine Gl.st (fun t k => XS.iloadN Xl1.here hx rfl (hb hby d6_22) rfl  k) ?_
      show Gl _ _ _ _ _ _ _ (Tl1.setTop (mkF m 23 #[.val (.ref a1), .val (.int p2), .val (.int p3), .val (.int i)] [(.int i)]))
      exact Gl.retI Xl1 hx hlk Bd.returns (hb hby d6_23) (⟨congrArg (fun z => some (Value.int z)) (show i = own_start [w0, w1, w2, w3] p2 p3 from hR), Nl1, el1⟩) (by decide) (by decide)
    | succ k ih =>
      intro Tl1 Ll1 Xl1 el1 Nl1 i hi1 hk hR
      show Gl _ _ _ _ _ _ _ (Tl1.setTop (mkF m 2 #[.val (.ref a1), .val (.int p2), .val (.int p3), .val (.int i)] []))
      refine Gl.st (fun t k => XS.iloadN Xl1.here hx rfl (hb hby d6_2) rfl  k) ?_
      show Gl _ _ _ _ _ _ _ (Tl1.setTop (mkF m 3 #[.val (.ref a1), .val (.int p2), .val (.int p3), .val (.int i)] [(.int i)]))
      refine Gl.st (fun t k => XS.iloadN Xl1.here hx rfl (hb hby d6_3) rfl  k) ?_
      show Gl _ _ _ _ _ _ _ (Tl1.setTop (mkF m 4 #[.val (.ref a1), .val (.int p2), .val (.int p3), .val (.int i)] [(.int p3), (.int i)]))
      have hc4_3 : i < p3 := by rw [Int32.lt_iff_toInt_lt]; omega
      refine Gl.st (fun t k => XS.icmpNo Xl1.here hx rfl (hb hby d6_4) rfl (tlt hc4_3).2.1 k) ?_
      show Gl _ _ _ _ _ _ _ (Tl1.setTop (mkF m 7 #[.val (.ref a1), .val (.int p2), .val (.int p3), .val (.int i)] []))
      refine Gl.st (fun t k => XS.aloadN Xl1.here hx rfl (hb hby d6_7) rfl rfl k) ?_
      show Gl _ _ _ _ _ _ _ (Tl1.setTop (mkF m 8 #[.val (.ref a1), .val (.int p2), .val (.int p3), .val (.int i)] [(.ref a1)]))
      refine Gl.st (fun t k => XS.iloadN Xl1.here hx rfl (hb hby d6_8) rfl  k) ?_
      show Gl _ _ _ _ _ _ _ (Tl1.setTop (mkF m 9 #[.val (.ref a1), .val (.int p2), .val (.int p3), .val (.int i)] [(.int i), (.ref a1)]))
      have Vx4 := Va
      obtain ⟨cl4, Ar4, qk4, S4, M4, H4, G4⟩ := Vx4
      have hin4 : ¬ (i < 0 ∨ cl4.slots.size ≤ (i).toNatClampNeg) := inb_of S4 ⟨own_nn hi1, own_lit (n := 4) (by decide) (by omega)⟩
      have hat4 : cl4.slots[(i).toNatClampNeg]? = some (.int ([w0, w1, w2, w3].getD i.toNatClampNeg 0)) := H4.at hin4 (own_getD [w0, w1, w2, w3] _)
      refine Gl.st (Xl1.baloadBytes hx (j := i) (v := (.int ([w0, w1, w2, w3].getD i.toNatClampNeg 0))) (by rw [el1]; exact Ar4.1) (State.isArrayOf_alike hZ.alike Ar4.2.1) Ar4.2.2 hin4 hat4 (g := (mkF m 9 #[.val (.ref a1), .val (.int p2), .val (.int p3), .val (.int i)] [(.int i), (.ref a1)])) rfl rfl (hb hby d6_9)) ?_
      show Gl _ _ _ _ _ _ _ (Tl1.setTop (mkF m 10 #[.val (.ref a1), .val (.int p2), .val (.int p3), .val (.int i)] [(.int ([w0, w1, w2, w3].getD i.toNatClampNeg 0))]))
      obtain ⟨_, _, ⟨T5, L5, k5, n5⟩, -, X5, ⟨Lc5, hQ5, l5, y5, z5⟩, st5⟩ := Jvm.LawKit.callS Xl1 hx (y := (⟨"com/example/ilsa/ilsa/io/LineFields", "isWhitespace", "(B)Z"⟩ : MethodName)) hown (mvT hZ (hw _ (List.mem_of_getElem? (i := 25) rfl))) (mvT hZ (hw _ (List.mem_of_getElem? (i := 26) rfl))) (mvT hZ (hw _ (List.mem_of_getElem? (i := 17) rfl))) (mvT hZ (hw _ (List.mem_of_getElem? (i := 27) rfl))) (by decide) (backOf (W := 0) (rm8 l Z a0 hw [] ([w0, w1, w2, w3].getD i.toNatClampNeg 0) h0 n0) hZ (hw _ (List.mem_of_getElem? (i := 27) rfl)) (hw _ (List.mem_of_getElem? (i := 17) rfl)) (by decide) (by decide)) (g := (mkF m 10 #[.val (.ref a1), .val (.int p2), .val (.int p3), .val (.int i)] [(.int ([w0, w1, w2, w3].getD i.toNatClampNeg 0))])) rfl (by rw [hml]; rfl) (argsL := [(.int ([w0, w1, w2, w3].getD i.toNatClampNeg 0))]) (rest := []) (lenOf pd_0 rfl) rfl (by show 2 * 0 + _ ≤ _; exact Nat.le_of_eq rfl) (hb hby d6_10) (fun _ _ => ⟨rfl, el1, (by decide : 0 + 0 ≤ _), (by decide : 0 + 0 ≤ _)⟩)
      dsimp only [Pt.U, Pt.locs, Pt.cells, Pt.slots] at X5 l5 y5 z5 st5 hQ5
      rw [y5, z5] at X5
      obtain ⟨rfl, N5q, e5⟩ := hQ5
      have N5 : Fr n0 L5 := by rw [l5]; exact Fr.app Nl1 N5q
      refine Gl.st st5 ?_
      show Gl _ _ _ _ _ _ _ (T5.setTop (mkF m 13 #[.val (.ref a1), .val (.int p2), .val (.int p3), .val (.int i)] [(.int (own_isws ([w0, w1, w2, w3].getD i.toNatClampNeg 0)))]))
      by_cases hc13 : (own_isws ([w0, w1, w2, w3].getD i.toNatClampNeg 0)) = (0 : Int32)
      · refine Gl.st (fun t k => XS.ifYes X5.here hx rfl (pc0 := 13) (pc' := 22) rfl (hb hby d6_13) rfl ((if0 _ _).trans (teq hc13).1) (by decide) (by decide) k) ?_
        show Gl _ _ _ _ _ _ _ (T5.setTop (mkF m 22 #[.val (.ref a1), .val (.int p2), .val (.int p3), .val (.int i)] []))
        refine Gl.st (fun t k => XS.iloadN X5.here hx rfl (hb hby d6_22) rfl  k) ?_
        show Gl _ _ _ _ _ _ _ (T5.setTop (mkF m 23 #[.val (.ref a1), .val (.int p2), .val (.int p3), .val (.int i)] [(.int i)]))
        exact Gl.retI X5 hx hlk Bd.returns (hb hby d6_23) (⟨congrArg (fun z => some (Value.int z)) (show i = own_start [w0, w1, w2, w3] p2 p3 from by rw [← hR]; simp only [own_scanN, if_pos hc13]), N5, e5⟩) (by decide) (by decide)
      · refine Gl.st (fun t k => XS.ifNo X5.here hx rfl (hb hby d6_13) rfl ((if0 _ _).trans (feq hc13).1) k) ?_
        show Gl _ _ _ _ _ _ _ (T5.setTop (mkF m 16 #[.val (.ref a1), .val (.int p2), .val (.int p3), .val (.int i)] []))
        refine Gl.st (fun t k => XS.iinc X5.here hx rfl (hb hby d6_16) rfl (l' := #[.val (.ref a1), .val (.int p2), .val (.int p3), .val (.int (i + (1 : Int32)))]) rfl k) ?_
        show Gl _ _ _ _ _ _ _ (T5.setTop (mkF m 19 #[.val (.ref a1), .val (.int p2), .val (.int p3), .val (.int (i + (1 : Int32)))] []))
        refine Gl.st (fun t k => XS.goto X5.here hx rfl (pc0 := 19) (pc' := 2) rfl (hb hby d6_19) (by decide) (by decide) k) ?_
        show Gl _ _ _ _ _ _ _ (T5.setTop (mkF m 2 #[.val (.ref a1), .val (.int p2), .val (.int p3), .val (.int (i + (1 : Int32)))] []))
        exact ih _ _ X5 e5 N5 _ (by rw [own_succ (by omega)]; omega) (by rw [own_succ (by omega)]; omega) (by rw [← hR]; simp only [own_scanN, if_neg hc13])
  exact LP1 ((p3.toInt - p2.toInt).toNat) _ _ X0 e0 N0 _ (hb1) (by omega) (rfl)
theorem own_scan_rng (bs : List Int32) : ∀ (k : Nat) (i : Int32), 0 ≤ i.toInt → i.toInt + k < 2147483647 → i.toInt ≤ (own_scanN bs k i).toInt ∧ (own_scanN bs k i).toInt ≤ i.toInt + k
  | 0, i, h0, h1 => ⟨Int.le_refl _, by simp only [own_scanN]; omega⟩
  | k + 1, i, h0, h1 => by
    have e := own_succ (i := i) (by omega)
    have a := own_scan_rng bs k (i + 1) (by omega) (by omega)
    simp only [own_scanN]
    split <;> omega
theorem own_start_rng (bs : List Int32) (f t : Int32) (h0 : 0 ≤ f.toInt) (h1 : f.toInt ≤ t.toInt) (h2 : t.toInt ≤ 4) : f.toInt ≤ (own_start bs f t).toInt ∧ (own_start bs f t).toInt ≤ t.toInt := by
  have a := own_scan_rng bs (t.toInt - f.toInt).toNat f h0 (by omega)
  unfold own_start
  omega
theorem pd_1 : parseMethodDescriptor "([BII)I" = some ⟨[(.array .byte), .int, .int], some .int⟩ := by decide +kernel
def own_rec (p2 : Int32) (p3 : Int32) (w0 : Int32) (w1 : Int32) (w2 : Int32) (w3 : Int32) : Int32 := (if (own_start [w0, w1, w2, w3] p2 p3) < p3 then (if ([w0, w1, w2, w3].getD (own_start [w0, w1, w2, w3] p2 p3).toNatClampNeg 0) = (35 : Int32) then (-1 : Int32) else (own_start [w0, w1, w2, w3] p2 p3)) else (-1 : Int32))
theorem d5_0 : decode prog_5_method_2_code 0 = .ok (.aload_n 0, 1) := by decide +kernel
theorem d5_1 : decode prog_5_method_2_code 1 = .ok (.iload_n 1, 1) := by decide +kernel
theorem d5_2 : decode prog_5_method_2_code 2 = .ok (.iload_n 2, 1) := by decide +kernel
theorem d5_3 : decode prog_5_method_2_code 3 = .ok (.invokestatic 7, 3) := by decide +kernel
theorem d5_6 : decode prog_5_method_2_code 6 = .ok (.istore_n 3, 1) := by decide +kernel
theorem d5_7 : decode prog_5_method_2_code 7 = .ok (.iload_n 3, 1) := by decide +kernel
theorem d5_8 : decode prog_5_method_2_code 8 = .ok (.iload_n 2, 1) := by decide +kernel
theorem d5_9 : decode prog_5_method_2_code 9 = .ok (.if_icmp .ge 15, 3) := by decide +kernel
theorem d5_12 : decode prog_5_method_2_code 12 = .ok (.aload_n 0, 1) := by decide +kernel
theorem d5_13 : decode prog_5_method_2_code 13 = .ok (.iload_n 3, 1) := by decide +kernel
theorem d5_14 : decode prog_5_method_2_code 14 = .ok (.baload, 1) := by decide +kernel
theorem d5_15 : decode prog_5_method_2_code 15 = .ok (.bipush 35, 2) := by decide +kernel
theorem d5_17 : decode prog_5_method_2_code 17 = .ok (.if_icmp .eq 7, 3) := by decide +kernel
theorem d5_20 : decode prog_5_method_2_code 20 = .ok (.iconst 1, 1) := by decide +kernel
theorem d5_21 : decode prog_5_method_2_code 21 = .ok (.goto 4, 3) := by decide +kernel
theorem d5_24 : decode prog_5_method_2_code 24 = .ok (.iconst 0, 1) := by decide +kernel
theorem d5_25 : decode prog_5_method_2_code 25 = .ok (.istore 4, 2) := by decide +kernel
theorem d5_27 : decode prog_5_method_2_code 27 = .ok (.iload 4, 2) := by decide +kernel
theorem d5_29 : decode prog_5_method_2_code 29 = .ok (.ifCond .eq 7, 3) := by decide +kernel
theorem d5_32 : decode prog_5_method_2_code 32 = .ok (.iload_n 3, 1) := by decide +kernel
theorem d5_33 : decode prog_5_method_2_code 33 = .ok (.goto 4, 3) := by decide +kernel
theorem d5_36 : decode prog_5_method_2_code 36 = .ok (.iconst (-1), 1) := by decide +kernel
theorem d5_37 : decode prog_5_method_2_code 37 = .ok (.ireturn, 1) := by decide +kernel
theorem pf_7 : plainFor (⟨"com/example/ilsa/ilsa/io/LineFields", "recordStart", "([BII)I"⟩ : MethodName) = true := by decide +kernel
def Q5 (Z : State) (a1 : Addr) (p2 : Int32) (p3 : Int32) (ck : ClassId) (w0 : Int32) (w1 : Int32) (w2 : Int32) (w3 : Int32) (h0 : Heap) (n0 : Nat) (v : Option Value) (h : Heap) (L : List Loc) : Prop := v = some (.int (own_rec p2 p3 w0 w1 w2 w3)) ∧ Fr n0 L ∧ h = h0
theorem ef_5 (m : MethodId) (a1 : Addr) (p2 : Int32) (p3 : Int32) : entryFrame m #[(.ref a1), (.int p2), (.int p3)] 5 = mkF m 0 #[.val (.ref a1), .val (.int p2), .val (.int p3), .unset, .unset] [] := by first | (simp [entryFrame, mkF, argsToLocals, Value.category]; done) | rfl
set_option maxRecDepth 65536 in
set_option maxHeartbeats 40000000 in
theorem rm5 (l : Launch) (Z : State) (a0 : Array Value) (hw : ∀ d ∈ tables_1, d.before a0 Z = true) (ws : List Jvm.Cond) (a1 : Addr) (p2 : Int32) (p3 : Int32) (ck : ClassId) (w0 : Int32) (w1 : Int32) (w2 : Int32) (w3 : Int32) (h0 : Heap) (n0 : Nat) (Va : Arv Z h0 a1 ck .byte (4 : Int32) [(.int w0), (.int w1), (.int w2), (.int w3)] (.int (0 : Int32))) (hb1 : 0 ≤ p2.toInt) (hb2 : p2.toInt ≤ p3.toInt) (hb3 : p3.toInt ≤ 4) :
    MetFree l (⟨"com/example/ilsa/ilsa/io/LineFields", "recordStart", "([BII)I"⟩ : MethodName) (head1 (Jvm.Cond.code (⟨"com/example/ilsa/ilsa/io/LineFields", "recordStart", "([BII)I"⟩ : MethodName) prog_5_method_2_code 5 (some .int) :: ws) ({ frames := 2, cells := 0, slots := 0, locals := 27 } : Room)) (fun a U => a = #[(.ref a1), (.int p2), (.int p3)] ∧ Z.Warmed39 U.vm ∧ U.heap = h0) (fun _ _ _ _ _ => True) (fun _ U o U' => ∃ v L, o = .returned v ∧ Q5 Z a1 p2 p3 ck w0 w1 w2 w3 h0 n0 v U'.heap L ∧ FrameEnd U o U' L ({ frames := 2, cells := 0, slots := 0, locals := 27 } : Room).cells ({ frames := 2, cells := 0, slots := 0, locals := 27 } : Room).slots) := by
  refine MetFree.of_bodySF pf_7 hisR ?_
  intro p e s m args below meth c s₁ Bd hml0 hP hK
  obtain ⟨rfl, hZ, hh⟩ := hP
  have hx := Bd.exec
  have hby := Bd.bytes
  have hlk : meth.locks = false := BodyLoose.notSynchronized Bd
  have hml : c.maxLocals = 5 := hml0
  have hown : s.vm.findClass "com/example/ilsa/ilsa/io/LineFields" = some m.cls := findClass_of_methodNamed Bd.named
  have hnm := (name_of_methodNamed Bd.named Bd.method).1
  have X0 : Stand p l e ({ frames := 2, cells := 0, slots := 0, locals := 27 } : Room) s m #[(.ref a1), (.int p2), (.int p3)] below meth c s₁ [] 0 0 := Stand.of_body Bd
  have e0 : s₁.heap = h0 := by rw [← hh, Bd.state]; rfl
  have N0 := Fr.nil n0
  show Gl p e below s (Q5 Z a1 p2 p3 ck w0 w1 w2 w3 h0 n0) ({ frames := 2, cells := 0, slots := 0, locals := 27 } : Room).cells ({ frames := 2, cells := 0, slots := 0, locals := 27 } : Room).slots (s₁.setTop (entryFrame m #[(.ref a1), (.int p2), (.int p3)] 5))
  rw [ef_5]
  show Gl _ _ _ _ _ _ _ (s₁.setTop (mkF m 0 #[.val (.ref a1), .val (.int p2), .val (.int p3), .unset, .unset] []))
  refine Gl.st (fun t k => XS.aloadN X0.here hx rfl (hb hby d5_0) rfl rfl k) ?_
  show Gl _ _ _ _ _ _ _ (s₁.setTop (mkF m 1 #[.val (.ref a1), .val (.int p2), .val (.int p3), .unset, .unset] [(.ref a1)]))
  refine Gl.st (fun t k => XS.iloadN X0.here hx rfl (hb hby d5_1) rfl  k) ?_
  show Gl _ _ _ _ _ _ _ (s₁.setTop (mkF m 2 #[.val (.ref a1), .val (.int p2), .val (.int p3), .unset, .unset] [(.int p2), (.ref a1)]))
  refine Gl.st (fun t k => XS.iloadN X0.here hx rfl (hb hby d5_2) rfl  k) ?_
  show Gl _ _ _ _ _ _ _ (s₁.setTop (mkF m 3 #[.val (.ref a1), .val (.int p2), .val (.int p3), .unset, .unset] [(.int p3), (.int p2), (.ref a1)]))
  obtain ⟨_, _, ⟨T1, L1, k1, n1⟩, -, X1, ⟨Lc1, hQ1, l1, y1, z1⟩, st1⟩ := Jvm.LawKit.callS X0 hx (y := (⟨"com/example/ilsa/ilsa/io/LineFields", "fieldStart", "([BII)I"⟩ : MethodName)) hown (mvT hZ (hw _ (List.mem_of_getElem? (i := 19) rfl))) (mvT hZ (hw _ (List.mem_of_getElem? (i := 20) rfl))) (mvT hZ (hw _ (List.mem_of_getElem? (i := 17) rfl))) (mvT hZ (hw _ (List.mem_of_getElem? (i := 21) rfl))) (by decide) (backOf (W := 0) (rm6 l Z a0 hw [] a1 p2 p3 (ck) (w0) (w1) (w2) (w3) h0 n0  Va hb1 hb2 hb3) hZ (hw _ (List.mem_of_getElem? (i := 21) rfl)) (hw _ (List.mem_of_getElem? (i := 17) rfl)) (by decide) (by decide)) (g := (mkF m 3 #[.val (.ref a1), .val (.int p2), .val (.int p3), .unset, .unset] [(.int p3), (.int p2), (.ref a1)])) rfl (by rw [hml]; rfl) (argsL := [(.ref a1), (.int p2), (.int p3)]) (rest := []) (lenOf pd_1 rfl) rfl (by show 2 * 0 + _ ≤ _; exact Nat.le_of_eq rfl) (hb hby d5_3) (fun _ _ => ⟨rfl, e0, (by decide : 0 + 0 ≤ _), (by decide : 0 + 0 ≤ _)⟩)
  dsimp only [Pt.U, Pt.locs, Pt.cells, Pt.slots] at X1 l1 y1 z1 st1 hQ1
  rw [y1, z1] at X1
  obtain ⟨rfl, N1q, e1⟩ := hQ1
  have N1 : Fr n0 L1 := by rw [l1]; exact Fr.app N0 N1q
  refine Gl.st st1 ?_
  show Gl _ _ _ _ _ _ _ (T1.setTop (mkF m 6 #[.val (.ref a1), .val (.int p2), .val (.int p3), .unset, .unset] [(.int (own_start [w0, w1, w2, w3] p2 p3))]))
  refine Gl.st (fun t k => XS.istoreN X1.here hx rfl (hb hby d5_6) rfl (l' := #[.val (.ref a1), .val (.int p2), .val (.int p3), .val (.int (own_start [w0, w1, w2, w3] p2 p3)), .unset]) rfl k) ?_
  show Gl _ _ _ _ _ _ _ (T1.setTop (mkF m 7 #[.val (.ref a1), .val (.int p2), .val (.int p3), .val (.int (own_start [w0, w1, w2, w3] p2 p3)), .unset] []))
  refine Gl.st (fun t k => XS.iloadN X1.here hx rfl (hb hby d5_7) rfl  k) ?_
  show Gl _ _ _ _ _ _ _ (T1.setTop (mkF m 8 #[.val (.ref a1), .val (.int p2), .val (.int p3), .val (.int (own_start [w0, w1, w2, w3] p2 p3)), .unset] [(.int (own_start [w0, w1, w2, w3] p2 p3))]))
  refine Gl.st (fun t k => XS.iloadN X1.here hx rfl (hb hby d5_8) rfl  k) ?_
  show Gl _ _ _ _ _ _ _ (T1.setTop (mkF m 9 #[.val (.ref a1), .val (.int p2), .val (.int p3), .val (.int (own_start [w0, w1, w2, w3] p2 p3)), .unset] [(.int p3), (.int (own_start [w0, w1, w2, w3] p2 p3))]))
  by_cases hc9 : (own_start [w0, w1, w2, w3] p2 p3) < p3
  · refine Gl.st (fun t k => XS.icmpNo X1.here hx rfl (hb hby d5_9) rfl (tlt hc9).2.1 k) ?_
    show Gl _ _ _ _ _ _ _ (T1.setTop (mkF m 12 #[.val (.ref a1), .val (.int p2), .val (.int p3), .val (.int (own_start [w0, w1, w2, w3] p2 p3)), .unset] []))
    refine Gl.st (fun t k => XS.aloadN X1.here hx rfl (hb hby d5_12) rfl rfl k) ?_
    show Gl _ _ _ _ _ _ _ (T1.setTop (mkF m 13 #[.val (.ref a1), .val (.int p2), .val (.int p3), .val (.int (own_start [w0, w1, w2, w3] p2 p3)), .unset] [(.ref a1)]))
    refine Gl.st (fun t k => XS.iloadN X1.here hx rfl (hb hby d5_13) rfl  k) ?_
    show Gl _ _ _ _ _ _ _ (T1.setTop (mkF m 14 #[.val (.ref a1), .val (.int p2), .val (.int p3), .val (.int (own_start [w0, w1, w2, w3] p2 p3)), .unset] [(.int (own_start [w0, w1, w2, w3] p2 p3)), (.ref a1)]))
    have Vx2 := Va
    obtain ⟨cl2, Ar2, qk2, S2, M2, H2, G2⟩ := Vx2
    have hin2 : ¬ ((own_start [w0, w1, w2, w3] p2 p3) < 0 ∨ cl2.slots.size ≤ ((own_start [w0, w1, w2, w3] p2 p3)).toNatClampNeg) := by
        have q := own_start_rng [w0, w1, w2, w3] p2 p3 hb1 hb2 hb3
        have q2 := hc9
        rw [Int32.lt_iff_toInt_lt] at q2
        exact inb_of S2 ⟨own_nn (by omega), own_lit (n := 4) (by decide) (by omega)⟩
    have hat2 : cl2.slots[((own_start [w0, w1, w2, w3] p2 p3)).toNatClampNeg]? = some (.int ([w0, w1, w2, w3].getD (own_start [w0, w1, w2, w3] p2 p3).toNatClampNeg 0)) := H2.at hin2 (own_getD [w0, w1, w2, w3] _)
    refine Gl.st (X1.baloadBytes hx (j := (own_start [w0, w1, w2, w3] p2 p3)) (v := (.int ([w0, w1, w2, w3].getD (own_start [w0, w1, w2, w3] p2 p3).toNatClampNeg 0))) (by rw [e1]; exact Ar2.1) (State.isArrayOf_alike hZ.alike Ar2.2.1) Ar2.2.2 hin2 hat2 (g := (mkF m 14 #[.val (.ref a1), .val (.int p2), .val (.int p3), .val (.int (own_start [w0, w1, w2, w3] p2 p3)), .unset] [(.int (own_start [w0, w1, w2, w3] p2 p3)), (.ref a1)])) rfl rfl (hb hby d5_14)) ?_
    show Gl _ _ _ _ _ _ _ (T1.setTop (mkF m 15 #[.val (.ref a1), .val (.int p2), .val (.int p3), .val (.int (own_start [w0, w1, w2, w3] p2 p3)), .unset] [(.int ([w0, w1, w2, w3].getD (own_start [w0, w1, w2, w3] p2 p3).toNatClampNeg 0))]))
    refine Gl.st (fun t k => XS.bipush X1.here hx rfl (hb hby d5_15) k) ?_
    show Gl _ _ _ _ _ _ _ (T1.setTop (mkF m 17 #[.val (.ref a1), .val (.int p2), .val (.int p3), .val (.int (own_start [w0, w1, w2, w3] p2 p3)), .unset] [(.int (35 : Int32)), (.int ([w0, w1, w2, w3].getD (own_start [w0, w1, w2, w3] p2 p3).toNatClampNeg 0))]))
    by_cases hc17 : ([w0, w1, w2, w3].getD (own_start [w0, w1, w2, w3] p2 p3).toNatClampNeg 0) = (35 : Int32)
    · refine Gl.st (fun t k => XS.icmpYes X1.here hx rfl (pc0 := 17) (pc' := 24) rfl (hb hby d5_17) rfl (teq hc17).1 (by decide) (by decide) k) ?_
      show Gl _ _ _ _ _ _ _ (T1.setTop (mkF m 24 #[.val (.ref a1), .val (.int p2), .val (.int p3), .val (.int (own_start [w0, w1, w2, w3] p2 p3)), .unset] []))
      refine Gl.st (fun t k => XS.iconst X1.here hx rfl (hb hby d5_24) k) ?_
      show Gl _ _ _ _ _ _ _ (T1.setTop (mkF m 25 #[.val (.ref a1), .val (.int p2), .val (.int p3), .val (.int (own_start [w0, w1, w2, w3] p2 p3)), .unset] [(.int (0 : Int32))]))
      refine Gl.st (fun t k => XS.istore X1.here hx rfl (hb hby d5_25) rfl (l' := #[.val (.ref a1), .val (.int p2), .val (.int p3), .val (.int (own_start [w0, w1, w2, w3] p2 p3)), .val (.int (0 : Int32))]) rfl k) ?_
      show Gl _ _ _ _ _ _ _ (T1.setTop (mkF m 27 #[.val (.ref a1), .val (.int p2), .val (.int p3), .val (.int (own_start [w0, w1, w2, w3] p2 p3)), .val (.int (0 : Int32))] []))
      refine Gl.st (fun t k => XS.iload X1.here hx rfl (hb hby d5_27) rfl  k) ?_
      show Gl _ _ _ _ _ _ _ (T1.setTop (mkF m 29 #[.val (.ref a1), .val (.int p2), .val (.int p3), .val (.int (own_start [w0, w1, w2, w3] p2 p3)), .val (.int (0 : Int32))] [(.int (0 : Int32))]))
      refine Gl.st (fun t k => XS.ifYes X1.here hx rfl (pc0 := 29) (pc' := 36) rfl (hb hby d5_29) rfl ((if0 _ _).trans (teq (rfl : (0 : Int32) = (0 : Int32))).1) (by decide) (by decide) k) ?_
      show Gl _ _ _ _ _ _ _ (T1.setTop (mkF m 36 #[.val (.ref a1), .val (.int p2), .val (.int p3), .val (.int (own_start [w0, w1, w2, w3] p2 p3)), .val (.int (0 : Int32))] []))
      refine Gl.st (fun t k => XS.iconst X1.here hx rfl (hb hby d5_36) k) ?_
      show Gl _ _ _ _ _ _ _ (T1.setTop (mkF m 37 #[.val (.ref a1), .val (.int p2), .val (.int p3), .val (.int (own_start [w0, w1, w2, w3] p2 p3)), .val (.int (0 : Int32))] [(.int (-1 : Int32))]))
      exact Gl.retI X1 hx hlk Bd.returns (hb hby d5_37) (⟨congrArg (fun z => some (Value.int z)) (show (-1 : Int32) = (own_rec p2 p3 w0 w1 w2 w3) from by simp only [own_rec, if_pos hc9, if_pos hc17]), N1, e1⟩) (by decide) (by decide)
    · refine Gl.st (fun t k => XS.icmpNo X1.here hx rfl (hb hby d5_17) rfl (feq hc17).1 k) ?_
      show Gl _ _ _ _ _ _ _ (T1.setTop (mkF m 20 #[.val (.ref a1), .val (.int p2), .val (.int p3), .val (.int (own_start [w0, w1, w2, w3] p2 p3)), .unset] []))
      refine Gl.st (fun t k => XS.iconst X1.here hx rfl (hb hby d5_20) k) ?_
      show Gl _ _ _ _ _ _ _ (T1.setTop (mkF m 21 #[.val (.ref a1), .val (.int p2), .val (.int p3), .val (.int (own_start [w0, w1, w2, w3] p2 p3)), .unset] [(.int (1 : Int32))]))
      refine Gl.st (fun t k => XS.goto X1.here hx rfl (pc0 := 21) (pc' := 25) rfl (hb hby d5_21) (by decide) (by decide) k) ?_
      show Gl _ _ _ _ _ _ _ (T1.setTop (mkF m 25 #[.val (.ref a1), .val (.int p2), .val (.int p3), .val (.int (own_start [w0, w1, w2, w3] p2 p3)), .unset] [(.int (1 : Int32))]))
      refine Gl.st (fun t k => XS.istore X1.here hx rfl (hb hby d5_25) rfl (l' := #[.val (.ref a1), .val (.int p2), .val (.int p3), .val (.int (own_start [w0, w1, w2, w3] p2 p3)), .val (.int (1 : Int32))]) rfl k) ?_
      show Gl _ _ _ _ _ _ _ (T1.setTop (mkF m 27 #[.val (.ref a1), .val (.int p2), .val (.int p3), .val (.int (own_start [w0, w1, w2, w3] p2 p3)), .val (.int (1 : Int32))] []))
      refine Gl.st (fun t k => XS.iload X1.here hx rfl (hb hby d5_27) rfl  k) ?_
      show Gl _ _ _ _ _ _ _ (T1.setTop (mkF m 29 #[.val (.ref a1), .val (.int p2), .val (.int p3), .val (.int (own_start [w0, w1, w2, w3] p2 p3)), .val (.int (1 : Int32))] [(.int (1 : Int32))]))
      refine Gl.st (fun t k => XS.ifNo X1.here hx rfl (hb hby d5_29) rfl ((if0 _ _).trans (feq (by decide : ¬ ((1 : Int32) = (0 : Int32)))).1) k) ?_
      show Gl _ _ _ _ _ _ _ (T1.setTop (mkF m 32 #[.val (.ref a1), .val (.int p2), .val (.int p3), .val (.int (own_start [w0, w1, w2, w3] p2 p3)), .val (.int (1 : Int32))] []))
      refine Gl.st (fun t k => XS.iloadN X1.here hx rfl (hb hby d5_32) rfl  k) ?_
      show Gl _ _ _ _ _ _ _ (T1.setTop (mkF m 33 #[.val (.ref a1), .val (.int p2), .val (.int p3), .val (.int (own_start [w0, w1, w2, w3] p2 p3)), .val (.int (1 : Int32))] [(.int (own_start [w0, w1, w2, w3] p2 p3))]))
      refine Gl.st (fun t k => XS.goto X1.here hx rfl (pc0 := 33) (pc' := 37) rfl (hb hby d5_33) (by decide) (by decide) k) ?_
      show Gl _ _ _ _ _ _ _ (T1.setTop (mkF m 37 #[.val (.ref a1), .val (.int p2), .val (.int p3), .val (.int (own_start [w0, w1, w2, w3] p2 p3)), .val (.int (1 : Int32))] [(.int (own_start [w0, w1, w2, w3] p2 p3))]))
      exact Gl.retI X1 hx hlk Bd.returns (hb hby d5_37) (⟨congrArg (fun z => some (Value.int z)) (show (own_start [w0, w1, w2, w3] p2 p3) = (own_rec p2 p3 w0 w1 w2 w3) from by simp only [own_rec, if_pos hc9, if_neg hc17]), N1, e1⟩) (by decide) (by decide)
  · refine Gl.st (fun t k => XS.icmpYes X1.here hx rfl (pc0 := 9) (pc' := 24) rfl (hb hby d5_9) rfl (flt hc9).2.1 (by decide) (by decide) k) ?_
    show Gl _ _ _ _ _ _ _ (T1.setTop (mkF m 24 #[.val (.ref a1), .val (.int p2), .val (.int p3), .val (.int (own_start [w0, w1, w2, w3] p2 p3)), .unset] []))
    refine Gl.st (fun t k => XS.iconst X1.here hx rfl (hb hby d5_24) k) ?_
    show Gl _ _ _ _ _ _ _ (T1.setTop (mkF m 25 #[.val (.ref a1), .val (.int p2), .val (.int p3), .val (.int (own_start [w0, w1, w2, w3] p2 p3)), .unset] [(.int (0 : Int32))]))
    refine Gl.st (fun t k => XS.istore X1.here hx rfl (hb hby d5_25) rfl (l' := #[.val (.ref a1), .val (.int p2), .val (.int p3), .val (.int (own_start [w0, w1, w2, w3] p2 p3)), .val (.int (0 : Int32))]) rfl k) ?_
    show Gl _ _ _ _ _ _ _ (T1.setTop (mkF m 27 #[.val (.ref a1), .val (.int p2), .val (.int p3), .val (.int (own_start [w0, w1, w2, w3] p2 p3)), .val (.int (0 : Int32))] []))
    refine Gl.st (fun t k => XS.iload X1.here hx rfl (hb hby d5_27) rfl  k) ?_
    show Gl _ _ _ _ _ _ _ (T1.setTop (mkF m 29 #[.val (.ref a1), .val (.int p2), .val (.int p3), .val (.int (own_start [w0, w1, w2, w3] p2 p3)), .val (.int (0 : Int32))] [(.int (0 : Int32))]))
    refine Gl.st (fun t k => XS.ifYes X1.here hx rfl (pc0 := 29) (pc' := 36) rfl (hb hby d5_29) rfl ((if0 _ _).trans (teq (rfl : (0 : Int32) = (0 : Int32))).1) (by decide) (by decide) k) ?_
    show Gl _ _ _ _ _ _ _ (T1.setTop (mkF m 36 #[.val (.ref a1), .val (.int p2), .val (.int p3), .val (.int (own_start [w0, w1, w2, w3] p2 p3)), .val (.int (0 : Int32))] []))
    refine Gl.st (fun t k => XS.iconst X1.here hx rfl (hb hby d5_36) k) ?_
    show Gl _ _ _ _ _ _ _ (T1.setTop (mkF m 37 #[.val (.ref a1), .val (.int p2), .val (.int p3), .val (.int (own_start [w0, w1, w2, w3] p2 p3)), .val (.int (0 : Int32))] [(.int (-1 : Int32))]))
    exact Gl.retI X1 hx hlk Bd.returns (hb hby d5_37) (⟨congrArg (fun z => some (Value.int z)) (show (-1 : Int32) = (own_rec p2 p3 w0 w1 w2 w3) from by simp only [own_rec, if_neg hc9]), N1, e1⟩) (by decide) (by decide)
theorem own_isws_c (b : Int32) (h : -128 ≤ b.toInt ∧ b.toInt < 128) : own_isws b = own_ws b := by
  have e9 : (9 : Int32).toInt = 9 := by decide
  have e10 : (10 : Int32).toInt = 10 := by decide
  have e11 : (11 : Int32).toInt = 11 := by decide
  have e12 : (12 : Int32).toInt = 12 := by decide
  have e13 : (13 : Int32).toInt = 13 := by decide
  have e32 : (32 : Int32).toInt = 32 := by decide
  have m := c_mask b 255 8 (by decide) (by decide)
  unfold own_isws own_ws
  simp only [Int32.lt_iff_toInt_lt, ← Int32.toInt_inj, e9, e10, e11, e12, e13, e32]
  rw [m]
  generalize b.toInt = n at *
  repeat' split
  all_goals first | rfl | (exfalso; omega)
theorem own_digit {f : Int32} (h0 : 0 ≤ f.toInt) (h4 : f.toInt ≤ 4) : f = 0 ∨ f = 1 ∨ f = 2 ∨ f = 3 ∨ f = 4 := by
  have e0 : (0 : Int32).toInt = 0 := by decide
  have e1 : (1 : Int32).toInt = 1 := by decide
  have e2 : (2 : Int32).toInt = 2 := by decide
  have e3 : (3 : Int32).toInt = 3 := by decide
  have e4 : (4 : Int32).toInt = 4 := by decide
  simp only [← Int32.toInt_inj, e0, e1, e2, e3, e4]
  omega
theorem own_min_i (a b : Int32) : (own_min a b).toInt = min a.toInt b.toInt := by
  unfold own_min
  split
  all_goals (rename_i h; rw [Int32.lt_iff_toInt_lt] at h; omega)
theorem own_max_i (a b : Int32) : (own_max a b).toInt = max a.toInt b.toInt := by
  unfold own_max
  split
  all_goals (rename_i h; rw [Int32.lt_iff_toInt_lt] at h; omega)
theorem own_u (x : Int32) : 0 ≤ ((x &&& (255 : Int32)) % (5 : Int32)).toInt ∧ ((x &&& (255 : Int32)) % (5 : Int32)).toInt ≤ 4 := by
  have a := c_mask x 255 8 (by decide) (by decide)
  have b := (c_irem (x &&& 255) 5 5 (by decide)).1
  omega
theorem own_final (b0 b1 b2 b3 f t : Int32) (h0 : 0 ≤ f.toInt) (h1 : f.toInt ≤ t.toInt) (h2 : t.toInt ≤ 4) (r0 : own_isws b0 = own_ws b0) (r1 : own_isws b1 = own_ws b1) (r2 : own_isws b2 = own_ws b2) (r3 : own_isws b3 = own_ws b3) :
    own_rec f t b0 b1 b2 b3 = (if own_field0 f t b0 b1 b2 b3 = (0 : Int32) then (if own_field1 f t b0 b1 b2 b3 = (0 : Int32) then (if own_field2 f t b0 b1 b2 b3 = (0 : Int32) then (if own_field3 f t b0 b1 b2 b3 = (0 : Int32) then (-1 : Int32) else (if b3 = (35 : Int32) then (-1 : Int32) else 3)) else (if b2 = (35 : Int32) then (-1 : Int32) else 2)) else (if b1 = (35 : Int32) then (-1 : Int32) else 1)) else (if b0 = (35 : Int32) then (-1 : Int32) else 0)) := by
  rcases own_digit h0 (by omega) with rfl | rfl | rfl | rfl | rfl <;> rcases own_digit (f := t) (by omega) h2 with rfl | rfl | rfl | rfl | rfl <;>
    first | (exfalso; revert h1; decide) | (by_cases k0 : own_ws b0 = 0 <;> by_cases k1 : own_ws b1 = 0 <;> by_cases k2 : own_ws b2 = 0 <;> by_cases k3 : own_ws b3 = 0 <;> simp [own_rec, own_field0, own_field1, own_field2, own_field3, own_start, own_scanN, nar, r0, r1, r2, r3, k0, k1, k2, k3])
theorem own_byte (x : Int32) : own_isws (nar .byte x) = own_ws (nar .byte x) := own_isws_c _ (c_i2b x).2
theorem pf_8 : plainFor (⟨"com/example/ilsa/ilsa/io/LineFieldsRecordStartPinLaw", "law", "(IIIII)Z"⟩ : MethodName) = true := by decide +kernel
def Q0 (Z : State) (p1 : Int32) (p2 : Int32) (p3 : Int32) (p4 : Int32) (p5 : Int32) (h0 : Heap) (n0 : Nat) (v : Option Value) (h : Heap) (L : List Loc) : Prop := v = some (.int 1) ∧ Fr n0 L
theorem ef_0 (m : MethodId) (p1 : Int32) (p2 : Int32) (p3 : Int32) (p4 : Int32) (p5 : Int32) : entryFrame m #[(.int p1), (.int p2), (.int p3), (.int p4), (.int p5)] maxLocals = mkF m 0 #[.val (.int p1), .val (.int p2), .val (.int p3), .val (.int p4), .val (.int p5), .unset, .unset, .unset, .unset, .unset, .unset, .unset, .unset] [] := by first | (simp [entryFrame, mkF, argsToLocals, Value.category, maxLocals]; done) | rfl
theorem pd_2 : parseMethodDescriptor "(I)B" = some ⟨[.int], some .byte⟩ := by decide +kernel
theorem pd_3 : parseMethodDescriptor "(II)I" = some ⟨[.int, .int], some .int⟩ := by decide +kernel
theorem pd_4 : parseMethodDescriptor "([BIII)Z" = some ⟨[(.array .byte), .int, .int, .int], some .boolean⟩ := by decide +kernel
set_option maxRecDepth 65536 in
set_option maxHeartbeats 40000000 in
theorem rm0 (l : Launch) (Z : State) (a0 : Array Value) (hw : ∀ d ∈ tables_1, d.before a0 Z = true) (ws : List Jvm.Cond) (p1 : Int32) (p2 : Int32) (p3 : Int32) (p4 : Int32) (p5 : Int32) (h0 : Heap) (n0 : Nat) (Z0 : n0 ≤ h0.size) :
    MetFree l x (head1 (Jvm.Cond.code x code maxLocals ret :: ws) room_1) (fun a U => a = #[(.int p1), (.int p2), (.int p3), (.int p4), (.int p5)] ∧ Z.Warmed39 U.vm ∧ U.heap = h0) (fun _ _ _ _ _ => True) (fun _ U o U' => ∃ v L, o = .returned v ∧ Q0 Z p1 p2 p3 p4 p5 h0 n0 v U'.heap L ∧ FrameEnd U o U' L room_1.cells room_1.slots) := by
  refine MetFree.of_bodySF pf_8 hisR ?_
  intro p e s m args below meth c s₁ Bd hml0 hP hK
  obtain ⟨rfl, hZ, hh⟩ := hP
  have hx := Bd.exec
  have hby := Bd.bytes
  have hlk : meth.locks = false := BodyLoose.notSynchronized Bd
  have hml : c.maxLocals = 13 := hml0
  have hown : s.vm.findClass "com/example/ilsa/ilsa/io/LineFieldsRecordStartPinLaw" = some m.cls := findClass_of_methodNamed Bd.named
  have hnm := (name_of_methodNamed Bd.named Bd.method).1
  have X0 : Stand p l e room_1 s m #[(.int p1), (.int p2), (.int p3), (.int p4), (.int p5)] below meth c s₁ [] 0 0 := Stand.of_body Bd
  have e0 : s₁.heap = h0 := by rw [← hh, Bd.state]; rfl
  have N0 := Fr.nil n0
  show Gl p e below s (Q0 Z p1 p2 p3 p4 p5 h0 n0) room_1.cells room_1.slots (s₁.setTop (entryFrame m #[(.int p1), (.int p2), (.int p3), (.int p4), (.int p5)] maxLocals))
  rw [ef_0]
  show Gl _ _ _ _ _ _ _ (s₁.setTop (mkF m 0 #[.val (.int p1), .val (.int p2), .val (.int p3), .val (.int p4), .val (.int p5), .unset, .unset, .unset, .unset, .unset, .unset, .unset, .unset] []))
  refine Gl.st (fun t k => XS.iconst X0.here hx rfl (hb hby at_0) k) ?_
  show Gl _ _ _ _ _ _ _ (s₁.setTop (mkF m 1 #[.val (.int p1), .val (.int p2), .val (.int p3), .val (.int p4), .val (.int p5), .unset, .unset, .unset, .unset, .unset, .unset, .unset, .unset] [(.int (4 : Int32))]))
  obtain ⟨T1, h1, k1, X1, e1, E1, A1, st1⟩ := newP X0 hx hZ (hw _ (List.mem_of_getElem? (i := 0) rfl)) e0 (g := (mkF m 1 #[.val (.int p1), .val (.int p2), .val (.int p3), .val (.int p4), .val (.int p5), .unset, .unset, .unset, .unset, .unset, .unset, .unset, .unset] [(.int (4 : Int32))])) rfl (hb hby at_1) rfl (by decide) (cap := 4) (by decide) (by decide) (by decide) (by decide)
  obtain ⟨b1, g1⟩ : ∃ z, z = h0.size := ⟨_, rfl⟩
  rw [← g1] at A1 st1
  refine Gl.st st1 ?_
  have gzb1 : n0 ≤ b1 := Nat.le_trans Z0 (Nat.le_of_eq g1.symm)
  have Z1 : n0 ≤ h1.size := Nat.le_trans Z0 E1.1
  have V1 : Arv Z h1 b1 k1 .byte (4 : Int32) [(.int (0 : Int32)), (.int (0 : Int32)), (.int (0 : Int32)), (.int (0 : Int32))] (.int (0 : Int32)) := (Arv.new A1 (by decide)).pad (pad_rep [] (.int (0 : Int32)) 4)
  show Gl _ _ _ _ _ _ _ (T1.setTop (mkF m 3 #[.val (.int p1), .val (.int p2), .val (.int p3), .val (.int p4), .val (.int p5), .unset, .unset, .unset, .unset, .unset, .unset, .unset, .unset] [(.ref b1)]))
  refine Gl.st (fun t k => XS.astore X1.here hx rfl (hb hby at_3) rfl rfl (l' := #[.val (.int p1), .val (.int p2), .val (.int p3), .val (.int p4), .val (.int p5), .val (.ref b1), .unset, .unset, .unset, .unset, .unset, .unset, .unset]) rfl k) ?_
  show Gl _ _ _ _ _ _ _ (T1.setTop (mkF m 5 #[.val (.int p1), .val (.int p2), .val (.int p3), .val (.int p4), .val (.int p5), .val (.ref b1), .unset, .unset, .unset, .unset, .unset, .unset, .unset] []))
  refine Gl.st (fun t k => XS.aload X1.here hx rfl (hb hby at_5) rfl rfl k) ?_
  show Gl _ _ _ _ _ _ _ (T1.setTop (mkF m 7 #[.val (.int p1), .val (.int p2), .val (.int p3), .val (.int p4), .val (.int p5), .val (.ref b1), .unset, .unset, .unset, .unset, .unset, .unset, .unset] [(.ref b1)]))
  refine Gl.st (fun t k => XS.iconst X1.here hx rfl (hb hby at_7) k) ?_
  show Gl _ _ _ _ _ _ _ (T1.setTop (mkF m 8 #[.val (.int p1), .val (.int p2), .val (.int p3), .val (.int p4), .val (.int p5), .val (.ref b1), .unset, .unset, .unset, .unset, .unset, .unset, .unset] [(.int (0 : Int32)), (.ref b1)]))
  refine Gl.st (fun t k => XS.iloadN X1.here hx rfl (hb hby at_8) rfl  k) ?_
  show Gl _ _ _ _ _ _ _ (T1.setTop (mkF m 9 #[.val (.int p1), .val (.int p2), .val (.int p3), .val (.int p4), .val (.int p5), .val (.ref b1), .unset, .unset, .unset, .unset, .unset, .unset, .unset] [(.int p1), (.int (0 : Int32)), (.ref b1)]))
  obtain ⟨_, _, ⟨T2, L2, k2, n2⟩, -, X2, ⟨Lc2, hQ2, l2, y2, z2⟩, st2⟩ := Jvm.LawKit.callS X1 hx (y := (⟨"com/example/ilsa/ilsa/io/LineFieldsRecordStartPinLaw", "pick", "(I)B"⟩ : MethodName)) hown (mvT hZ (hw _ (List.mem_of_getElem? (i := 1) rfl))) (mvT hZ (hw _ (List.mem_of_getElem? (i := 2) rfl))) (mvT hZ (hw _ (List.mem_of_getElem? (i := 3) rfl))) (mvT hZ (hw _ (List.mem_of_getElem? (i := 4) rfl))) (by decide) (backOf (W := 2) (rm1 l Z a0 hw [] p1 h1 n0) hZ (hw _ (List.mem_of_getElem? (i := 4) rfl)) (hw _ (List.mem_of_getElem? (i := 3) rfl)) (by decide) (by decide)) (g := (mkF m 9 #[.val (.int p1), .val (.int p2), .val (.int p3), .val (.int p4), .val (.int p5), .val (.ref b1), .unset, .unset, .unset, .unset, .unset, .unset, .unset] [(.int p1), (.int (0 : Int32)), (.ref b1)])) rfl (by rw [hml]; rfl) (argsL := [(.int p1)]) (rest := [(.int (0 : Int32)), (.ref b1)]) (lenOf pd_2 rfl) rfl (by show 2 * 0 + _ ≤ _; exact Nat.le_of_eq rfl) (hb hby at_9) (fun _ _ => ⟨rfl, e1, (by decide : 1 + 0 ≤ _), (by decide : 4 + 0 ≤ _)⟩)
  dsimp only [Pt.U, Pt.locs, Pt.cells, Pt.slots] at X2 l2 y2 z2 st2 hQ2
  rw [y2, z2] at X2
  obtain ⟨rfl, N2q, e2⟩ := hQ2
  have N2 : Fr n0 L2 := by rw [l2]; exact Fr.app N0 N2q
  refine Gl.st st2 ?_
  show Gl _ _ _ _ _ _ _ (T2.setTop (mkF m 12 #[.val (.int p1), .val (.int p2), .val (.int p3), .val (.int p4), .val (.int p5), .val (.ref b1), .unset, .unset, .unset, .unset, .unset, .unset, .unset] [(.int (own_pick p1)), (.int (0 : Int32)), (.ref b1)]))
  have Vx3 := V1
  obtain ⟨cl3, Ar3, qk3, S3, M3, H3, G3⟩ := Vx3
  have hin3 : ¬ ((0 : Int32) < 0 ∨ cl3.slots.size ≤ ((0 : Int32)).toNatClampNeg) := inb_of S3 ⟨by decide, by decide⟩
  obtain ⟨T3, h3, X3, e3, W3, st3⟩ := stB X2 hx hZ e2 Ar3 (j := (0 : Int32)) hin3 (g := (mkF m 12 #[.val (.int p1), .val (.int p2), .val (.int p3), .val (.int p4), .val (.int p5), .val (.ref b1), .unset, .unset, .unset, .unset, .unset, .unset, .unset] [(.int (own_pick p1)), (.int (0 : Int32)), (.ref b1)])) rfl rfl (hb hby at_12)
  refine Gl.st st3 ?_
  have Z3 : n0 ≤ h3.size := Nat.le_trans Z1 (Keep.of_wr W3).1
  have N3 := Fr.snoc X3 N2 gzb1
  have V3 : Arv Z h3 b1 k1 .byte (4 : Int32) [(.int (nar .byte (own_pick p1))), (.int (0 : Int32)), (.int (0 : Int32)), (.int (0 : Int32))] (.int (0 : Int32)) := Arv.set Ar3 qk3 S3 M3 H3 G3 (fits_nar_byte _) W3 0 rfl (Nat.le_of_ble_eq_true rfl)
  show Gl _ _ _ _ _ _ _ (T3.setTop (mkF m 13 #[.val (.int p1), .val (.int p2), .val (.int p3), .val (.int p4), .val (.int p5), .val (.ref b1), .unset, .unset, .unset, .unset, .unset, .unset, .unset] []))
  refine Gl.st (fun t k => XS.aload X3.here hx rfl (hb hby at_13) rfl rfl k) ?_
  show Gl _ _ _ _ _ _ _ (T3.setTop (mkF m 15 #[.val (.int p1), .val (.int p2), .val (.int p3), .val (.int p4), .val (.int p5), .val (.ref b1), .unset, .unset, .unset, .unset, .unset, .unset, .unset] [(.ref b1)]))
  refine Gl.st (fun t k => XS.iconst X3.here hx rfl (hb hby at_15) k) ?_
  show Gl _ _ _ _ _ _ _ (T3.setTop (mkF m 16 #[.val (.int p1), .val (.int p2), .val (.int p3), .val (.int p4), .val (.int p5), .val (.ref b1), .unset, .unset, .unset, .unset, .unset, .unset, .unset] [(.int (1 : Int32)), (.ref b1)]))
  refine Gl.st (fun t k => XS.iloadN X3.here hx rfl (hb hby at_16) rfl  k) ?_
  show Gl _ _ _ _ _ _ _ (T3.setTop (mkF m 17 #[.val (.int p1), .val (.int p2), .val (.int p3), .val (.int p4), .val (.int p5), .val (.ref b1), .unset, .unset, .unset, .unset, .unset, .unset, .unset] [(.int p2), (.int (1 : Int32)), (.ref b1)]))
  obtain ⟨_, _, ⟨T4, L4, k4, n4⟩, -, X4, ⟨Lc4, hQ4, l4, y4, z4⟩, st4⟩ := Jvm.LawKit.callS X3 hx (y := (⟨"com/example/ilsa/ilsa/io/LineFieldsRecordStartPinLaw", "pick", "(I)B"⟩ : MethodName)) hown (mvT hZ (hw _ (List.mem_of_getElem? (i := 1) rfl))) (mvT hZ (hw _ (List.mem_of_getElem? (i := 2) rfl))) (mvT hZ (hw _ (List.mem_of_getElem? (i := 3) rfl))) (mvT hZ (hw _ (List.mem_of_getElem? (i := 4) rfl))) (by decide) (backOf (W := 2) (rm1 l Z a0 hw [] p2 h3 n0) hZ (hw _ (List.mem_of_getElem? (i := 4) rfl)) (hw _ (List.mem_of_getElem? (i := 3) rfl)) (by decide) (by decide)) (g := (mkF m 17 #[.val (.int p1), .val (.int p2), .val (.int p3), .val (.int p4), .val (.int p5), .val (.ref b1), .unset, .unset, .unset, .unset, .unset, .unset, .unset] [(.int p2), (.int (1 : Int32)), (.ref b1)])) rfl (by rw [hml]; rfl) (argsL := [(.int p2)]) (rest := [(.int (1 : Int32)), (.ref b1)]) (lenOf pd_2 rfl) rfl (by show 2 * 0 + _ ≤ _; exact Nat.le_of_eq rfl) (hb hby at_17) (fun _ _ => ⟨rfl, e3, (by decide : 1 + 0 ≤ _), (by decide : 4 + 0 ≤ _)⟩)
  dsimp only [Pt.U, Pt.locs, Pt.cells, Pt.slots] at X4 l4 y4 z4 st4 hQ4
  rw [y4, z4] at X4
  obtain ⟨rfl, N4q, e4⟩ := hQ4
  have N4 : Fr n0 L4 := by rw [l4]; exact Fr.app N3 N4q
  refine Gl.st st4 ?_
  show Gl _ _ _ _ _ _ _ (T4.setTop (mkF m 20 #[.val (.int p1), .val (.int p2), .val (.int p3), .val (.int p4), .val (.int p5), .val (.ref b1), .unset, .unset, .unset, .unset, .unset, .unset, .unset] [(.int (own_pick p2)), (.int (1 : Int32)), (.ref b1)]))
  have Vx5 := V3
  obtain ⟨cl5, Ar5, qk5, S5, M5, H5, G5⟩ := Vx5
  have hin5 : ¬ ((1 : Int32) < 0 ∨ cl5.slots.size ≤ ((1 : Int32)).toNatClampNeg) := inb_of S5 ⟨by decide, by decide⟩
  obtain ⟨T5, h5, X5, e5, W5, st5⟩ := stB X4 hx hZ e4 Ar5 (j := (1 : Int32)) hin5 (g := (mkF m 20 #[.val (.int p1), .val (.int p2), .val (.int p3), .val (.int p4), .val (.int p5), .val (.ref b1), .unset, .unset, .unset, .unset, .unset, .unset, .unset] [(.int (own_pick p2)), (.int (1 : Int32)), (.ref b1)])) rfl rfl (hb hby at_20)
  refine Gl.st st5 ?_
  have Z5 : n0 ≤ h5.size := Nat.le_trans Z3 (Keep.of_wr W5).1
  have N5 := Fr.snoc X5 N4 gzb1
  have V5 : Arv Z h5 b1 k1 .byte (4 : Int32) [(.int (nar .byte (own_pick p1))), (.int (nar .byte (own_pick p2))), (.int (0 : Int32)), (.int (0 : Int32))] (.int (0 : Int32)) := Arv.set Ar5 qk5 S5 M5 H5 G5 (fits_nar_byte _) W5 1 rfl (Nat.le_of_ble_eq_true rfl)
  show Gl _ _ _ _ _ _ _ (T5.setTop (mkF m 21 #[.val (.int p1), .val (.int p2), .val (.int p3), .val (.int p4), .val (.int p5), .val (.ref b1), .unset, .unset, .unset, .unset, .unset, .unset, .unset] []))
  refine Gl.st (fun t k => XS.aload X5.here hx rfl (hb hby at_21) rfl rfl k) ?_
  show Gl _ _ _ _ _ _ _ (T5.setTop (mkF m 23 #[.val (.int p1), .val (.int p2), .val (.int p3), .val (.int p4), .val (.int p5), .val (.ref b1), .unset, .unset, .unset, .unset, .unset, .unset, .unset] [(.ref b1)]))
  refine Gl.st (fun t k => XS.iconst X5.here hx rfl (hb hby at_23) k) ?_
  show Gl _ _ _ _ _ _ _ (T5.setTop (mkF m 24 #[.val (.int p1), .val (.int p2), .val (.int p3), .val (.int p4), .val (.int p5), .val (.ref b1), .unset, .unset, .unset, .unset, .unset, .unset, .unset] [(.int (2 : Int32)), (.ref b1)]))
  refine Gl.st (fun t k => XS.iloadN X5.here hx rfl (hb hby at_24) rfl  k) ?_
  show Gl _ _ _ _ _ _ _ (T5.setTop (mkF m 25 #[.val (.int p1), .val (.int p2), .val (.int p3), .val (.int p4), .val (.int p5), .val (.ref b1), .unset, .unset, .unset, .unset, .unset, .unset, .unset] [(.int p3), (.int (2 : Int32)), (.ref b1)]))
  obtain ⟨_, _, ⟨T6, L6, k6, n6⟩, -, X6, ⟨Lc6, hQ6, l6, y6, z6⟩, st6⟩ := Jvm.LawKit.callS X5 hx (y := (⟨"com/example/ilsa/ilsa/io/LineFieldsRecordStartPinLaw", "pick", "(I)B"⟩ : MethodName)) hown (mvT hZ (hw _ (List.mem_of_getElem? (i := 1) rfl))) (mvT hZ (hw _ (List.mem_of_getElem? (i := 2) rfl))) (mvT hZ (hw _ (List.mem_of_getElem? (i := 3) rfl))) (mvT hZ (hw _ (List.mem_of_getElem? (i := 4) rfl))) (by decide) (backOf (W := 2) (rm1 l Z a0 hw [] p3 h5 n0) hZ (hw _ (List.mem_of_getElem? (i := 4) rfl)) (hw _ (List.mem_of_getElem? (i := 3) rfl)) (by decide) (by decide)) (g := (mkF m 25 #[.val (.int p1), .val (.int p2), .val (.int p3), .val (.int p4), .val (.int p5), .val (.ref b1), .unset, .unset, .unset, .unset, .unset, .unset, .unset] [(.int p3), (.int (2 : Int32)), (.ref b1)])) rfl (by rw [hml]; rfl) (argsL := [(.int p3)]) (rest := [(.int (2 : Int32)), (.ref b1)]) (lenOf pd_2 rfl) rfl (by show 2 * 0 + _ ≤ _; exact Nat.le_of_eq rfl) (hb hby at_25) (fun _ _ => ⟨rfl, e5, (by decide : 1 + 0 ≤ _), (by decide : 4 + 0 ≤ _)⟩)
  dsimp only [Pt.U, Pt.locs, Pt.cells, Pt.slots] at X6 l6 y6 z6 st6 hQ6
  rw [y6, z6] at X6
  obtain ⟨rfl, N6q, e6⟩ := hQ6
  have N6 : Fr n0 L6 := by rw [l6]; exact Fr.app N5 N6q
  refine Gl.st st6 ?_
  show Gl _ _ _ _ _ _ _ (T6.setTop (mkF m 28 #[.val (.int p1), .val (.int p2), .val (.int p3), .val (.int p4), .val (.int p5), .val (.ref b1), .unset, .unset, .unset, .unset, .unset, .unset, .unset] [(.int (own_pick p3)), (.int (2 : Int32)), (.ref b1)]))
  have Vx7 := V5
  obtain ⟨cl7, Ar7, qk7, S7, M7, H7, G7⟩ := Vx7
  have hin7 : ¬ ((2 : Int32) < 0 ∨ cl7.slots.size ≤ ((2 : Int32)).toNatClampNeg) := inb_of S7 ⟨by decide, by decide⟩
  obtain ⟨T7, h7, X7, e7, W7, st7⟩ := stB X6 hx hZ e6 Ar7 (j := (2 : Int32)) hin7 (g := (mkF m 28 #[.val (.int p1), .val (.int p2), .val (.int p3), .val (.int p4), .val (.int p5), .val (.ref b1), .unset, .unset, .unset, .unset, .unset, .unset, .unset] [(.int (own_pick p3)), (.int (2 : Int32)), (.ref b1)])) rfl rfl (hb hby at_28)
  refine Gl.st st7 ?_
  have Z7 : n0 ≤ h7.size := Nat.le_trans Z5 (Keep.of_wr W7).1
  have N7 := Fr.snoc X7 N6 gzb1
  have V7 : Arv Z h7 b1 k1 .byte (4 : Int32) [(.int (nar .byte (own_pick p1))), (.int (nar .byte (own_pick p2))), (.int (nar .byte (own_pick p3))), (.int (0 : Int32))] (.int (0 : Int32)) := Arv.set Ar7 qk7 S7 M7 H7 G7 (fits_nar_byte _) W7 2 rfl (Nat.le_of_ble_eq_true rfl)
  show Gl _ _ _ _ _ _ _ (T7.setTop (mkF m 29 #[.val (.int p1), .val (.int p2), .val (.int p3), .val (.int p4), .val (.int p5), .val (.ref b1), .unset, .unset, .unset, .unset, .unset, .unset, .unset] []))
  refine Gl.st (fun t k => XS.aload X7.here hx rfl (hb hby at_29) rfl rfl k) ?_
  show Gl _ _ _ _ _ _ _ (T7.setTop (mkF m 31 #[.val (.int p1), .val (.int p2), .val (.int p3), .val (.int p4), .val (.int p5), .val (.ref b1), .unset, .unset, .unset, .unset, .unset, .unset, .unset] [(.ref b1)]))
  refine Gl.st (fun t k => XS.iconst X7.here hx rfl (hb hby at_31) k) ?_
  show Gl _ _ _ _ _ _ _ (T7.setTop (mkF m 32 #[.val (.int p1), .val (.int p2), .val (.int p3), .val (.int p4), .val (.int p5), .val (.ref b1), .unset, .unset, .unset, .unset, .unset, .unset, .unset] [(.int (3 : Int32)), (.ref b1)]))
  refine Gl.st (fun t k => XS.iloadN X7.here hx rfl (hb hby at_32) rfl  k) ?_
  show Gl _ _ _ _ _ _ _ (T7.setTop (mkF m 33 #[.val (.int p1), .val (.int p2), .val (.int p3), .val (.int p4), .val (.int p5), .val (.ref b1), .unset, .unset, .unset, .unset, .unset, .unset, .unset] [(.int p4), (.int (3 : Int32)), (.ref b1)]))
  obtain ⟨_, _, ⟨T8, L8, k8, n8⟩, -, X8, ⟨Lc8, hQ8, l8, y8, z8⟩, st8⟩ := Jvm.LawKit.callS X7 hx (y := (⟨"com/example/ilsa/ilsa/io/LineFieldsRecordStartPinLaw", "pick", "(I)B"⟩ : MethodName)) hown (mvT hZ (hw _ (List.mem_of_getElem? (i := 1) rfl))) (mvT hZ (hw _ (List.mem_of_getElem? (i := 2) rfl))) (mvT hZ (hw _ (List.mem_of_getElem? (i := 3) rfl))) (mvT hZ (hw _ (List.mem_of_getElem? (i := 4) rfl))) (by decide) (backOf (W := 2) (rm1 l Z a0 hw [] p4 h7 n0) hZ (hw _ (List.mem_of_getElem? (i := 4) rfl)) (hw _ (List.mem_of_getElem? (i := 3) rfl)) (by decide) (by decide)) (g := (mkF m 33 #[.val (.int p1), .val (.int p2), .val (.int p3), .val (.int p4), .val (.int p5), .val (.ref b1), .unset, .unset, .unset, .unset, .unset, .unset, .unset] [(.int p4), (.int (3 : Int32)), (.ref b1)])) rfl (by rw [hml]; rfl) (argsL := [(.int p4)]) (rest := [(.int (3 : Int32)), (.ref b1)]) (lenOf pd_2 rfl) rfl (by show 2 * 0 + _ ≤ _; exact Nat.le_of_eq rfl) (hb hby at_33) (fun _ _ => ⟨rfl, e7, (by decide : 1 + 0 ≤ _), (by decide : 4 + 0 ≤ _)⟩)
  dsimp only [Pt.U, Pt.locs, Pt.cells, Pt.slots] at X8 l8 y8 z8 st8 hQ8
  rw [y8, z8] at X8
  obtain ⟨rfl, N8q, e8⟩ := hQ8
  have N8 : Fr n0 L8 := by rw [l8]; exact Fr.app N7 N8q
  refine Gl.st st8 ?_
  show Gl _ _ _ _ _ _ _ (T8.setTop (mkF m 36 #[.val (.int p1), .val (.int p2), .val (.int p3), .val (.int p4), .val (.int p5), .val (.ref b1), .unset, .unset, .unset, .unset, .unset, .unset, .unset] [(.int (own_pick p4)), (.int (3 : Int32)), (.ref b1)]))
  have Vx9 := V7
  obtain ⟨cl9, Ar9, qk9, S9, M9, H9, G9⟩ := Vx9
  have hin9 : ¬ ((3 : Int32) < 0 ∨ cl9.slots.size ≤ ((3 : Int32)).toNatClampNeg) := inb_of S9 ⟨by decide, by decide⟩
  obtain ⟨T9, h9, X9, e9, W9, st9⟩ := stB X8 hx hZ e8 Ar9 (j := (3 : Int32)) hin9 (g := (mkF m 36 #[.val (.int p1), .val (.int p2), .val (.int p3), .val (.int p4), .val (.int p5), .val (.ref b1), .unset, .unset, .unset, .unset, .unset, .unset, .unset] [(.int (own_pick p4)), (.int (3 : Int32)), (.ref b1)])) rfl rfl (hb hby at_36)
  refine Gl.st st9 ?_
  have Z9 : n0 ≤ h9.size := Nat.le_trans Z7 (Keep.of_wr W9).1
  have N9 := Fr.snoc X9 N8 gzb1
  have V9 : Arv Z h9 b1 k1 .byte (4 : Int32) [(.int (nar .byte (own_pick p1))), (.int (nar .byte (own_pick p2))), (.int (nar .byte (own_pick p3))), (.int (nar .byte (own_pick p4)))] (.int (0 : Int32)) := Arv.set Ar9 qk9 S9 M9 H9 G9 (fits_nar_byte _) W9 3 rfl (Nat.le_of_ble_eq_true rfl)
  show Gl _ _ _ _ _ _ _ (T9.setTop (mkF m 37 #[.val (.int p1), .val (.int p2), .val (.int p3), .val (.int p4), .val (.int p5), .val (.ref b1), .unset, .unset, .unset, .unset, .unset, .unset, .unset] []))
  refine Gl.st (fun t k => XS.iload X9.here hx rfl (hb hby at_37) rfl  k) ?_
  show Gl _ _ _ _ _ _ _ (T9.setTop (mkF m 39 #[.val (.int p1), .val (.int p2), .val (.int p3), .val (.int p4), .val (.int p5), .val (.ref b1), .unset, .unset, .unset, .unset, .unset, .unset, .unset] [(.int p5)]))
  refine Gl.st (fun t k => XS.sipush X9.here hx rfl (hb hby at_39) k) ?_
  show Gl _ _ _ _ _ _ _ (T9.setTop (mkF m 42 #[.val (.int p1), .val (.int p2), .val (.int p3), .val (.int p4), .val (.int p5), .val (.ref b1), .unset, .unset, .unset, .unset, .unset, .unset, .unset] [(.int (255 : Int32)), (.int p5)]))
  refine Gl.st (fun t k => XS.iand X9.here hx rfl (hb hby at_42) rfl k) ?_
  show Gl _ _ _ _ _ _ _ (T9.setTop (mkF m 43 #[.val (.int p1), .val (.int p2), .val (.int p3), .val (.int p4), .val (.int p5), .val (.ref b1), .unset, .unset, .unset, .unset, .unset, .unset, .unset] [(.int (p5 &&& (255 : Int32)))]))
  refine Gl.st (fun t k => XS.iconst X9.here hx rfl (hb hby at_43) k) ?_
  show Gl _ _ _ _ _ _ _ (T9.setTop (mkF m 44 #[.val (.int p1), .val (.int p2), .val (.int p3), .val (.int p4), .val (.int p5), .val (.ref b1), .unset, .unset, .unset, .unset, .unset, .unset, .unset] [(.int (5 : Int32)), (.int (p5 &&& (255 : Int32)))]))
  refine Gl.st (fun t k => iremM X9 hx rfl (hb hby at_44) rfl (by decide) k) ?_
  show Gl _ _ _ _ _ _ _ (T9.setTop (mkF m 45 #[.val (.int p1), .val (.int p2), .val (.int p3), .val (.int p4), .val (.int p5), .val (.ref b1), .unset, .unset, .unset, .unset, .unset, .unset, .unset] [(.int ((p5 &&& (255 : Int32)) % (5 : Int32)))]))
  refine Gl.st (fun t k => XS.istore X9.here hx rfl (hb hby at_45) rfl (l' := #[.val (.int p1), .val (.int p2), .val (.int p3), .val (.int p4), .val (.int p5), .val (.ref b1), .val (.int ((p5 &&& (255 : Int32)) % (5 : Int32))), .unset, .unset, .unset, .unset, .unset, .unset]) rfl k) ?_
  show Gl _ _ _ _ _ _ _ (T9.setTop (mkF m 47 #[.val (.int p1), .val (.int p2), .val (.int p3), .val (.int p4), .val (.int p5), .val (.ref b1), .val (.int ((p5 &&& (255 : Int32)) % (5 : Int32))), .unset, .unset, .unset, .unset, .unset, .unset] []))
  obtain ⟨uu, huu⟩ : ∃ z : Int32, z = ((p5 &&& (255 : Int32)) % (5 : Int32)) := ⟨_, rfl⟩
  rw [← huu]
  show Gl _ _ _ _ _ _ _ (T9.setTop (mkF m 47 #[.val (.int p1), .val (.int p2), .val (.int p3), .val (.int p4), .val (.int p5), .val (.ref b1), .val (.int uu), .unset, .unset, .unset, .unset, .unset, .unset] []))
  refine Gl.st (fun t k => XS.iload X9.here hx rfl (hb hby at_47) rfl  k) ?_
  show Gl _ _ _ _ _ _ _ (T9.setTop (mkF m 49 #[.val (.int p1), .val (.int p2), .val (.int p3), .val (.int p4), .val (.int p5), .val (.ref b1), .val (.int uu), .unset, .unset, .unset, .unset, .unset, .unset] [(.int p5)]))
  refine Gl.st (fun t k => XS.bipush X9.here hx rfl (hb hby at_49) k) ?_
  show Gl _ _ _ _ _ _ _ (T9.setTop (mkF m 51 #[.val (.int p1), .val (.int p2), .val (.int p3), .val (.int p4), .val (.int p5), .val (.ref b1), .val (.int uu), .unset, .unset, .unset, .unset, .unset, .unset] [(.int (8 : Int32)), (.int p5)]))
  refine Gl.st (fun t k => XS.iushr X9.here hx rfl (hb hby at_51) rfl k) ?_
  show Gl _ _ _ _ _ _ _ (T9.setTop (mkF m 52 #[.val (.int p1), .val (.int p2), .val (.int p3), .val (.int p4), .val (.int p5), .val (.ref b1), .val (.int uu), .unset, .unset, .unset, .unset, .unset, .unset] [(.int ((p5.toUInt32 >>> ((8 : Int32) &&& 31).toUInt32).toInt32))]))
  refine Gl.st (fun t k => XS.sipush X9.here hx rfl (hb hby at_52) k) ?_
  show Gl _ _ _ _ _ _ _ (T9.setTop (mkF m 55 #[.val (.int p1), .val (.int p2), .val (.int p3), .val (.int p4), .val (.int p5), .val (.ref b1), .val (.int uu), .unset, .unset, .unset, .unset, .unset, .unset] [(.int (255 : Int32)), (.int ((p5.toUInt32 >>> ((8 : Int32) &&& 31).toUInt32).toInt32))]))
  refine Gl.st (fun t k => XS.iand X9.here hx rfl (hb hby at_55) rfl k) ?_
  show Gl _ _ _ _ _ _ _ (T9.setTop (mkF m 56 #[.val (.int p1), .val (.int p2), .val (.int p3), .val (.int p4), .val (.int p5), .val (.ref b1), .val (.int uu), .unset, .unset, .unset, .unset, .unset, .unset] [(.int (((p5.toUInt32 >>> ((8 : Int32) &&& 31).toUInt32).toInt32) &&& (255 : Int32)))]))
  refine Gl.st (fun t k => XS.iconst X9.here hx rfl (hb hby at_56) k) ?_
  show Gl _ _ _ _ _ _ _ (T9.setTop (mkF m 57 #[.val (.int p1), .val (.int p2), .val (.int p3), .val (.int p4), .val (.int p5), .val (.ref b1), .val (.int uu), .unset, .unset, .unset, .unset, .unset, .unset] [(.int (5 : Int32)), (.int (((p5.toUInt32 >>> ((8 : Int32) &&& 31).toUInt32).toInt32) &&& (255 : Int32)))]))
  refine Gl.st (fun t k => iremM X9 hx rfl (hb hby at_57) rfl (by decide) k) ?_
  show Gl _ _ _ _ _ _ _ (T9.setTop (mkF m 58 #[.val (.int p1), .val (.int p2), .val (.int p3), .val (.int p4), .val (.int p5), .val (.ref b1), .val (.int uu), .unset, .unset, .unset, .unset, .unset, .unset] [(.int ((((p5.toUInt32 >>> ((8 : Int32) &&& 31).toUInt32).toInt32) &&& (255 : Int32)) % (5 : Int32)))]))
  refine Gl.st (fun t k => XS.istore X9.here hx rfl (hb hby at_58) rfl (l' := #[.val (.int p1), .val (.int p2), .val (.int p3), .val (.int p4), .val (.int p5), .val (.ref b1), .val (.int uu), .val (.int ((((p5.toUInt32 >>> ((8 : Int32) &&& 31).toUInt32).toInt32) &&& (255 : Int32)) % (5 : Int32))), .unset, .unset, .unset, .unset, .unset]) rfl k) ?_
  show Gl _ _ _ _ _ _ _ (T9.setTop (mkF m 60 #[.val (.int p1), .val (.int p2), .val (.int p3), .val (.int p4), .val (.int p5), .val (.ref b1), .val (.int uu), .val (.int ((((p5.toUInt32 >>> ((8 : Int32) &&& 31).toUInt32).toInt32) &&& (255 : Int32)) % (5 : Int32))), .unset, .unset, .unset, .unset, .unset] []))
  obtain ⟨vv, hvv⟩ : ∃ z : Int32, z = ((((p5.toUInt32 >>> ((8 : Int32) &&& 31).toUInt32).toInt32) &&& (255 : Int32)) % (5 : Int32)) := ⟨_, rfl⟩
  rw [← hvv]
  show Gl _ _ _ _ _ _ _ (T9.setTop (mkF m 60 #[.val (.int p1), .val (.int p2), .val (.int p3), .val (.int p4), .val (.int p5), .val (.ref b1), .val (.int uu), .val (.int vv), .unset, .unset, .unset, .unset, .unset] []))
  refine Gl.st (fun t k => XS.iload X9.here hx rfl (hb hby at_60) rfl  k) ?_
  show Gl _ _ _ _ _ _ _ (T9.setTop (mkF m 62 #[.val (.int p1), .val (.int p2), .val (.int p3), .val (.int p4), .val (.int p5), .val (.ref b1), .val (.int uu), .val (.int vv), .unset, .unset, .unset, .unset, .unset] [(.int uu)]))
  refine Gl.st (fun t k => XS.iload X9.here hx rfl (hb hby at_62) rfl  k) ?_
  show Gl _ _ _ _ _ _ _ (T9.setTop (mkF m 64 #[.val (.int p1), .val (.int p2), .val (.int p3), .val (.int p4), .val (.int p5), .val (.ref b1), .val (.int uu), .val (.int vv), .unset, .unset, .unset, .unset, .unset] [(.int vv), (.int uu)]))
  obtain ⟨_, _, ⟨T10, L10, k10, n10⟩, -, X10, ⟨Lc10, hQ10, l10, y10, z10⟩, st10⟩ := Jvm.LawKit.callS X9 hx (y := (⟨"java/lang/Math", "min", "(II)I"⟩ : MethodName)) hown (mvT hZ (hw _ (List.mem_of_getElem? (i := 5) rfl))) (mvT hZ (hw _ (List.mem_of_getElem? (i := 6) rfl))) (mvT hZ (hw _ (List.mem_of_getElem? (i := 7) rfl))) (mvT hZ (hw _ (List.mem_of_getElem? (i := 8) rfl))) (by decide) (backOf (W := 0) (rm2 l Z a0 hw [] uu vv h9 n0) hZ (hw _ (List.mem_of_getElem? (i := 8) rfl)) (hw _ (List.mem_of_getElem? (i := 7) rfl)) (by decide) (by decide)) (g := (mkF m 64 #[.val (.int p1), .val (.int p2), .val (.int p3), .val (.int p4), .val (.int p5), .val (.ref b1), .val (.int uu), .val (.int vv), .unset, .unset, .unset, .unset, .unset] [(.int vv), (.int uu)])) rfl (by rw [hml]; rfl) (argsL := [(.int uu), (.int vv)]) (rest := []) (lenOf pd_3 rfl) rfl (by show 2 * 0 + _ ≤ _; exact Nat.le_of_eq rfl) (hb hby at_64) (fun _ _ => ⟨rfl, e9, (by decide : 1 + 0 ≤ _), (by decide : 4 + 0 ≤ _)⟩)
  dsimp only [Pt.U, Pt.locs, Pt.cells, Pt.slots] at X10 l10 y10 z10 st10 hQ10
  rw [y10, z10] at X10
  obtain ⟨rfl, N10q, e10⟩ := hQ10
  have N10 : Fr n0 L10 := by rw [l10]; exact Fr.app N9 N10q
  refine Gl.st st10 ?_
  show Gl _ _ _ _ _ _ _ (T10.setTop (mkF m 67 #[.val (.int p1), .val (.int p2), .val (.int p3), .val (.int p4), .val (.int p5), .val (.ref b1), .val (.int uu), .val (.int vv), .unset, .unset, .unset, .unset, .unset] [(.int (own_min uu vv))]))
  refine Gl.st (fun t k => XS.istore X10.here hx rfl (hb hby at_67) rfl (l' := #[.val (.int p1), .val (.int p2), .val (.int p3), .val (.int p4), .val (.int p5), .val (.ref b1), .val (.int uu), .val (.int vv), .val (.int (own_min uu vv)), .unset, .unset, .unset, .unset]) rfl k) ?_
  show Gl _ _ _ _ _ _ _ (T10.setTop (mkF m 69 #[.val (.int p1), .val (.int p2), .val (.int p3), .val (.int p4), .val (.int p5), .val (.ref b1), .val (.int uu), .val (.int vv), .val (.int (own_min uu vv)), .unset, .unset, .unset, .unset] []))
  obtain ⟨fr, hfr⟩ : ∃ z : Int32, z = (own_min uu vv) := ⟨_, rfl⟩
  rw [← hfr]
  show Gl _ _ _ _ _ _ _ (T10.setTop (mkF m 69 #[.val (.int p1), .val (.int p2), .val (.int p3), .val (.int p4), .val (.int p5), .val (.ref b1), .val (.int uu), .val (.int vv), .val (.int fr), .unset, .unset, .unset, .unset] []))
  refine Gl.st (fun t k => XS.iload X10.here hx rfl (hb hby at_69) rfl  k) ?_
  show Gl _ _ _ _ _ _ _ (T10.setTop (mkF m 71 #[.val (.int p1), .val (.int p2), .val (.int p3), .val (.int p4), .val (.int p5), .val (.ref b1), .val (.int uu), .val (.int vv), .val (.int fr), .unset, .unset, .unset, .unset] [(.int uu)]))
  refine Gl.st (fun t k => XS.iload X10.here hx rfl (hb hby at_71) rfl  k) ?_
  show Gl _ _ _ _ _ _ _ (T10.setTop (mkF m 73 #[.val (.int p1), .val (.int p2), .val (.int p3), .val (.int p4), .val (.int p5), .val (.ref b1), .val (.int uu), .val (.int vv), .val (.int fr), .unset, .unset, .unset, .unset] [(.int vv), (.int uu)]))
  obtain ⟨_, _, ⟨T11, L11, k11, n11⟩, -, X11, ⟨Lc11, hQ11, l11, y11, z11⟩, st11⟩ := Jvm.LawKit.callS X10 hx (y := (⟨"java/lang/Math", "max", "(II)I"⟩ : MethodName)) hown (mvT hZ (hw _ (List.mem_of_getElem? (i := 9) rfl))) (mvT hZ (hw _ (List.mem_of_getElem? (i := 10) rfl))) (mvT hZ (hw _ (List.mem_of_getElem? (i := 7) rfl))) (mvT hZ (hw _ (List.mem_of_getElem? (i := 11) rfl))) (by decide) (backOf (W := 0) (rm3 l Z a0 hw [] uu vv h9 n0) hZ (hw _ (List.mem_of_getElem? (i := 11) rfl)) (hw _ (List.mem_of_getElem? (i := 7) rfl)) (by decide) (by decide)) (g := (mkF m 73 #[.val (.int p1), .val (.int p2), .val (.int p3), .val (.int p4), .val (.int p5), .val (.ref b1), .val (.int uu), .val (.int vv), .val (.int fr), .unset, .unset, .unset, .unset] [(.int vv), (.int uu)])) rfl (by rw [hml]; rfl) (argsL := [(.int uu), (.int vv)]) (rest := []) (lenOf pd_3 rfl) rfl (by show 2 * 0 + _ ≤ _; exact Nat.le_of_eq rfl) (hb hby at_73) (fun _ _ => ⟨rfl, e10, (by decide : 1 + 0 ≤ _), (by decide : 4 + 0 ≤ _)⟩)
  dsimp only [Pt.U, Pt.locs, Pt.cells, Pt.slots] at X11 l11 y11 z11 st11 hQ11
  rw [y11, z11] at X11
  obtain ⟨rfl, N11q, e11⟩ := hQ11
  have N11 : Fr n0 L11 := by rw [l11]; exact Fr.app N10 N11q
  refine Gl.st st11 ?_
  show Gl _ _ _ _ _ _ _ (T11.setTop (mkF m 76 #[.val (.int p1), .val (.int p2), .val (.int p3), .val (.int p4), .val (.int p5), .val (.ref b1), .val (.int uu), .val (.int vv), .val (.int fr), .unset, .unset, .unset, .unset] [(.int (own_max uu vv))]))
  refine Gl.st (fun t k => XS.istore X11.here hx rfl (hb hby at_76) rfl (l' := #[.val (.int p1), .val (.int p2), .val (.int p3), .val (.int p4), .val (.int p5), .val (.ref b1), .val (.int uu), .val (.int vv), .val (.int fr), .val (.int (own_max uu vv)), .unset, .unset, .unset]) rfl k) ?_
  show Gl _ _ _ _ _ _ _ (T11.setTop (mkF m 78 #[.val (.int p1), .val (.int p2), .val (.int p3), .val (.int p4), .val (.int p5), .val (.ref b1), .val (.int uu), .val (.int vv), .val (.int fr), .val (.int (own_max uu vv)), .unset, .unset, .unset] []))
  obtain ⟨tt, htt⟩ : ∃ z : Int32, z = (own_max uu vv) := ⟨_, rfl⟩
  rw [← htt]
  have hu : 0 ≤ uu.toInt ∧ uu.toInt ≤ 4 := by rw [huu]; exact own_u _
  have hv : 0 ≤ vv.toInt ∧ vv.toInt ≤ 4 := by rw [hvv]; exact own_u _
  have hft : 0 ≤ fr.toInt ∧ fr.toInt ≤ tt.toInt ∧ tt.toInt ≤ 4 := by rw [hfr, htt, own_min_i, own_max_i]; omega
  show Gl _ _ _ _ _ _ _ (T11.setTop (mkF m 78 #[.val (.int p1), .val (.int p2), .val (.int p3), .val (.int p4), .val (.int p5), .val (.ref b1), .val (.int uu), .val (.int vv), .val (.int fr), .val (.int tt), .unset, .unset, .unset] []))
  refine Gl.st (fun t k => XS.aload X11.here hx rfl (hb hby at_78) rfl rfl k) ?_
  show Gl _ _ _ _ _ _ _ (T11.setTop (mkF m 80 #[.val (.int p1), .val (.int p2), .val (.int p3), .val (.int p4), .val (.int p5), .val (.ref b1), .val (.int uu), .val (.int vv), .val (.int fr), .val (.int tt), .unset, .unset, .unset] [(.ref b1)]))
  refine Gl.st (fun t k => XS.iconst X11.here hx rfl (hb hby at_80) k) ?_
  show Gl _ _ _ _ _ _ _ (T11.setTop (mkF m 81 #[.val (.int p1), .val (.int p2), .val (.int p3), .val (.int p4), .val (.int p5), .val (.ref b1), .val (.int uu), .val (.int vv), .val (.int fr), .val (.int tt), .unset, .unset, .unset] [(.int (0 : Int32)), (.ref b1)]))
  refine Gl.st (fun t k => XS.iload X11.here hx rfl (hb hby at_81) rfl  k) ?_
  show Gl _ _ _ _ _ _ _ (T11.setTop (mkF m 83 #[.val (.int p1), .val (.int p2), .val (.int p3), .val (.int p4), .val (.int p5), .val (.ref b1), .val (.int uu), .val (.int vv), .val (.int fr), .val (.int tt), .unset, .unset, .unset] [(.int fr), (.int (0 : Int32)), (.ref b1)]))
  refine Gl.st (fun t k => XS.iload X11.here hx rfl (hb hby at_83) rfl  k) ?_
  show Gl _ _ _ _ _ _ _ (T11.setTop (mkF m 85 #[.val (.int p1), .val (.int p2), .val (.int p3), .val (.int p4), .val (.int p5), .val (.ref b1), .val (.int uu), .val (.int vv), .val (.int fr), .val (.int tt), .unset, .unset, .unset] [(.int tt), (.int fr), (.int (0 : Int32)), (.ref b1)]))
  obtain ⟨_, _, ⟨T12, L12, k12, n12⟩, -, X12, ⟨Lc12, hQ12, l12, y12, z12⟩, st12⟩ := Jvm.LawKit.callS X11 hx (y := (⟨"com/example/ilsa/ilsa/io/LineFieldsRecordStartPinLaw", "field", "([BIII)Z"⟩ : MethodName)) hown (mvT hZ (hw _ (List.mem_of_getElem? (i := 12) rfl))) (mvT hZ (hw _ (List.mem_of_getElem? (i := 13) rfl))) (mvT hZ (hw _ (List.mem_of_getElem? (i := 3) rfl))) (mvT hZ (hw _ (List.mem_of_getElem? (i := 14) rfl))) (by decide) (backOf (W := 0) (rm4v0 l Z a0 hw [] b1 fr tt (k1) ((nar .byte (own_pick p1))) ((nar .byte (own_pick p2))) ((nar .byte (own_pick p3))) ((nar .byte (own_pick p4))) h9 n0  V9) hZ (hw _ (List.mem_of_getElem? (i := 14) rfl)) (hw _ (List.mem_of_getElem? (i := 3) rfl)) (by decide) (by decide)) (g := (mkF m 85 #[.val (.int p1), .val (.int p2), .val (.int p3), .val (.int p4), .val (.int p5), .val (.ref b1), .val (.int uu), .val (.int vv), .val (.int fr), .val (.int tt), .unset, .unset, .unset] [(.int tt), (.int fr), (.int (0 : Int32)), (.ref b1)])) rfl (by rw [hml]; rfl) (argsL := [(.ref b1), (.int (0 : Int32)), (.int fr), (.int tt)]) (rest := []) (lenOf pd_4 rfl) rfl (by show 2 * 0 + _ ≤ _; exact Nat.le_of_eq rfl) (hb hby at_85) (fun _ _ => ⟨rfl, e11, (by decide : 1 + 0 ≤ _), (by decide : 4 + 0 ≤ _)⟩)
  dsimp only [Pt.U, Pt.locs, Pt.cells, Pt.slots] at X12 l12 y12 z12 st12 hQ12
  rw [y12, z12] at X12
  obtain ⟨rfl, N12q, e12⟩ := hQ12
  have N12 : Fr n0 L12 := by rw [l12]; exact Fr.app N11 N12q
  refine Gl.st st12 ?_
  show Gl _ _ _ _ _ _ _ (T12.setTop (mkF m 88 #[.val (.int p1), .val (.int p2), .val (.int p3), .val (.int p4), .val (.int p5), .val (.ref b1), .val (.int uu), .val (.int vv), .val (.int fr), .val (.int tt), .unset, .unset, .unset] [(.int (own_field0 fr tt (nar .byte (own_pick p1)) (nar .byte (own_pick p2)) (nar .byte (own_pick p3)) (nar .byte (own_pick p4))))]))
  by_cases hc88 : (own_field0 fr tt (nar .byte (own_pick p1)) (nar .byte (own_pick p2)) (nar .byte (own_pick p3)) (nar .byte (own_pick p4))) = (0 : Int32)
  · refine Gl.st (fun t k => XS.ifYes X12.here hx rfl (pc0 := 88) (pc' := 97) rfl (hb hby at_88) rfl ((if0 _ _).trans (teq hc88).1) (by decide) (by decide) k) ?_
    show Gl _ _ _ _ _ _ _ (T12.setTop (mkF m 97 #[.val (.int p1), .val (.int p2), .val (.int p3), .val (.int p4), .val (.int p5), .val (.ref b1), .val (.int uu), .val (.int vv), .val (.int fr), .val (.int tt), .unset, .unset, .unset] []))
    refine Gl.st (fun t k => XS.aload X12.here hx rfl (hb hby at_97) rfl rfl k) ?_
    show Gl _ _ _ _ _ _ _ (T12.setTop (mkF m 99 #[.val (.int p1), .val (.int p2), .val (.int p3), .val (.int p4), .val (.int p5), .val (.ref b1), .val (.int uu), .val (.int vv), .val (.int fr), .val (.int tt), .unset, .unset, .unset] [(.ref b1)]))
    refine Gl.st (fun t k => XS.iconst X12.here hx rfl (hb hby at_99) k) ?_
    show Gl _ _ _ _ _ _ _ (T12.setTop (mkF m 100 #[.val (.int p1), .val (.int p2), .val (.int p3), .val (.int p4), .val (.int p5), .val (.ref b1), .val (.int uu), .val (.int vv), .val (.int fr), .val (.int tt), .unset, .unset, .unset] [(.int (1 : Int32)), (.ref b1)]))
    refine Gl.st (fun t k => XS.iload X12.here hx rfl (hb hby at_100) rfl  k) ?_
    show Gl _ _ _ _ _ _ _ (T12.setTop (mkF m 102 #[.val (.int p1), .val (.int p2), .val (.int p3), .val (.int p4), .val (.int p5), .val (.ref b1), .val (.int uu), .val (.int vv), .val (.int fr), .val (.int tt), .unset, .unset, .unset] [(.int fr), (.int (1 : Int32)), (.ref b1)]))
    refine Gl.st (fun t k => XS.iload X12.here hx rfl (hb hby at_102) rfl  k) ?_
    show Gl _ _ _ _ _ _ _ (T12.setTop (mkF m 104 #[.val (.int p1), .val (.int p2), .val (.int p3), .val (.int p4), .val (.int p5), .val (.ref b1), .val (.int uu), .val (.int vv), .val (.int fr), .val (.int tt), .unset, .unset, .unset] [(.int tt), (.int fr), (.int (1 : Int32)), (.ref b1)]))
    obtain ⟨_, _, ⟨T13, L13, k13, n13⟩, -, X13, ⟨Lc13, hQ13, l13, y13, z13⟩, st13⟩ := Jvm.LawKit.callS X12 hx (y := (⟨"com/example/ilsa/ilsa/io/LineFieldsRecordStartPinLaw", "field", "([BIII)Z"⟩ : MethodName)) hown (mvT hZ (hw _ (List.mem_of_getElem? (i := 12) rfl))) (mvT hZ (hw _ (List.mem_of_getElem? (i := 13) rfl))) (mvT hZ (hw _ (List.mem_of_getElem? (i := 3) rfl))) (mvT hZ (hw _ (List.mem_of_getElem? (i := 14) rfl))) (by decide) (backOf (W := 0) (rm4v1 l Z a0 hw [] b1 fr tt (k1) ((nar .byte (own_pick p1))) ((nar .byte (own_pick p2))) ((nar .byte (own_pick p3))) ((nar .byte (own_pick p4))) h9 n0  V9) hZ (hw _ (List.mem_of_getElem? (i := 14) rfl)) (hw _ (List.mem_of_getElem? (i := 3) rfl)) (by decide) (by decide)) (g := (mkF m 104 #[.val (.int p1), .val (.int p2), .val (.int p3), .val (.int p4), .val (.int p5), .val (.ref b1), .val (.int uu), .val (.int vv), .val (.int fr), .val (.int tt), .unset, .unset, .unset] [(.int tt), (.int fr), (.int (1 : Int32)), (.ref b1)])) rfl (by rw [hml]; rfl) (argsL := [(.ref b1), (.int (1 : Int32)), (.int fr), (.int tt)]) (rest := []) (lenOf pd_4 rfl) rfl (by show 2 * 0 + _ ≤ _; exact Nat.le_of_eq rfl) (hb hby at_104) (fun _ _ => ⟨rfl, e12, (by decide : 1 + 0 ≤ _), (by decide : 4 + 0 ≤ _)⟩)
    dsimp only [Pt.U, Pt.locs, Pt.cells, Pt.slots] at X13 l13 y13 z13 st13 hQ13
    rw [y13, z13] at X13
    obtain ⟨rfl, N13q, e13⟩ := hQ13
    have N13 : Fr n0 L13 := by rw [l13]; exact Fr.app N12 N13q
    refine Gl.st st13 ?_
    show Gl _ _ _ _ _ _ _ (T13.setTop (mkF m 107 #[.val (.int p1), .val (.int p2), .val (.int p3), .val (.int p4), .val (.int p5), .val (.ref b1), .val (.int uu), .val (.int vv), .val (.int fr), .val (.int tt), .unset, .unset, .unset] [(.int (own_field1 fr tt (nar .byte (own_pick p1)) (nar .byte (own_pick p2)) (nar .byte (own_pick p3)) (nar .byte (own_pick p4))))]))
    by_cases hc107 : (own_field1 fr tt (nar .byte (own_pick p1)) (nar .byte (own_pick p2)) (nar .byte (own_pick p3)) (nar .byte (own_pick p4))) = (0 : Int32)
    · refine Gl.st (fun t k => XS.ifYes X13.here hx rfl (pc0 := 107) (pc' := 116) rfl (hb hby at_107) rfl ((if0 _ _).trans (teq hc107).1) (by decide) (by decide) k) ?_
      show Gl _ _ _ _ _ _ _ (T13.setTop (mkF m 116 #[.val (.int p1), .val (.int p2), .val (.int p3), .val (.int p4), .val (.int p5), .val (.ref b1), .val (.int uu), .val (.int vv), .val (.int fr), .val (.int tt), .unset, .unset, .unset] []))
      refine Gl.st (fun t k => XS.aload X13.here hx rfl (hb hby at_116) rfl rfl k) ?_
      show Gl _ _ _ _ _ _ _ (T13.setTop (mkF m 118 #[.val (.int p1), .val (.int p2), .val (.int p3), .val (.int p4), .val (.int p5), .val (.ref b1), .val (.int uu), .val (.int vv), .val (.int fr), .val (.int tt), .unset, .unset, .unset] [(.ref b1)]))
      refine Gl.st (fun t k => XS.iconst X13.here hx rfl (hb hby at_118) k) ?_
      show Gl _ _ _ _ _ _ _ (T13.setTop (mkF m 119 #[.val (.int p1), .val (.int p2), .val (.int p3), .val (.int p4), .val (.int p5), .val (.ref b1), .val (.int uu), .val (.int vv), .val (.int fr), .val (.int tt), .unset, .unset, .unset] [(.int (2 : Int32)), (.ref b1)]))
      refine Gl.st (fun t k => XS.iload X13.here hx rfl (hb hby at_119) rfl  k) ?_
      show Gl _ _ _ _ _ _ _ (T13.setTop (mkF m 121 #[.val (.int p1), .val (.int p2), .val (.int p3), .val (.int p4), .val (.int p5), .val (.ref b1), .val (.int uu), .val (.int vv), .val (.int fr), .val (.int tt), .unset, .unset, .unset] [(.int fr), (.int (2 : Int32)), (.ref b1)]))
      refine Gl.st (fun t k => XS.iload X13.here hx rfl (hb hby at_121) rfl  k) ?_
      show Gl _ _ _ _ _ _ _ (T13.setTop (mkF m 123 #[.val (.int p1), .val (.int p2), .val (.int p3), .val (.int p4), .val (.int p5), .val (.ref b1), .val (.int uu), .val (.int vv), .val (.int fr), .val (.int tt), .unset, .unset, .unset] [(.int tt), (.int fr), (.int (2 : Int32)), (.ref b1)]))
      obtain ⟨_, _, ⟨T14, L14, k14, n14⟩, -, X14, ⟨Lc14, hQ14, l14, y14, z14⟩, st14⟩ := Jvm.LawKit.callS X13 hx (y := (⟨"com/example/ilsa/ilsa/io/LineFieldsRecordStartPinLaw", "field", "([BIII)Z"⟩ : MethodName)) hown (mvT hZ (hw _ (List.mem_of_getElem? (i := 12) rfl))) (mvT hZ (hw _ (List.mem_of_getElem? (i := 13) rfl))) (mvT hZ (hw _ (List.mem_of_getElem? (i := 3) rfl))) (mvT hZ (hw _ (List.mem_of_getElem? (i := 14) rfl))) (by decide) (backOf (W := 0) (rm4v2 l Z a0 hw [] b1 fr tt (k1) ((nar .byte (own_pick p1))) ((nar .byte (own_pick p2))) ((nar .byte (own_pick p3))) ((nar .byte (own_pick p4))) h9 n0  V9) hZ (hw _ (List.mem_of_getElem? (i := 14) rfl)) (hw _ (List.mem_of_getElem? (i := 3) rfl)) (by decide) (by decide)) (g := (mkF m 123 #[.val (.int p1), .val (.int p2), .val (.int p3), .val (.int p4), .val (.int p5), .val (.ref b1), .val (.int uu), .val (.int vv), .val (.int fr), .val (.int tt), .unset, .unset, .unset] [(.int tt), (.int fr), (.int (2 : Int32)), (.ref b1)])) rfl (by rw [hml]; rfl) (argsL := [(.ref b1), (.int (2 : Int32)), (.int fr), (.int tt)]) (rest := []) (lenOf pd_4 rfl) rfl (by show 2 * 0 + _ ≤ _; exact Nat.le_of_eq rfl) (hb hby at_123) (fun _ _ => ⟨rfl, e13, (by decide : 1 + 0 ≤ _), (by decide : 4 + 0 ≤ _)⟩)
      dsimp only [Pt.U, Pt.locs, Pt.cells, Pt.slots] at X14 l14 y14 z14 st14 hQ14
      rw [y14, z14] at X14
      obtain ⟨rfl, N14q, e14⟩ := hQ14
      have N14 : Fr n0 L14 := by rw [l14]; exact Fr.app N13 N14q
      refine Gl.st st14 ?_
      show Gl _ _ _ _ _ _ _ (T14.setTop (mkF m 126 #[.val (.int p1), .val (.int p2), .val (.int p3), .val (.int p4), .val (.int p5), .val (.ref b1), .val (.int uu), .val (.int vv), .val (.int fr), .val (.int tt), .unset, .unset, .unset] [(.int (own_field2 fr tt (nar .byte (own_pick p1)) (nar .byte (own_pick p2)) (nar .byte (own_pick p3)) (nar .byte (own_pick p4))))]))
      by_cases hc126 : (own_field2 fr tt (nar .byte (own_pick p1)) (nar .byte (own_pick p2)) (nar .byte (own_pick p3)) (nar .byte (own_pick p4))) = (0 : Int32)
      · refine Gl.st (fun t k => XS.ifYes X14.here hx rfl (pc0 := 126) (pc' := 135) rfl (hb hby at_126) rfl ((if0 _ _).trans (teq hc126).1) (by decide) (by decide) k) ?_
        show Gl _ _ _ _ _ _ _ (T14.setTop (mkF m 135 #[.val (.int p1), .val (.int p2), .val (.int p3), .val (.int p4), .val (.int p5), .val (.ref b1), .val (.int uu), .val (.int vv), .val (.int fr), .val (.int tt), .unset, .unset, .unset] []))
        refine Gl.st (fun t k => XS.aload X14.here hx rfl (hb hby at_135) rfl rfl k) ?_
        show Gl _ _ _ _ _ _ _ (T14.setTop (mkF m 137 #[.val (.int p1), .val (.int p2), .val (.int p3), .val (.int p4), .val (.int p5), .val (.ref b1), .val (.int uu), .val (.int vv), .val (.int fr), .val (.int tt), .unset, .unset, .unset] [(.ref b1)]))
        refine Gl.st (fun t k => XS.iconst X14.here hx rfl (hb hby at_137) k) ?_
        show Gl _ _ _ _ _ _ _ (T14.setTop (mkF m 138 #[.val (.int p1), .val (.int p2), .val (.int p3), .val (.int p4), .val (.int p5), .val (.ref b1), .val (.int uu), .val (.int vv), .val (.int fr), .val (.int tt), .unset, .unset, .unset] [(.int (3 : Int32)), (.ref b1)]))
        refine Gl.st (fun t k => XS.iload X14.here hx rfl (hb hby at_138) rfl  k) ?_
        show Gl _ _ _ _ _ _ _ (T14.setTop (mkF m 140 #[.val (.int p1), .val (.int p2), .val (.int p3), .val (.int p4), .val (.int p5), .val (.ref b1), .val (.int uu), .val (.int vv), .val (.int fr), .val (.int tt), .unset, .unset, .unset] [(.int fr), (.int (3 : Int32)), (.ref b1)]))
        refine Gl.st (fun t k => XS.iload X14.here hx rfl (hb hby at_140) rfl  k) ?_
        show Gl _ _ _ _ _ _ _ (T14.setTop (mkF m 142 #[.val (.int p1), .val (.int p2), .val (.int p3), .val (.int p4), .val (.int p5), .val (.ref b1), .val (.int uu), .val (.int vv), .val (.int fr), .val (.int tt), .unset, .unset, .unset] [(.int tt), (.int fr), (.int (3 : Int32)), (.ref b1)]))
        obtain ⟨_, _, ⟨T15, L15, k15, n15⟩, -, X15, ⟨Lc15, hQ15, l15, y15, z15⟩, st15⟩ := Jvm.LawKit.callS X14 hx (y := (⟨"com/example/ilsa/ilsa/io/LineFieldsRecordStartPinLaw", "field", "([BIII)Z"⟩ : MethodName)) hown (mvT hZ (hw _ (List.mem_of_getElem? (i := 12) rfl))) (mvT hZ (hw _ (List.mem_of_getElem? (i := 13) rfl))) (mvT hZ (hw _ (List.mem_of_getElem? (i := 3) rfl))) (mvT hZ (hw _ (List.mem_of_getElem? (i := 14) rfl))) (by decide) (backOf (W := 0) (rm4v3 l Z a0 hw [] b1 fr tt (k1) ((nar .byte (own_pick p1))) ((nar .byte (own_pick p2))) ((nar .byte (own_pick p3))) ((nar .byte (own_pick p4))) h9 n0  V9) hZ (hw _ (List.mem_of_getElem? (i := 14) rfl)) (hw _ (List.mem_of_getElem? (i := 3) rfl)) (by decide) (by decide)) (g := (mkF m 142 #[.val (.int p1), .val (.int p2), .val (.int p3), .val (.int p4), .val (.int p5), .val (.ref b1), .val (.int uu), .val (.int vv), .val (.int fr), .val (.int tt), .unset, .unset, .unset] [(.int tt), (.int fr), (.int (3 : Int32)), (.ref b1)])) rfl (by rw [hml]; rfl) (argsL := [(.ref b1), (.int (3 : Int32)), (.int fr), (.int tt)]) (rest := []) (lenOf pd_4 rfl) rfl (by show 2 * 0 + _ ≤ _; exact Nat.le_of_eq rfl) (hb hby at_142) (fun _ _ => ⟨rfl, e14, (by decide : 1 + 0 ≤ _), (by decide : 4 + 0 ≤ _)⟩)
        dsimp only [Pt.U, Pt.locs, Pt.cells, Pt.slots] at X15 l15 y15 z15 st15 hQ15
        rw [y15, z15] at X15
        obtain ⟨rfl, N15q, e15⟩ := hQ15
        have N15 : Fr n0 L15 := by rw [l15]; exact Fr.app N14 N15q
        refine Gl.st st15 ?_
        show Gl _ _ _ _ _ _ _ (T15.setTop (mkF m 145 #[.val (.int p1), .val (.int p2), .val (.int p3), .val (.int p4), .val (.int p5), .val (.ref b1), .val (.int uu), .val (.int vv), .val (.int fr), .val (.int tt), .unset, .unset, .unset] [(.int (own_field3 fr tt (nar .byte (own_pick p1)) (nar .byte (own_pick p2)) (nar .byte (own_pick p3)) (nar .byte (own_pick p4))))]))
        by_cases hc145 : (own_field3 fr tt (nar .byte (own_pick p1)) (nar .byte (own_pick p2)) (nar .byte (own_pick p3)) (nar .byte (own_pick p4))) = (0 : Int32)
        · refine Gl.st (fun t k => XS.ifYes X15.here hx rfl (pc0 := 145) (pc' := 154) rfl (hb hby at_145) rfl ((if0 _ _).trans (teq hc145).1) (by decide) (by decide) k) ?_
          show Gl _ _ _ _ _ _ _ (T15.setTop (mkF m 154 #[.val (.int p1), .val (.int p2), .val (.int p3), .val (.int p4), .val (.int p5), .val (.ref b1), .val (.int uu), .val (.int vv), .val (.int fr), .val (.int tt), .unset, .unset, .unset] []))
          refine Gl.st (fun t k => XS.iconst X15.here hx rfl (hb hby at_154) k) ?_
          show Gl _ _ _ _ _ _ _ (T15.setTop (mkF m 155 #[.val (.int p1), .val (.int p2), .val (.int p3), .val (.int p4), .val (.int p5), .val (.ref b1), .val (.int uu), .val (.int vv), .val (.int fr), .val (.int tt), .unset, .unset, .unset] [(.int (-1 : Int32))]))
          refine Gl.st (fun t k => XS.istore X15.here hx rfl (hb hby at_155) rfl (l' := #[.val (.int p1), .val (.int p2), .val (.int p3), .val (.int p4), .val (.int p5), .val (.ref b1), .val (.int uu), .val (.int vv), .val (.int fr), .val (.int tt), .val (.int (-1 : Int32)), .unset, .unset]) rfl k) ?_
          show Gl _ _ _ _ _ _ _ (T15.setTop (mkF m 157 #[.val (.int p1), .val (.int p2), .val (.int p3), .val (.int p4), .val (.int p5), .val (.ref b1), .val (.int uu), .val (.int vv), .val (.int fr), .val (.int tt), .val (.int (-1 : Int32)), .unset, .unset] []))
          refine Gl.st (fun t k => XS.iload X15.here hx rfl (hb hby at_157) rfl  k) ?_
          show Gl _ _ _ _ _ _ _ (T15.setTop (mkF m 159 #[.val (.int p1), .val (.int p2), .val (.int p3), .val (.int p4), .val (.int p5), .val (.ref b1), .val (.int uu), .val (.int vv), .val (.int fr), .val (.int tt), .val (.int (-1 : Int32)), .unset, .unset] [(.int (-1 : Int32))]))
          refine Gl.st (fun t k => XS.iconst X15.here hx rfl (hb hby at_159) k) ?_
          show Gl _ _ _ _ _ _ _ (T15.setTop (mkF m 160 #[.val (.int p1), .val (.int p2), .val (.int p3), .val (.int p4), .val (.int p5), .val (.ref b1), .val (.int uu), .val (.int vv), .val (.int fr), .val (.int tt), .val (.int (-1 : Int32)), .unset, .unset] [(.int (-1 : Int32)), (.int (-1 : Int32))]))
          refine Gl.st (fun t k => XS.icmpNo X15.here hx rfl (hb hby at_160) rfl (teq (rfl : (-1 : Int32) = (-1 : Int32))).2 k) ?_
          show Gl _ _ _ _ _ _ _ (T15.setTop (mkF m 163 #[.val (.int p1), .val (.int p2), .val (.int p3), .val (.int p4), .val (.int p5), .val (.ref b1), .val (.int uu), .val (.int vv), .val (.int fr), .val (.int tt), .val (.int (-1 : Int32)), .unset, .unset] []))
          refine Gl.st (fun t k => XS.iconst X15.here hx rfl (hb hby at_163) k) ?_
          show Gl _ _ _ _ _ _ _ (T15.setTop (mkF m 164 #[.val (.int p1), .val (.int p2), .val (.int p3), .val (.int p4), .val (.int p5), .val (.ref b1), .val (.int uu), .val (.int vv), .val (.int fr), .val (.int tt), .val (.int (-1 : Int32)), .unset, .unset] [(.int (-1 : Int32))]))
          refine Gl.st (fun t k => XS.istore X15.here hx rfl (hb hby at_164) rfl (l' := #[.val (.int p1), .val (.int p2), .val (.int p3), .val (.int p4), .val (.int p5), .val (.ref b1), .val (.int uu), .val (.int vv), .val (.int fr), .val (.int tt), .val (.int (-1 : Int32)), .val (.int (-1 : Int32)), .unset]) rfl k) ?_
          show Gl _ _ _ _ _ _ _ (T15.setTop (mkF m 166 #[.val (.int p1), .val (.int p2), .val (.int p3), .val (.int p4), .val (.int p5), .val (.ref b1), .val (.int uu), .val (.int vv), .val (.int fr), .val (.int tt), .val (.int (-1 : Int32)), .val (.int (-1 : Int32)), .unset] []))
          refine Gl.st (fun t k => XS.goto X15.here hx rfl (pc0 := 166) (pc' := 189) rfl (hb hby at_166) (by decide) (by decide) k) ?_
          show Gl _ _ _ _ _ _ _ (T15.setTop (mkF m 189 #[.val (.int p1), .val (.int p2), .val (.int p3), .val (.int p4), .val (.int p5), .val (.ref b1), .val (.int uu), .val (.int vv), .val (.int fr), .val (.int tt), .val (.int (-1 : Int32)), .val (.int (-1 : Int32)), .unset] []))
          refine Gl.st (fun t k => XS.aload X15.here hx rfl (hb hby at_189) rfl rfl k) ?_
          show Gl _ _ _ _ _ _ _ (T15.setTop (mkF m 191 #[.val (.int p1), .val (.int p2), .val (.int p3), .val (.int p4), .val (.int p5), .val (.ref b1), .val (.int uu), .val (.int vv), .val (.int fr), .val (.int tt), .val (.int (-1 : Int32)), .val (.int (-1 : Int32)), .unset] [(.ref b1)]))
          refine Gl.st (fun t k => XS.iload X15.here hx rfl (hb hby at_191) rfl  k) ?_
          show Gl _ _ _ _ _ _ _ (T15.setTop (mkF m 193 #[.val (.int p1), .val (.int p2), .val (.int p3), .val (.int p4), .val (.int p5), .val (.ref b1), .val (.int uu), .val (.int vv), .val (.int fr), .val (.int tt), .val (.int (-1 : Int32)), .val (.int (-1 : Int32)), .unset] [(.int fr), (.ref b1)]))
          refine Gl.st (fun t k => XS.iload X15.here hx rfl (hb hby at_193) rfl  k) ?_
          show Gl _ _ _ _ _ _ _ (T15.setTop (mkF m 195 #[.val (.int p1), .val (.int p2), .val (.int p3), .val (.int p4), .val (.int p5), .val (.ref b1), .val (.int uu), .val (.int vv), .val (.int fr), .val (.int tt), .val (.int (-1 : Int32)), .val (.int (-1 : Int32)), .unset] [(.int tt), (.int fr), (.ref b1)]))
          obtain ⟨_, _, ⟨T16, L16, k16, n16⟩, -, X16, ⟨Lc16, hQ16, l16, y16, z16⟩, st16⟩ := Jvm.LawKit.callS X15 hx (y := (⟨"com/example/ilsa/ilsa/io/LineFields", "recordStart", "([BII)I"⟩ : MethodName)) hown (mvT hZ (hw _ (List.mem_of_getElem? (i := 15) rfl))) (mvT hZ (hw _ (List.mem_of_getElem? (i := 16) rfl))) (mvT hZ (hw _ (List.mem_of_getElem? (i := 17) rfl))) (mvT hZ (hw _ (List.mem_of_getElem? (i := 18) rfl))) (by decide) (backOf (W := 0) (rm5 l Z a0 hw [] b1 fr tt (k1) ((nar .byte (own_pick p1))) ((nar .byte (own_pick p2))) ((nar .byte (own_pick p3))) ((nar .byte (own_pick p4))) h9 n0  V9 hft.1 hft.2.1 hft.2.2) hZ (hw _ (List.mem_of_getElem? (i := 18) rfl)) (hw _ (List.mem_of_getElem? (i := 17) rfl)) (by decide) (by decide)) (g := (mkF m 195 #[.val (.int p1), .val (.int p2), .val (.int p3), .val (.int p4), .val (.int p5), .val (.ref b1), .val (.int uu), .val (.int vv), .val (.int fr), .val (.int tt), .val (.int (-1 : Int32)), .val (.int (-1 : Int32)), .unset] [(.int tt), (.int fr), (.ref b1)])) rfl (by rw [hml]; rfl) (argsL := [(.ref b1), (.int fr), (.int tt)]) (rest := []) (lenOf pd_1 rfl) rfl (by show 2 * 0 + _ ≤ _; exact Nat.le_of_eq rfl) (hb hby at_195) (fun _ _ => ⟨rfl, e15, (by decide : 1 + 0 ≤ _), (by decide : 4 + 0 ≤ _)⟩)
          dsimp only [Pt.U, Pt.locs, Pt.cells, Pt.slots] at X16 l16 y16 z16 st16 hQ16
          rw [y16, z16] at X16
          obtain ⟨rfl, N16q, e16⟩ := hQ16
          have N16 : Fr n0 L16 := by rw [l16]; exact Fr.app N15 N16q
          refine Gl.st st16 ?_
          show Gl _ _ _ _ _ _ _ (T16.setTop (mkF m 198 #[.val (.int p1), .val (.int p2), .val (.int p3), .val (.int p4), .val (.int p5), .val (.ref b1), .val (.int uu), .val (.int vv), .val (.int fr), .val (.int tt), .val (.int (-1 : Int32)), .val (.int (-1 : Int32)), .unset] [(.int (own_rec fr tt (nar .byte (own_pick p1)) (nar .byte (own_pick p2)) (nar .byte (own_pick p3)) (nar .byte (own_pick p4))))]))
          refine Gl.st (fun t k => XS.istore X16.here hx rfl (hb hby at_198) rfl (l' := #[.val (.int p1), .val (.int p2), .val (.int p3), .val (.int p4), .val (.int p5), .val (.ref b1), .val (.int uu), .val (.int vv), .val (.int fr), .val (.int tt), .val (.int (-1 : Int32)), .val (.int (-1 : Int32)), .val (.int (own_rec fr tt (nar .byte (own_pick p1)) (nar .byte (own_pick p2)) (nar .byte (own_pick p3)) (nar .byte (own_pick p4))))]) rfl k) ?_
          show Gl _ _ _ _ _ _ _ (T16.setTop (mkF m 200 #[.val (.int p1), .val (.int p2), .val (.int p3), .val (.int p4), .val (.int p5), .val (.ref b1), .val (.int uu), .val (.int vv), .val (.int fr), .val (.int tt), .val (.int (-1 : Int32)), .val (.int (-1 : Int32)), .val (.int (own_rec fr tt (nar .byte (own_pick p1)) (nar .byte (own_pick p2)) (nar .byte (own_pick p3)) (nar .byte (own_pick p4))))] []))
          refine Gl.st (fun t k => XS.iload X16.here hx rfl (hb hby at_200) rfl  k) ?_
          show Gl _ _ _ _ _ _ _ (T16.setTop (mkF m 202 #[.val (.int p1), .val (.int p2), .val (.int p3), .val (.int p4), .val (.int p5), .val (.ref b1), .val (.int uu), .val (.int vv), .val (.int fr), .val (.int tt), .val (.int (-1 : Int32)), .val (.int (-1 : Int32)), .val (.int (own_rec fr tt (nar .byte (own_pick p1)) (nar .byte (own_pick p2)) (nar .byte (own_pick p3)) (nar .byte (own_pick p4))))] [(.int (own_rec fr tt (nar .byte (own_pick p1)) (nar .byte (own_pick p2)) (nar .byte (own_pick p3)) (nar .byte (own_pick p4))))]))
          refine Gl.st (fun t k => XS.iload X16.here hx rfl (hb hby at_202) rfl  k) ?_
          show Gl _ _ _ _ _ _ _ (T16.setTop (mkF m 204 #[.val (.int p1), .val (.int p2), .val (.int p3), .val (.int p4), .val (.int p5), .val (.ref b1), .val (.int uu), .val (.int vv), .val (.int fr), .val (.int tt), .val (.int (-1 : Int32)), .val (.int (-1 : Int32)), .val (.int (own_rec fr tt (nar .byte (own_pick p1)) (nar .byte (own_pick p2)) (nar .byte (own_pick p3)) (nar .byte (own_pick p4))))] [(.int (-1 : Int32)), (.int (own_rec fr tt (nar .byte (own_pick p1)) (nar .byte (own_pick p2)) (nar .byte (own_pick p3)) (nar .byte (own_pick p4))))]))
          have hc204_17 : (own_rec fr tt (nar .byte (own_pick p1)) (nar .byte (own_pick p2)) (nar .byte (own_pick p3)) (nar .byte (own_pick p4))) = (-1 : Int32) := by rw [own_final _ _ _ _ _ _ hft.1 hft.2.1 hft.2.2 (own_byte _) (own_byte _) (own_byte _) (own_byte _)]; simp only [if_pos hc88, if_pos hc107, if_pos hc126, if_pos hc145]
          refine Gl.st (fun t k => XS.icmpNo X16.here hx rfl (hb hby at_204) rfl (teq hc204_17).2 k) ?_
          show Gl _ _ _ _ _ _ _ (T16.setTop (mkF m 207 #[.val (.int p1), .val (.int p2), .val (.int p3), .val (.int p4), .val (.int p5), .val (.ref b1), .val (.int uu), .val (.int vv), .val (.int fr), .val (.int tt), .val (.int (-1 : Int32)), .val (.int (-1 : Int32)), .val (.int (own_rec fr tt (nar .byte (own_pick p1)) (nar .byte (own_pick p2)) (nar .byte (own_pick p3)) (nar .byte (own_pick p4))))] []))
          refine Gl.st (fun t k => XS.iconst X16.here hx rfl (hb hby at_207) k) ?_
          show Gl _ _ _ _ _ _ _ (T16.setTop (mkF m 208 #[.val (.int p1), .val (.int p2), .val (.int p3), .val (.int p4), .val (.int p5), .val (.ref b1), .val (.int uu), .val (.int vv), .val (.int fr), .val (.int tt), .val (.int (-1 : Int32)), .val (.int (-1 : Int32)), .val (.int (own_rec fr tt (nar .byte (own_pick p1)) (nar .byte (own_pick p2)) (nar .byte (own_pick p3)) (nar .byte (own_pick p4))))] [(.int (1 : Int32))]))
          refine Gl.st (fun t k => XS.goto X16.here hx rfl (pc0 := 208) (pc' := 212) rfl (hb hby at_208) (by decide) (by decide) k) ?_
          show Gl _ _ _ _ _ _ _ (T16.setTop (mkF m 212 #[.val (.int p1), .val (.int p2), .val (.int p3), .val (.int p4), .val (.int p5), .val (.ref b1), .val (.int uu), .val (.int vv), .val (.int fr), .val (.int tt), .val (.int (-1 : Int32)), .val (.int (-1 : Int32)), .val (.int (own_rec fr tt (nar .byte (own_pick p1)) (nar .byte (own_pick p2)) (nar .byte (own_pick p3)) (nar .byte (own_pick p4))))] [(.int (1 : Int32))]))
          exact Gl.retN X16 hx hlk Bd.returns (by simp) (hb hby at_212) (⟨rfl, N16⟩) (by decide) (by decide)
        · refine Gl.st (fun t k => XS.ifNo X15.here hx rfl (hb hby at_145) rfl ((if0 _ _).trans (feq hc145).1) k) ?_
          show Gl _ _ _ _ _ _ _ (T15.setTop (mkF m 148 #[.val (.int p1), .val (.int p2), .val (.int p3), .val (.int p4), .val (.int p5), .val (.ref b1), .val (.int uu), .val (.int vv), .val (.int fr), .val (.int tt), .unset, .unset, .unset] []))
          refine Gl.st (fun t k => XS.iconst X15.here hx rfl (hb hby at_148) k) ?_
          show Gl _ _ _ _ _ _ _ (T15.setTop (mkF m 149 #[.val (.int p1), .val (.int p2), .val (.int p3), .val (.int p4), .val (.int p5), .val (.ref b1), .val (.int uu), .val (.int vv), .val (.int fr), .val (.int tt), .unset, .unset, .unset] [(.int (3 : Int32))]))
          refine Gl.st (fun t k => XS.istore X15.here hx rfl (hb hby at_149) rfl (l' := #[.val (.int p1), .val (.int p2), .val (.int p3), .val (.int p4), .val (.int p5), .val (.ref b1), .val (.int uu), .val (.int vv), .val (.int fr), .val (.int tt), .val (.int (3 : Int32)), .unset, .unset]) rfl k) ?_
          show Gl _ _ _ _ _ _ _ (T15.setTop (mkF m 151 #[.val (.int p1), .val (.int p2), .val (.int p3), .val (.int p4), .val (.int p5), .val (.ref b1), .val (.int uu), .val (.int vv), .val (.int fr), .val (.int tt), .val (.int (3 : Int32)), .unset, .unset] []))
          refine Gl.st (fun t k => XS.goto X15.here hx rfl (pc0 := 151) (pc' := 157) rfl (hb hby at_151) (by decide) (by decide) k) ?_
          show Gl _ _ _ _ _ _ _ (T15.setTop (mkF m 157 #[.val (.int p1), .val (.int p2), .val (.int p3), .val (.int p4), .val (.int p5), .val (.ref b1), .val (.int uu), .val (.int vv), .val (.int fr), .val (.int tt), .val (.int (3 : Int32)), .unset, .unset] []))
          refine Gl.st (fun t k => XS.iload X15.here hx rfl (hb hby at_157) rfl  k) ?_
          show Gl _ _ _ _ _ _ _ (T15.setTop (mkF m 159 #[.val (.int p1), .val (.int p2), .val (.int p3), .val (.int p4), .val (.int p5), .val (.ref b1), .val (.int uu), .val (.int vv), .val (.int fr), .val (.int tt), .val (.int (3 : Int32)), .unset, .unset] [(.int (3 : Int32))]))
          refine Gl.st (fun t k => XS.iconst X15.here hx rfl (hb hby at_159) k) ?_
          show Gl _ _ _ _ _ _ _ (T15.setTop (mkF m 160 #[.val (.int p1), .val (.int p2), .val (.int p3), .val (.int p4), .val (.int p5), .val (.ref b1), .val (.int uu), .val (.int vv), .val (.int fr), .val (.int tt), .val (.int (3 : Int32)), .unset, .unset] [(.int (-1 : Int32)), (.int (3 : Int32))]))
          refine Gl.st (fun t k => XS.icmpYes X15.here hx rfl (pc0 := 160) (pc' := 169) rfl (hb hby at_160) rfl (feq (by decide : ¬ ((3 : Int32) = (-1 : Int32)))).2 (by decide) (by decide) k) ?_
          show Gl _ _ _ _ _ _ _ (T15.setTop (mkF m 169 #[.val (.int p1), .val (.int p2), .val (.int p3), .val (.int p4), .val (.int p5), .val (.ref b1), .val (.int uu), .val (.int vv), .val (.int fr), .val (.int tt), .val (.int (3 : Int32)), .unset, .unset] []))
          refine Gl.st (fun t k => XS.aload X15.here hx rfl (hb hby at_169) rfl rfl k) ?_
          show Gl _ _ _ _ _ _ _ (T15.setTop (mkF m 171 #[.val (.int p1), .val (.int p2), .val (.int p3), .val (.int p4), .val (.int p5), .val (.ref b1), .val (.int uu), .val (.int vv), .val (.int fr), .val (.int tt), .val (.int (3 : Int32)), .unset, .unset] [(.ref b1)]))
          refine Gl.st (fun t k => XS.iload X15.here hx rfl (hb hby at_171) rfl  k) ?_
          show Gl _ _ _ _ _ _ _ (T15.setTop (mkF m 173 #[.val (.int p1), .val (.int p2), .val (.int p3), .val (.int p4), .val (.int p5), .val (.ref b1), .val (.int uu), .val (.int vv), .val (.int fr), .val (.int tt), .val (.int (3 : Int32)), .unset, .unset] [(.int (3 : Int32)), (.ref b1)]))
          have Vx18 := V9
          obtain ⟨cl18, Ar18, qk18, S18, M18, H18, G18⟩ := Vx18
          have hin18 : ¬ ((3 : Int32) < 0 ∨ cl18.slots.size ≤ ((3 : Int32)).toNatClampNeg) := inb_of S18 ⟨by decide, by decide⟩
          have hat18 : cl18.slots[((3 : Int32)).toNatClampNeg]? = some (.int (nar .byte (own_pick p4))) := H18.at hin18 rfl
          refine Gl.st (X15.baloadBytes hx (j := (3 : Int32)) (v := (.int (nar .byte (own_pick p4)))) (by rw [e15]; exact Ar18.1) (State.isArrayOf_alike hZ.alike Ar18.2.1) Ar18.2.2 hin18 hat18 (g := (mkF m 173 #[.val (.int p1), .val (.int p2), .val (.int p3), .val (.int p4), .val (.int p5), .val (.ref b1), .val (.int uu), .val (.int vv), .val (.int fr), .val (.int tt), .val (.int (3 : Int32)), .unset, .unset] [(.int (3 : Int32)), (.ref b1)])) rfl rfl (hb hby at_173)) ?_
          show Gl _ _ _ _ _ _ _ (T15.setTop (mkF m 174 #[.val (.int p1), .val (.int p2), .val (.int p3), .val (.int p4), .val (.int p5), .val (.ref b1), .val (.int uu), .val (.int vv), .val (.int fr), .val (.int tt), .val (.int (3 : Int32)), .unset, .unset] [(.int (nar .byte (own_pick p4)))]))
          refine Gl.st (fun t k => XS.bipush X15.here hx rfl (hb hby at_174) k) ?_
          show Gl _ _ _ _ _ _ _ (T15.setTop (mkF m 176 #[.val (.int p1), .val (.int p2), .val (.int p3), .val (.int p4), .val (.int p5), .val (.ref b1), .val (.int uu), .val (.int vv), .val (.int fr), .val (.int tt), .val (.int (3 : Int32)), .unset, .unset] [(.int (35 : Int32)), (.int (nar .byte (own_pick p4)))]))
          by_cases hc176 : (nar .byte (own_pick p4)) = (35 : Int32)
          · refine Gl.st (fun t k => XS.icmpNo X15.here hx rfl (hb hby at_176) rfl (teq hc176).2 k) ?_
            show Gl _ _ _ _ _ _ _ (T15.setTop (mkF m 179 #[.val (.int p1), .val (.int p2), .val (.int p3), .val (.int p4), .val (.int p5), .val (.ref b1), .val (.int uu), .val (.int vv), .val (.int fr), .val (.int tt), .val (.int (3 : Int32)), .unset, .unset] []))
            refine Gl.st (fun t k => XS.iconst X15.here hx rfl (hb hby at_179) k) ?_
            show Gl _ _ _ _ _ _ _ (T15.setTop (mkF m 180 #[.val (.int p1), .val (.int p2), .val (.int p3), .val (.int p4), .val (.int p5), .val (.ref b1), .val (.int uu), .val (.int vv), .val (.int fr), .val (.int tt), .val (.int (3 : Int32)), .unset, .unset] [(.int (-1 : Int32))]))
            refine Gl.st (fun t k => XS.istore X15.here hx rfl (hb hby at_180) rfl (l' := #[.val (.int p1), .val (.int p2), .val (.int p3), .val (.int p4), .val (.int p5), .val (.ref b1), .val (.int uu), .val (.int vv), .val (.int fr), .val (.int tt), .val (.int (3 : Int32)), .val (.int (-1 : Int32)), .unset]) rfl k) ?_
            show Gl _ _ _ _ _ _ _ (T15.setTop (mkF m 182 #[.val (.int p1), .val (.int p2), .val (.int p3), .val (.int p4), .val (.int p5), .val (.ref b1), .val (.int uu), .val (.int vv), .val (.int fr), .val (.int tt), .val (.int (3 : Int32)), .val (.int (-1 : Int32)), .unset] []))
            refine Gl.st (fun t k => XS.goto X15.here hx rfl (pc0 := 182) (pc' := 189) rfl (hb hby at_182) (by decide) (by decide) k) ?_
            show Gl _ _ _ _ _ _ _ (T15.setTop (mkF m 189 #[.val (.int p1), .val (.int p2), .val (.int p3), .val (.int p4), .val (.int p5), .val (.ref b1), .val (.int uu), .val (.int vv), .val (.int fr), .val (.int tt), .val (.int (3 : Int32)), .val (.int (-1 : Int32)), .unset] []))
            refine Gl.st (fun t k => XS.aload X15.here hx rfl (hb hby at_189) rfl rfl k) ?_
            show Gl _ _ _ _ _ _ _ (T15.setTop (mkF m 191 #[.val (.int p1), .val (.int p2), .val (.int p3), .val (.int p4), .val (.int p5), .val (.ref b1), .val (.int uu), .val (.int vv), .val (.int fr), .val (.int tt), .val (.int (3 : Int32)), .val (.int (-1 : Int32)), .unset] [(.ref b1)]))
            refine Gl.st (fun t k => XS.iload X15.here hx rfl (hb hby at_191) rfl  k) ?_
            show Gl _ _ _ _ _ _ _ (T15.setTop (mkF m 193 #[.val (.int p1), .val (.int p2), .val (.int p3), .val (.int p4), .val (.int p5), .val (.ref b1), .val (.int uu), .val (.int vv), .val (.int fr), .val (.int tt), .val (.int (3 : Int32)), .val (.int (-1 : Int32)), .unset] [(.int fr), (.ref b1)]))
            refine Gl.st (fun t k => XS.iload X15.here hx rfl (hb hby at_193) rfl  k) ?_
            show Gl _ _ _ _ _ _ _ (T15.setTop (mkF m 195 #[.val (.int p1), .val (.int p2), .val (.int p3), .val (.int p4), .val (.int p5), .val (.ref b1), .val (.int uu), .val (.int vv), .val (.int fr), .val (.int tt), .val (.int (3 : Int32)), .val (.int (-1 : Int32)), .unset] [(.int tt), (.int fr), (.ref b1)]))
            obtain ⟨_, _, ⟨T19, L19, k19, n19⟩, -, X19, ⟨Lc19, hQ19, l19, y19, z19⟩, st19⟩ := Jvm.LawKit.callS X15 hx (y := (⟨"com/example/ilsa/ilsa/io/LineFields", "recordStart", "([BII)I"⟩ : MethodName)) hown (mvT hZ (hw _ (List.mem_of_getElem? (i := 15) rfl))) (mvT hZ (hw _ (List.mem_of_getElem? (i := 16) rfl))) (mvT hZ (hw _ (List.mem_of_getElem? (i := 17) rfl))) (mvT hZ (hw _ (List.mem_of_getElem? (i := 18) rfl))) (by decide) (backOf (W := 0) (rm5 l Z a0 hw [] b1 fr tt (k1) ((nar .byte (own_pick p1))) ((nar .byte (own_pick p2))) ((nar .byte (own_pick p3))) ((nar .byte (own_pick p4))) h9 n0  V9 hft.1 hft.2.1 hft.2.2) hZ (hw _ (List.mem_of_getElem? (i := 18) rfl)) (hw _ (List.mem_of_getElem? (i := 17) rfl)) (by decide) (by decide)) (g := (mkF m 195 #[.val (.int p1), .val (.int p2), .val (.int p3), .val (.int p4), .val (.int p5), .val (.ref b1), .val (.int uu), .val (.int vv), .val (.int fr), .val (.int tt), .val (.int (3 : Int32)), .val (.int (-1 : Int32)), .unset] [(.int tt), (.int fr), (.ref b1)])) rfl (by rw [hml]; rfl) (argsL := [(.ref b1), (.int fr), (.int tt)]) (rest := []) (lenOf pd_1 rfl) rfl (by show 2 * 0 + _ ≤ _; exact Nat.le_of_eq rfl) (hb hby at_195) (fun _ _ => ⟨rfl, e15, (by decide : 1 + 0 ≤ _), (by decide : 4 + 0 ≤ _)⟩)
            dsimp only [Pt.U, Pt.locs, Pt.cells, Pt.slots] at X19 l19 y19 z19 st19 hQ19
            rw [y19, z19] at X19
            obtain ⟨rfl, N19q, e19⟩ := hQ19
            have N19 : Fr n0 L19 := by rw [l19]; exact Fr.app N15 N19q
            refine Gl.st st19 ?_
            show Gl _ _ _ _ _ _ _ (T19.setTop (mkF m 198 #[.val (.int p1), .val (.int p2), .val (.int p3), .val (.int p4), .val (.int p5), .val (.ref b1), .val (.int uu), .val (.int vv), .val (.int fr), .val (.int tt), .val (.int (3 : Int32)), .val (.int (-1 : Int32)), .unset] [(.int (own_rec fr tt (nar .byte (own_pick p1)) (nar .byte (own_pick p2)) (nar .byte (own_pick p3)) (nar .byte (own_pick p4))))]))
            refine Gl.st (fun t k => XS.istore X19.here hx rfl (hb hby at_198) rfl (l' := #[.val (.int p1), .val (.int p2), .val (.int p3), .val (.int p4), .val (.int p5), .val (.ref b1), .val (.int uu), .val (.int vv), .val (.int fr), .val (.int tt), .val (.int (3 : Int32)), .val (.int (-1 : Int32)), .val (.int (own_rec fr tt (nar .byte (own_pick p1)) (nar .byte (own_pick p2)) (nar .byte (own_pick p3)) (nar .byte (own_pick p4))))]) rfl k) ?_
            show Gl _ _ _ _ _ _ _ (T19.setTop (mkF m 200 #[.val (.int p1), .val (.int p2), .val (.int p3), .val (.int p4), .val (.int p5), .val (.ref b1), .val (.int uu), .val (.int vv), .val (.int fr), .val (.int tt), .val (.int (3 : Int32)), .val (.int (-1 : Int32)), .val (.int (own_rec fr tt (nar .byte (own_pick p1)) (nar .byte (own_pick p2)) (nar .byte (own_pick p3)) (nar .byte (own_pick p4))))] []))
            refine Gl.st (fun t k => XS.iload X19.here hx rfl (hb hby at_200) rfl  k) ?_
            show Gl _ _ _ _ _ _ _ (T19.setTop (mkF m 202 #[.val (.int p1), .val (.int p2), .val (.int p3), .val (.int p4), .val (.int p5), .val (.ref b1), .val (.int uu), .val (.int vv), .val (.int fr), .val (.int tt), .val (.int (3 : Int32)), .val (.int (-1 : Int32)), .val (.int (own_rec fr tt (nar .byte (own_pick p1)) (nar .byte (own_pick p2)) (nar .byte (own_pick p3)) (nar .byte (own_pick p4))))] [(.int (own_rec fr tt (nar .byte (own_pick p1)) (nar .byte (own_pick p2)) (nar .byte (own_pick p3)) (nar .byte (own_pick p4))))]))
            refine Gl.st (fun t k => XS.iload X19.here hx rfl (hb hby at_202) rfl  k) ?_
            show Gl _ _ _ _ _ _ _ (T19.setTop (mkF m 204 #[.val (.int p1), .val (.int p2), .val (.int p3), .val (.int p4), .val (.int p5), .val (.ref b1), .val (.int uu), .val (.int vv), .val (.int fr), .val (.int tt), .val (.int (3 : Int32)), .val (.int (-1 : Int32)), .val (.int (own_rec fr tt (nar .byte (own_pick p1)) (nar .byte (own_pick p2)) (nar .byte (own_pick p3)) (nar .byte (own_pick p4))))] [(.int (-1 : Int32)), (.int (own_rec fr tt (nar .byte (own_pick p1)) (nar .byte (own_pick p2)) (nar .byte (own_pick p3)) (nar .byte (own_pick p4))))]))
            have hc204_20 : (own_rec fr tt (nar .byte (own_pick p1)) (nar .byte (own_pick p2)) (nar .byte (own_pick p3)) (nar .byte (own_pick p4))) = (-1 : Int32) := by rw [own_final _ _ _ _ _ _ hft.1 hft.2.1 hft.2.2 (own_byte _) (own_byte _) (own_byte _) (own_byte _)]; simp only [if_pos hc88, if_pos hc107, if_pos hc126, if_neg hc145, if_pos hc176]
            refine Gl.st (fun t k => XS.icmpNo X19.here hx rfl (hb hby at_204) rfl (teq hc204_20).2 k) ?_
            show Gl _ _ _ _ _ _ _ (T19.setTop (mkF m 207 #[.val (.int p1), .val (.int p2), .val (.int p3), .val (.int p4), .val (.int p5), .val (.ref b1), .val (.int uu), .val (.int vv), .val (.int fr), .val (.int tt), .val (.int (3 : Int32)), .val (.int (-1 : Int32)), .val (.int (own_rec fr tt (nar .byte (own_pick p1)) (nar .byte (own_pick p2)) (nar .byte (own_pick p3)) (nar .byte (own_pick p4))))] []))
            refine Gl.st (fun t k => XS.iconst X19.here hx rfl (hb hby at_207) k) ?_
            show Gl _ _ _ _ _ _ _ (T19.setTop (mkF m 208 #[.val (.int p1), .val (.int p2), .val (.int p3), .val (.int p4), .val (.int p5), .val (.ref b1), .val (.int uu), .val (.int vv), .val (.int fr), .val (.int tt), .val (.int (3 : Int32)), .val (.int (-1 : Int32)), .val (.int (own_rec fr tt (nar .byte (own_pick p1)) (nar .byte (own_pick p2)) (nar .byte (own_pick p3)) (nar .byte (own_pick p4))))] [(.int (1 : Int32))]))
            refine Gl.st (fun t k => XS.goto X19.here hx rfl (pc0 := 208) (pc' := 212) rfl (hb hby at_208) (by decide) (by decide) k) ?_
            show Gl _ _ _ _ _ _ _ (T19.setTop (mkF m 212 #[.val (.int p1), .val (.int p2), .val (.int p3), .val (.int p4), .val (.int p5), .val (.ref b1), .val (.int uu), .val (.int vv), .val (.int fr), .val (.int tt), .val (.int (3 : Int32)), .val (.int (-1 : Int32)), .val (.int (own_rec fr tt (nar .byte (own_pick p1)) (nar .byte (own_pick p2)) (nar .byte (own_pick p3)) (nar .byte (own_pick p4))))] [(.int (1 : Int32))]))
            exact Gl.retN X19 hx hlk Bd.returns (by simp) (hb hby at_212) (⟨rfl, N19⟩) (by decide) (by decide)
          · refine Gl.st (fun t k => XS.icmpYes X15.here hx rfl (pc0 := 176) (pc' := 185) rfl (hb hby at_176) rfl (feq hc176).2 (by decide) (by decide) k) ?_
            show Gl _ _ _ _ _ _ _ (T15.setTop (mkF m 185 #[.val (.int p1), .val (.int p2), .val (.int p3), .val (.int p4), .val (.int p5), .val (.ref b1), .val (.int uu), .val (.int vv), .val (.int fr), .val (.int tt), .val (.int (3 : Int32)), .unset, .unset] []))
            refine Gl.st (fun t k => XS.iload X15.here hx rfl (hb hby at_185) rfl  k) ?_
            show Gl _ _ _ _ _ _ _ (T15.setTop (mkF m 187 #[.val (.int p1), .val (.int p2), .val (.int p3), .val (.int p4), .val (.int p5), .val (.ref b1), .val (.int uu), .val (.int vv), .val (.int fr), .val (.int tt), .val (.int (3 : Int32)), .unset, .unset] [(.int (3 : Int32))]))
            refine Gl.st (fun t k => XS.istore X15.here hx rfl (hb hby at_187) rfl (l' := #[.val (.int p1), .val (.int p2), .val (.int p3), .val (.int p4), .val (.int p5), .val (.ref b1), .val (.int uu), .val (.int vv), .val (.int fr), .val (.int tt), .val (.int (3 : Int32)), .val (.int (3 : Int32)), .unset]) rfl k) ?_
            show Gl _ _ _ _ _ _ _ (T15.setTop (mkF m 189 #[.val (.int p1), .val (.int p2), .val (.int p3), .val (.int p4), .val (.int p5), .val (.ref b1), .val (.int uu), .val (.int vv), .val (.int fr), .val (.int tt), .val (.int (3 : Int32)), .val (.int (3 : Int32)), .unset] []))
            refine Gl.st (fun t k => XS.aload X15.here hx rfl (hb hby at_189) rfl rfl k) ?_
            show Gl _ _ _ _ _ _ _ (T15.setTop (mkF m 191 #[.val (.int p1), .val (.int p2), .val (.int p3), .val (.int p4), .val (.int p5), .val (.ref b1), .val (.int uu), .val (.int vv), .val (.int fr), .val (.int tt), .val (.int (3 : Int32)), .val (.int (3 : Int32)), .unset] [(.ref b1)]))
            refine Gl.st (fun t k => XS.iload X15.here hx rfl (hb hby at_191) rfl  k) ?_
            show Gl _ _ _ _ _ _ _ (T15.setTop (mkF m 193 #[.val (.int p1), .val (.int p2), .val (.int p3), .val (.int p4), .val (.int p5), .val (.ref b1), .val (.int uu), .val (.int vv), .val (.int fr), .val (.int tt), .val (.int (3 : Int32)), .val (.int (3 : Int32)), .unset] [(.int fr), (.ref b1)]))
            refine Gl.st (fun t k => XS.iload X15.here hx rfl (hb hby at_193) rfl  k) ?_
            show Gl _ _ _ _ _ _ _ (T15.setTop (mkF m 195 #[.val (.int p1), .val (.int p2), .val (.int p3), .val (.int p4), .val (.int p5), .val (.ref b1), .val (.int uu), .val (.int vv), .val (.int fr), .val (.int tt), .val (.int (3 : Int32)), .val (.int (3 : Int32)), .unset] [(.int tt), (.int fr), (.ref b1)]))
            obtain ⟨_, _, ⟨T21, L21, k21, n21⟩, -, X21, ⟨Lc21, hQ21, l21, y21, z21⟩, st21⟩ := Jvm.LawKit.callS X15 hx (y := (⟨"com/example/ilsa/ilsa/io/LineFields", "recordStart", "([BII)I"⟩ : MethodName)) hown (mvT hZ (hw _ (List.mem_of_getElem? (i := 15) rfl))) (mvT hZ (hw _ (List.mem_of_getElem? (i := 16) rfl))) (mvT hZ (hw _ (List.mem_of_getElem? (i := 17) rfl))) (mvT hZ (hw _ (List.mem_of_getElem? (i := 18) rfl))) (by decide) (backOf (W := 0) (rm5 l Z a0 hw [] b1 fr tt (k1) ((nar .byte (own_pick p1))) ((nar .byte (own_pick p2))) ((nar .byte (own_pick p3))) ((nar .byte (own_pick p4))) h9 n0  V9 hft.1 hft.2.1 hft.2.2) hZ (hw _ (List.mem_of_getElem? (i := 18) rfl)) (hw _ (List.mem_of_getElem? (i := 17) rfl)) (by decide) (by decide)) (g := (mkF m 195 #[.val (.int p1), .val (.int p2), .val (.int p3), .val (.int p4), .val (.int p5), .val (.ref b1), .val (.int uu), .val (.int vv), .val (.int fr), .val (.int tt), .val (.int (3 : Int32)), .val (.int (3 : Int32)), .unset] [(.int tt), (.int fr), (.ref b1)])) rfl (by rw [hml]; rfl) (argsL := [(.ref b1), (.int fr), (.int tt)]) (rest := []) (lenOf pd_1 rfl) rfl (by show 2 * 0 + _ ≤ _; exact Nat.le_of_eq rfl) (hb hby at_195) (fun _ _ => ⟨rfl, e15, (by decide : 1 + 0 ≤ _), (by decide : 4 + 0 ≤ _)⟩)
            dsimp only [Pt.U, Pt.locs, Pt.cells, Pt.slots] at X21 l21 y21 z21 st21 hQ21
            rw [y21, z21] at X21
            obtain ⟨rfl, N21q, e21⟩ := hQ21
            have N21 : Fr n0 L21 := by rw [l21]; exact Fr.app N15 N21q
            refine Gl.st st21 ?_
            show Gl _ _ _ _ _ _ _ (T21.setTop (mkF m 198 #[.val (.int p1), .val (.int p2), .val (.int p3), .val (.int p4), .val (.int p5), .val (.ref b1), .val (.int uu), .val (.int vv), .val (.int fr), .val (.int tt), .val (.int (3 : Int32)), .val (.int (3 : Int32)), .unset] [(.int (own_rec fr tt (nar .byte (own_pick p1)) (nar .byte (own_pick p2)) (nar .byte (own_pick p3)) (nar .byte (own_pick p4))))]))
            refine Gl.st (fun t k => XS.istore X21.here hx rfl (hb hby at_198) rfl (l' := #[.val (.int p1), .val (.int p2), .val (.int p3), .val (.int p4), .val (.int p5), .val (.ref b1), .val (.int uu), .val (.int vv), .val (.int fr), .val (.int tt), .val (.int (3 : Int32)), .val (.int (3 : Int32)), .val (.int (own_rec fr tt (nar .byte (own_pick p1)) (nar .byte (own_pick p2)) (nar .byte (own_pick p3)) (nar .byte (own_pick p4))))]) rfl k) ?_
            show Gl _ _ _ _ _ _ _ (T21.setTop (mkF m 200 #[.val (.int p1), .val (.int p2), .val (.int p3), .val (.int p4), .val (.int p5), .val (.ref b1), .val (.int uu), .val (.int vv), .val (.int fr), .val (.int tt), .val (.int (3 : Int32)), .val (.int (3 : Int32)), .val (.int (own_rec fr tt (nar .byte (own_pick p1)) (nar .byte (own_pick p2)) (nar .byte (own_pick p3)) (nar .byte (own_pick p4))))] []))
            refine Gl.st (fun t k => XS.iload X21.here hx rfl (hb hby at_200) rfl  k) ?_
            show Gl _ _ _ _ _ _ _ (T21.setTop (mkF m 202 #[.val (.int p1), .val (.int p2), .val (.int p3), .val (.int p4), .val (.int p5), .val (.ref b1), .val (.int uu), .val (.int vv), .val (.int fr), .val (.int tt), .val (.int (3 : Int32)), .val (.int (3 : Int32)), .val (.int (own_rec fr tt (nar .byte (own_pick p1)) (nar .byte (own_pick p2)) (nar .byte (own_pick p3)) (nar .byte (own_pick p4))))] [(.int (own_rec fr tt (nar .byte (own_pick p1)) (nar .byte (own_pick p2)) (nar .byte (own_pick p3)) (nar .byte (own_pick p4))))]))
            refine Gl.st (fun t k => XS.iload X21.here hx rfl (hb hby at_202) rfl  k) ?_
            show Gl _ _ _ _ _ _ _ (T21.setTop (mkF m 204 #[.val (.int p1), .val (.int p2), .val (.int p3), .val (.int p4), .val (.int p5), .val (.ref b1), .val (.int uu), .val (.int vv), .val (.int fr), .val (.int tt), .val (.int (3 : Int32)), .val (.int (3 : Int32)), .val (.int (own_rec fr tt (nar .byte (own_pick p1)) (nar .byte (own_pick p2)) (nar .byte (own_pick p3)) (nar .byte (own_pick p4))))] [(.int (3 : Int32)), (.int (own_rec fr tt (nar .byte (own_pick p1)) (nar .byte (own_pick p2)) (nar .byte (own_pick p3)) (nar .byte (own_pick p4))))]))
            have hc204_22 : (own_rec fr tt (nar .byte (own_pick p1)) (nar .byte (own_pick p2)) (nar .byte (own_pick p3)) (nar .byte (own_pick p4))) = (3 : Int32) := by rw [own_final _ _ _ _ _ _ hft.1 hft.2.1 hft.2.2 (own_byte _) (own_byte _) (own_byte _) (own_byte _)]; simp only [if_pos hc88, if_pos hc107, if_pos hc126, if_neg hc145, if_neg hc176]
            refine Gl.st (fun t k => XS.icmpNo X21.here hx rfl (hb hby at_204) rfl (teq hc204_22).2 k) ?_
            show Gl _ _ _ _ _ _ _ (T21.setTop (mkF m 207 #[.val (.int p1), .val (.int p2), .val (.int p3), .val (.int p4), .val (.int p5), .val (.ref b1), .val (.int uu), .val (.int vv), .val (.int fr), .val (.int tt), .val (.int (3 : Int32)), .val (.int (3 : Int32)), .val (.int (own_rec fr tt (nar .byte (own_pick p1)) (nar .byte (own_pick p2)) (nar .byte (own_pick p3)) (nar .byte (own_pick p4))))] []))
            refine Gl.st (fun t k => XS.iconst X21.here hx rfl (hb hby at_207) k) ?_
            show Gl _ _ _ _ _ _ _ (T21.setTop (mkF m 208 #[.val (.int p1), .val (.int p2), .val (.int p3), .val (.int p4), .val (.int p5), .val (.ref b1), .val (.int uu), .val (.int vv), .val (.int fr), .val (.int tt), .val (.int (3 : Int32)), .val (.int (3 : Int32)), .val (.int (own_rec fr tt (nar .byte (own_pick p1)) (nar .byte (own_pick p2)) (nar .byte (own_pick p3)) (nar .byte (own_pick p4))))] [(.int (1 : Int32))]))
            refine Gl.st (fun t k => XS.goto X21.here hx rfl (pc0 := 208) (pc' := 212) rfl (hb hby at_208) (by decide) (by decide) k) ?_
            show Gl _ _ _ _ _ _ _ (T21.setTop (mkF m 212 #[.val (.int p1), .val (.int p2), .val (.int p3), .val (.int p4), .val (.int p5), .val (.ref b1), .val (.int uu), .val (.int vv), .val (.int fr), .val (.int tt), .val (.int (3 : Int32)), .val (.int (3 : Int32)), .val (.int (own_rec fr tt (nar .byte (own_pick p1)) (nar .byte (own_pick p2)) (nar .byte (own_pick p3)) (nar .byte (own_pick p4))))] [(.int (1 : Int32))]))
            exact Gl.retN X21 hx hlk Bd.returns (by simp) (hb hby at_212) (⟨rfl, N21⟩) (by decide) (by decide)
      · refine Gl.st (fun t k => XS.ifNo X14.here hx rfl (hb hby at_126) rfl ((if0 _ _).trans (feq hc126).1) k) ?_
        show Gl _ _ _ _ _ _ _ (T14.setTop (mkF m 129 #[.val (.int p1), .val (.int p2), .val (.int p3), .val (.int p4), .val (.int p5), .val (.ref b1), .val (.int uu), .val (.int vv), .val (.int fr), .val (.int tt), .unset, .unset, .unset] []))
        refine Gl.st (fun t k => XS.iconst X14.here hx rfl (hb hby at_129) k) ?_
        show Gl _ _ _ _ _ _ _ (T14.setTop (mkF m 130 #[.val (.int p1), .val (.int p2), .val (.int p3), .val (.int p4), .val (.int p5), .val (.ref b1), .val (.int uu), .val (.int vv), .val (.int fr), .val (.int tt), .unset, .unset, .unset] [(.int (2 : Int32))]))
        refine Gl.st (fun t k => XS.istore X14.here hx rfl (hb hby at_130) rfl (l' := #[.val (.int p1), .val (.int p2), .val (.int p3), .val (.int p4), .val (.int p5), .val (.ref b1), .val (.int uu), .val (.int vv), .val (.int fr), .val (.int tt), .val (.int (2 : Int32)), .unset, .unset]) rfl k) ?_
        show Gl _ _ _ _ _ _ _ (T14.setTop (mkF m 132 #[.val (.int p1), .val (.int p2), .val (.int p3), .val (.int p4), .val (.int p5), .val (.ref b1), .val (.int uu), .val (.int vv), .val (.int fr), .val (.int tt), .val (.int (2 : Int32)), .unset, .unset] []))
        refine Gl.st (fun t k => XS.goto X14.here hx rfl (pc0 := 132) (pc' := 157) rfl (hb hby at_132) (by decide) (by decide) k) ?_
        show Gl _ _ _ _ _ _ _ (T14.setTop (mkF m 157 #[.val (.int p1), .val (.int p2), .val (.int p3), .val (.int p4), .val (.int p5), .val (.ref b1), .val (.int uu), .val (.int vv), .val (.int fr), .val (.int tt), .val (.int (2 : Int32)), .unset, .unset] []))
        refine Gl.st (fun t k => XS.iload X14.here hx rfl (hb hby at_157) rfl  k) ?_
        show Gl _ _ _ _ _ _ _ (T14.setTop (mkF m 159 #[.val (.int p1), .val (.int p2), .val (.int p3), .val (.int p4), .val (.int p5), .val (.ref b1), .val (.int uu), .val (.int vv), .val (.int fr), .val (.int tt), .val (.int (2 : Int32)), .unset, .unset] [(.int (2 : Int32))]))
        refine Gl.st (fun t k => XS.iconst X14.here hx rfl (hb hby at_159) k) ?_
        show Gl _ _ _ _ _ _ _ (T14.setTop (mkF m 160 #[.val (.int p1), .val (.int p2), .val (.int p3), .val (.int p4), .val (.int p5), .val (.ref b1), .val (.int uu), .val (.int vv), .val (.int fr), .val (.int tt), .val (.int (2 : Int32)), .unset, .unset] [(.int (-1 : Int32)), (.int (2 : Int32))]))
        refine Gl.st (fun t k => XS.icmpYes X14.here hx rfl (pc0 := 160) (pc' := 169) rfl (hb hby at_160) rfl (feq (by decide : ¬ ((2 : Int32) = (-1 : Int32)))).2 (by decide) (by decide) k) ?_
        show Gl _ _ _ _ _ _ _ (T14.setTop (mkF m 169 #[.val (.int p1), .val (.int p2), .val (.int p3), .val (.int p4), .val (.int p5), .val (.ref b1), .val (.int uu), .val (.int vv), .val (.int fr), .val (.int tt), .val (.int (2 : Int32)), .unset, .unset] []))
        refine Gl.st (fun t k => XS.aload X14.here hx rfl (hb hby at_169) rfl rfl k) ?_
        show Gl _ _ _ _ _ _ _ (T14.setTop (mkF m 171 #[.val (.int p1), .val (.int p2), .val (.int p3), .val (.int p4), .val (.int p5), .val (.ref b1), .val (.int uu), .val (.int vv), .val (.int fr), .val (.int tt), .val (.int (2 : Int32)), .unset, .unset] [(.ref b1)]))
        refine Gl.st (fun t k => XS.iload X14.here hx rfl (hb hby at_171) rfl  k) ?_
        show Gl _ _ _ _ _ _ _ (T14.setTop (mkF m 173 #[.val (.int p1), .val (.int p2), .val (.int p3), .val (.int p4), .val (.int p5), .val (.ref b1), .val (.int uu), .val (.int vv), .val (.int fr), .val (.int tt), .val (.int (2 : Int32)), .unset, .unset] [(.int (2 : Int32)), (.ref b1)]))
        have Vx23 := V9
        obtain ⟨cl23, Ar23, qk23, S23, M23, H23, G23⟩ := Vx23
        have hin23 : ¬ ((2 : Int32) < 0 ∨ cl23.slots.size ≤ ((2 : Int32)).toNatClampNeg) := inb_of S23 ⟨by decide, by decide⟩
        have hat23 : cl23.slots[((2 : Int32)).toNatClampNeg]? = some (.int (nar .byte (own_pick p3))) := H23.at hin23 rfl
        refine Gl.st (X14.baloadBytes hx (j := (2 : Int32)) (v := (.int (nar .byte (own_pick p3)))) (by rw [e14]; exact Ar23.1) (State.isArrayOf_alike hZ.alike Ar23.2.1) Ar23.2.2 hin23 hat23 (g := (mkF m 173 #[.val (.int p1), .val (.int p2), .val (.int p3), .val (.int p4), .val (.int p5), .val (.ref b1), .val (.int uu), .val (.int vv), .val (.int fr), .val (.int tt), .val (.int (2 : Int32)), .unset, .unset] [(.int (2 : Int32)), (.ref b1)])) rfl rfl (hb hby at_173)) ?_
        show Gl _ _ _ _ _ _ _ (T14.setTop (mkF m 174 #[.val (.int p1), .val (.int p2), .val (.int p3), .val (.int p4), .val (.int p5), .val (.ref b1), .val (.int uu), .val (.int vv), .val (.int fr), .val (.int tt), .val (.int (2 : Int32)), .unset, .unset] [(.int (nar .byte (own_pick p3)))]))
        refine Gl.st (fun t k => XS.bipush X14.here hx rfl (hb hby at_174) k) ?_
        show Gl _ _ _ _ _ _ _ (T14.setTop (mkF m 176 #[.val (.int p1), .val (.int p2), .val (.int p3), .val (.int p4), .val (.int p5), .val (.ref b1), .val (.int uu), .val (.int vv), .val (.int fr), .val (.int tt), .val (.int (2 : Int32)), .unset, .unset] [(.int (35 : Int32)), (.int (nar .byte (own_pick p3)))]))
        by_cases hc176 : (nar .byte (own_pick p3)) = (35 : Int32)
        · refine Gl.st (fun t k => XS.icmpNo X14.here hx rfl (hb hby at_176) rfl (teq hc176).2 k) ?_
          show Gl _ _ _ _ _ _ _ (T14.setTop (mkF m 179 #[.val (.int p1), .val (.int p2), .val (.int p3), .val (.int p4), .val (.int p5), .val (.ref b1), .val (.int uu), .val (.int vv), .val (.int fr), .val (.int tt), .val (.int (2 : Int32)), .unset, .unset] []))
          refine Gl.st (fun t k => XS.iconst X14.here hx rfl (hb hby at_179) k) ?_
          show Gl _ _ _ _ _ _ _ (T14.setTop (mkF m 180 #[.val (.int p1), .val (.int p2), .val (.int p3), .val (.int p4), .val (.int p5), .val (.ref b1), .val (.int uu), .val (.int vv), .val (.int fr), .val (.int tt), .val (.int (2 : Int32)), .unset, .unset] [(.int (-1 : Int32))]))
          refine Gl.st (fun t k => XS.istore X14.here hx rfl (hb hby at_180) rfl (l' := #[.val (.int p1), .val (.int p2), .val (.int p3), .val (.int p4), .val (.int p5), .val (.ref b1), .val (.int uu), .val (.int vv), .val (.int fr), .val (.int tt), .val (.int (2 : Int32)), .val (.int (-1 : Int32)), .unset]) rfl k) ?_
          show Gl _ _ _ _ _ _ _ (T14.setTop (mkF m 182 #[.val (.int p1), .val (.int p2), .val (.int p3), .val (.int p4), .val (.int p5), .val (.ref b1), .val (.int uu), .val (.int vv), .val (.int fr), .val (.int tt), .val (.int (2 : Int32)), .val (.int (-1 : Int32)), .unset] []))
          refine Gl.st (fun t k => XS.goto X14.here hx rfl (pc0 := 182) (pc' := 189) rfl (hb hby at_182) (by decide) (by decide) k) ?_
          show Gl _ _ _ _ _ _ _ (T14.setTop (mkF m 189 #[.val (.int p1), .val (.int p2), .val (.int p3), .val (.int p4), .val (.int p5), .val (.ref b1), .val (.int uu), .val (.int vv), .val (.int fr), .val (.int tt), .val (.int (2 : Int32)), .val (.int (-1 : Int32)), .unset] []))
          refine Gl.st (fun t k => XS.aload X14.here hx rfl (hb hby at_189) rfl rfl k) ?_
          show Gl _ _ _ _ _ _ _ (T14.setTop (mkF m 191 #[.val (.int p1), .val (.int p2), .val (.int p3), .val (.int p4), .val (.int p5), .val (.ref b1), .val (.int uu), .val (.int vv), .val (.int fr), .val (.int tt), .val (.int (2 : Int32)), .val (.int (-1 : Int32)), .unset] [(.ref b1)]))
          refine Gl.st (fun t k => XS.iload X14.here hx rfl (hb hby at_191) rfl  k) ?_
          show Gl _ _ _ _ _ _ _ (T14.setTop (mkF m 193 #[.val (.int p1), .val (.int p2), .val (.int p3), .val (.int p4), .val (.int p5), .val (.ref b1), .val (.int uu), .val (.int vv), .val (.int fr), .val (.int tt), .val (.int (2 : Int32)), .val (.int (-1 : Int32)), .unset] [(.int fr), (.ref b1)]))
          refine Gl.st (fun t k => XS.iload X14.here hx rfl (hb hby at_193) rfl  k) ?_
          show Gl _ _ _ _ _ _ _ (T14.setTop (mkF m 195 #[.val (.int p1), .val (.int p2), .val (.int p3), .val (.int p4), .val (.int p5), .val (.ref b1), .val (.int uu), .val (.int vv), .val (.int fr), .val (.int tt), .val (.int (2 : Int32)), .val (.int (-1 : Int32)), .unset] [(.int tt), (.int fr), (.ref b1)]))
          obtain ⟨_, _, ⟨T24, L24, k24, n24⟩, -, X24, ⟨Lc24, hQ24, l24, y24, z24⟩, st24⟩ := Jvm.LawKit.callS X14 hx (y := (⟨"com/example/ilsa/ilsa/io/LineFields", "recordStart", "([BII)I"⟩ : MethodName)) hown (mvT hZ (hw _ (List.mem_of_getElem? (i := 15) rfl))) (mvT hZ (hw _ (List.mem_of_getElem? (i := 16) rfl))) (mvT hZ (hw _ (List.mem_of_getElem? (i := 17) rfl))) (mvT hZ (hw _ (List.mem_of_getElem? (i := 18) rfl))) (by decide) (backOf (W := 0) (rm5 l Z a0 hw [] b1 fr tt (k1) ((nar .byte (own_pick p1))) ((nar .byte (own_pick p2))) ((nar .byte (own_pick p3))) ((nar .byte (own_pick p4))) h9 n0  V9 hft.1 hft.2.1 hft.2.2) hZ (hw _ (List.mem_of_getElem? (i := 18) rfl)) (hw _ (List.mem_of_getElem? (i := 17) rfl)) (by decide) (by decide)) (g := (mkF m 195 #[.val (.int p1), .val (.int p2), .val (.int p3), .val (.int p4), .val (.int p5), .val (.ref b1), .val (.int uu), .val (.int vv), .val (.int fr), .val (.int tt), .val (.int (2 : Int32)), .val (.int (-1 : Int32)), .unset] [(.int tt), (.int fr), (.ref b1)])) rfl (by rw [hml]; rfl) (argsL := [(.ref b1), (.int fr), (.int tt)]) (rest := []) (lenOf pd_1 rfl) rfl (by show 2 * 0 + _ ≤ _; exact Nat.le_of_eq rfl) (hb hby at_195) (fun _ _ => ⟨rfl, e14, (by decide : 1 + 0 ≤ _), (by decide : 4 + 0 ≤ _)⟩)
          dsimp only [Pt.U, Pt.locs, Pt.cells, Pt.slots] at X24 l24 y24 z24 st24 hQ24
          rw [y24, z24] at X24
          obtain ⟨rfl, N24q, e24⟩ := hQ24
          have N24 : Fr n0 L24 := by rw [l24]; exact Fr.app N14 N24q
          refine Gl.st st24 ?_
          show Gl _ _ _ _ _ _ _ (T24.setTop (mkF m 198 #[.val (.int p1), .val (.int p2), .val (.int p3), .val (.int p4), .val (.int p5), .val (.ref b1), .val (.int uu), .val (.int vv), .val (.int fr), .val (.int tt), .val (.int (2 : Int32)), .val (.int (-1 : Int32)), .unset] [(.int (own_rec fr tt (nar .byte (own_pick p1)) (nar .byte (own_pick p2)) (nar .byte (own_pick p3)) (nar .byte (own_pick p4))))]))
          refine Gl.st (fun t k => XS.istore X24.here hx rfl (hb hby at_198) rfl (l' := #[.val (.int p1), .val (.int p2), .val (.int p3), .val (.int p4), .val (.int p5), .val (.ref b1), .val (.int uu), .val (.int vv), .val (.int fr), .val (.int tt), .val (.int (2 : Int32)), .val (.int (-1 : Int32)), .val (.int (own_rec fr tt (nar .byte (own_pick p1)) (nar .byte (own_pick p2)) (nar .byte (own_pick p3)) (nar .byte (own_pick p4))))]) rfl k) ?_
          show Gl _ _ _ _ _ _ _ (T24.setTop (mkF m 200 #[.val (.int p1), .val (.int p2), .val (.int p3), .val (.int p4), .val (.int p5), .val (.ref b1), .val (.int uu), .val (.int vv), .val (.int fr), .val (.int tt), .val (.int (2 : Int32)), .val (.int (-1 : Int32)), .val (.int (own_rec fr tt (nar .byte (own_pick p1)) (nar .byte (own_pick p2)) (nar .byte (own_pick p3)) (nar .byte (own_pick p4))))] []))
          refine Gl.st (fun t k => XS.iload X24.here hx rfl (hb hby at_200) rfl  k) ?_
          show Gl _ _ _ _ _ _ _ (T24.setTop (mkF m 202 #[.val (.int p1), .val (.int p2), .val (.int p3), .val (.int p4), .val (.int p5), .val (.ref b1), .val (.int uu), .val (.int vv), .val (.int fr), .val (.int tt), .val (.int (2 : Int32)), .val (.int (-1 : Int32)), .val (.int (own_rec fr tt (nar .byte (own_pick p1)) (nar .byte (own_pick p2)) (nar .byte (own_pick p3)) (nar .byte (own_pick p4))))] [(.int (own_rec fr tt (nar .byte (own_pick p1)) (nar .byte (own_pick p2)) (nar .byte (own_pick p3)) (nar .byte (own_pick p4))))]))
          refine Gl.st (fun t k => XS.iload X24.here hx rfl (hb hby at_202) rfl  k) ?_
          show Gl _ _ _ _ _ _ _ (T24.setTop (mkF m 204 #[.val (.int p1), .val (.int p2), .val (.int p3), .val (.int p4), .val (.int p5), .val (.ref b1), .val (.int uu), .val (.int vv), .val (.int fr), .val (.int tt), .val (.int (2 : Int32)), .val (.int (-1 : Int32)), .val (.int (own_rec fr tt (nar .byte (own_pick p1)) (nar .byte (own_pick p2)) (nar .byte (own_pick p3)) (nar .byte (own_pick p4))))] [(.int (-1 : Int32)), (.int (own_rec fr tt (nar .byte (own_pick p1)) (nar .byte (own_pick p2)) (nar .byte (own_pick p3)) (nar .byte (own_pick p4))))]))
          have hc204_25 : (own_rec fr tt (nar .byte (own_pick p1)) (nar .byte (own_pick p2)) (nar .byte (own_pick p3)) (nar .byte (own_pick p4))) = (-1 : Int32) := by rw [own_final _ _ _ _ _ _ hft.1 hft.2.1 hft.2.2 (own_byte _) (own_byte _) (own_byte _) (own_byte _)]; simp only [if_pos hc88, if_pos hc107, if_neg hc126, if_pos hc176]
          refine Gl.st (fun t k => XS.icmpNo X24.here hx rfl (hb hby at_204) rfl (teq hc204_25).2 k) ?_
          show Gl _ _ _ _ _ _ _ (T24.setTop (mkF m 207 #[.val (.int p1), .val (.int p2), .val (.int p3), .val (.int p4), .val (.int p5), .val (.ref b1), .val (.int uu), .val (.int vv), .val (.int fr), .val (.int tt), .val (.int (2 : Int32)), .val (.int (-1 : Int32)), .val (.int (own_rec fr tt (nar .byte (own_pick p1)) (nar .byte (own_pick p2)) (nar .byte (own_pick p3)) (nar .byte (own_pick p4))))] []))
          refine Gl.st (fun t k => XS.iconst X24.here hx rfl (hb hby at_207) k) ?_
          show Gl _ _ _ _ _ _ _ (T24.setTop (mkF m 208 #[.val (.int p1), .val (.int p2), .val (.int p3), .val (.int p4), .val (.int p5), .val (.ref b1), .val (.int uu), .val (.int vv), .val (.int fr), .val (.int tt), .val (.int (2 : Int32)), .val (.int (-1 : Int32)), .val (.int (own_rec fr tt (nar .byte (own_pick p1)) (nar .byte (own_pick p2)) (nar .byte (own_pick p3)) (nar .byte (own_pick p4))))] [(.int (1 : Int32))]))
          refine Gl.st (fun t k => XS.goto X24.here hx rfl (pc0 := 208) (pc' := 212) rfl (hb hby at_208) (by decide) (by decide) k) ?_
          show Gl _ _ _ _ _ _ _ (T24.setTop (mkF m 212 #[.val (.int p1), .val (.int p2), .val (.int p3), .val (.int p4), .val (.int p5), .val (.ref b1), .val (.int uu), .val (.int vv), .val (.int fr), .val (.int tt), .val (.int (2 : Int32)), .val (.int (-1 : Int32)), .val (.int (own_rec fr tt (nar .byte (own_pick p1)) (nar .byte (own_pick p2)) (nar .byte (own_pick p3)) (nar .byte (own_pick p4))))] [(.int (1 : Int32))]))
          exact Gl.retN X24 hx hlk Bd.returns (by simp) (hb hby at_212) (⟨rfl, N24⟩) (by decide) (by decide)
        · refine Gl.st (fun t k => XS.icmpYes X14.here hx rfl (pc0 := 176) (pc' := 185) rfl (hb hby at_176) rfl (feq hc176).2 (by decide) (by decide) k) ?_
          show Gl _ _ _ _ _ _ _ (T14.setTop (mkF m 185 #[.val (.int p1), .val (.int p2), .val (.int p3), .val (.int p4), .val (.int p5), .val (.ref b1), .val (.int uu), .val (.int vv), .val (.int fr), .val (.int tt), .val (.int (2 : Int32)), .unset, .unset] []))
          refine Gl.st (fun t k => XS.iload X14.here hx rfl (hb hby at_185) rfl  k) ?_
          show Gl _ _ _ _ _ _ _ (T14.setTop (mkF m 187 #[.val (.int p1), .val (.int p2), .val (.int p3), .val (.int p4), .val (.int p5), .val (.ref b1), .val (.int uu), .val (.int vv), .val (.int fr), .val (.int tt), .val (.int (2 : Int32)), .unset, .unset] [(.int (2 : Int32))]))
          refine Gl.st (fun t k => XS.istore X14.here hx rfl (hb hby at_187) rfl (l' := #[.val (.int p1), .val (.int p2), .val (.int p3), .val (.int p4), .val (.int p5), .val (.ref b1), .val (.int uu), .val (.int vv), .val (.int fr), .val (.int tt), .val (.int (2 : Int32)), .val (.int (2 : Int32)), .unset]) rfl k) ?_
          show Gl _ _ _ _ _ _ _ (T14.setTop (mkF m 189 #[.val (.int p1), .val (.int p2), .val (.int p3), .val (.int p4), .val (.int p5), .val (.ref b1), .val (.int uu), .val (.int vv), .val (.int fr), .val (.int tt), .val (.int (2 : Int32)), .val (.int (2 : Int32)), .unset] []))
          refine Gl.st (fun t k => XS.aload X14.here hx rfl (hb hby at_189) rfl rfl k) ?_
          show Gl _ _ _ _ _ _ _ (T14.setTop (mkF m 191 #[.val (.int p1), .val (.int p2), .val (.int p3), .val (.int p4), .val (.int p5), .val (.ref b1), .val (.int uu), .val (.int vv), .val (.int fr), .val (.int tt), .val (.int (2 : Int32)), .val (.int (2 : Int32)), .unset] [(.ref b1)]))
          refine Gl.st (fun t k => XS.iload X14.here hx rfl (hb hby at_191) rfl  k) ?_
          show Gl _ _ _ _ _ _ _ (T14.setTop (mkF m 193 #[.val (.int p1), .val (.int p2), .val (.int p3), .val (.int p4), .val (.int p5), .val (.ref b1), .val (.int uu), .val (.int vv), .val (.int fr), .val (.int tt), .val (.int (2 : Int32)), .val (.int (2 : Int32)), .unset] [(.int fr), (.ref b1)]))
          refine Gl.st (fun t k => XS.iload X14.here hx rfl (hb hby at_193) rfl  k) ?_
          show Gl _ _ _ _ _ _ _ (T14.setTop (mkF m 195 #[.val (.int p1), .val (.int p2), .val (.int p3), .val (.int p4), .val (.int p5), .val (.ref b1), .val (.int uu), .val (.int vv), .val (.int fr), .val (.int tt), .val (.int (2 : Int32)), .val (.int (2 : Int32)), .unset] [(.int tt), (.int fr), (.ref b1)]))
          obtain ⟨_, _, ⟨T26, L26, k26, n26⟩, -, X26, ⟨Lc26, hQ26, l26, y26, z26⟩, st26⟩ := Jvm.LawKit.callS X14 hx (y := (⟨"com/example/ilsa/ilsa/io/LineFields", "recordStart", "([BII)I"⟩ : MethodName)) hown (mvT hZ (hw _ (List.mem_of_getElem? (i := 15) rfl))) (mvT hZ (hw _ (List.mem_of_getElem? (i := 16) rfl))) (mvT hZ (hw _ (List.mem_of_getElem? (i := 17) rfl))) (mvT hZ (hw _ (List.mem_of_getElem? (i := 18) rfl))) (by decide) (backOf (W := 0) (rm5 l Z a0 hw [] b1 fr tt (k1) ((nar .byte (own_pick p1))) ((nar .byte (own_pick p2))) ((nar .byte (own_pick p3))) ((nar .byte (own_pick p4))) h9 n0  V9 hft.1 hft.2.1 hft.2.2) hZ (hw _ (List.mem_of_getElem? (i := 18) rfl)) (hw _ (List.mem_of_getElem? (i := 17) rfl)) (by decide) (by decide)) (g := (mkF m 195 #[.val (.int p1), .val (.int p2), .val (.int p3), .val (.int p4), .val (.int p5), .val (.ref b1), .val (.int uu), .val (.int vv), .val (.int fr), .val (.int tt), .val (.int (2 : Int32)), .val (.int (2 : Int32)), .unset] [(.int tt), (.int fr), (.ref b1)])) rfl (by rw [hml]; rfl) (argsL := [(.ref b1), (.int fr), (.int tt)]) (rest := []) (lenOf pd_1 rfl) rfl (by show 2 * 0 + _ ≤ _; exact Nat.le_of_eq rfl) (hb hby at_195) (fun _ _ => ⟨rfl, e14, (by decide : 1 + 0 ≤ _), (by decide : 4 + 0 ≤ _)⟩)
          dsimp only [Pt.U, Pt.locs, Pt.cells, Pt.slots] at X26 l26 y26 z26 st26 hQ26
          rw [y26, z26] at X26
          obtain ⟨rfl, N26q, e26⟩ := hQ26
          have N26 : Fr n0 L26 := by rw [l26]; exact Fr.app N14 N26q
          refine Gl.st st26 ?_
          show Gl _ _ _ _ _ _ _ (T26.setTop (mkF m 198 #[.val (.int p1), .val (.int p2), .val (.int p3), .val (.int p4), .val (.int p5), .val (.ref b1), .val (.int uu), .val (.int vv), .val (.int fr), .val (.int tt), .val (.int (2 : Int32)), .val (.int (2 : Int32)), .unset] [(.int (own_rec fr tt (nar .byte (own_pick p1)) (nar .byte (own_pick p2)) (nar .byte (own_pick p3)) (nar .byte (own_pick p4))))]))
          refine Gl.st (fun t k => XS.istore X26.here hx rfl (hb hby at_198) rfl (l' := #[.val (.int p1), .val (.int p2), .val (.int p3), .val (.int p4), .val (.int p5), .val (.ref b1), .val (.int uu), .val (.int vv), .val (.int fr), .val (.int tt), .val (.int (2 : Int32)), .val (.int (2 : Int32)), .val (.int (own_rec fr tt (nar .byte (own_pick p1)) (nar .byte (own_pick p2)) (nar .byte (own_pick p3)) (nar .byte (own_pick p4))))]) rfl k) ?_
          show Gl _ _ _ _ _ _ _ (T26.setTop (mkF m 200 #[.val (.int p1), .val (.int p2), .val (.int p3), .val (.int p4), .val (.int p5), .val (.ref b1), .val (.int uu), .val (.int vv), .val (.int fr), .val (.int tt), .val (.int (2 : Int32)), .val (.int (2 : Int32)), .val (.int (own_rec fr tt (nar .byte (own_pick p1)) (nar .byte (own_pick p2)) (nar .byte (own_pick p3)) (nar .byte (own_pick p4))))] []))
          refine Gl.st (fun t k => XS.iload X26.here hx rfl (hb hby at_200) rfl  k) ?_
          show Gl _ _ _ _ _ _ _ (T26.setTop (mkF m 202 #[.val (.int p1), .val (.int p2), .val (.int p3), .val (.int p4), .val (.int p5), .val (.ref b1), .val (.int uu), .val (.int vv), .val (.int fr), .val (.int tt), .val (.int (2 : Int32)), .val (.int (2 : Int32)), .val (.int (own_rec fr tt (nar .byte (own_pick p1)) (nar .byte (own_pick p2)) (nar .byte (own_pick p3)) (nar .byte (own_pick p4))))] [(.int (own_rec fr tt (nar .byte (own_pick p1)) (nar .byte (own_pick p2)) (nar .byte (own_pick p3)) (nar .byte (own_pick p4))))]))
          refine Gl.st (fun t k => XS.iload X26.here hx rfl (hb hby at_202) rfl  k) ?_
          show Gl _ _ _ _ _ _ _ (T26.setTop (mkF m 204 #[.val (.int p1), .val (.int p2), .val (.int p3), .val (.int p4), .val (.int p5), .val (.ref b1), .val (.int uu), .val (.int vv), .val (.int fr), .val (.int tt), .val (.int (2 : Int32)), .val (.int (2 : Int32)), .val (.int (own_rec fr tt (nar .byte (own_pick p1)) (nar .byte (own_pick p2)) (nar .byte (own_pick p3)) (nar .byte (own_pick p4))))] [(.int (2 : Int32)), (.int (own_rec fr tt (nar .byte (own_pick p1)) (nar .byte (own_pick p2)) (nar .byte (own_pick p3)) (nar .byte (own_pick p4))))]))
          have hc204_27 : (own_rec fr tt (nar .byte (own_pick p1)) (nar .byte (own_pick p2)) (nar .byte (own_pick p3)) (nar .byte (own_pick p4))) = (2 : Int32) := by rw [own_final _ _ _ _ _ _ hft.1 hft.2.1 hft.2.2 (own_byte _) (own_byte _) (own_byte _) (own_byte _)]; simp only [if_pos hc88, if_pos hc107, if_neg hc126, if_neg hc176]
          refine Gl.st (fun t k => XS.icmpNo X26.here hx rfl (hb hby at_204) rfl (teq hc204_27).2 k) ?_
          show Gl _ _ _ _ _ _ _ (T26.setTop (mkF m 207 #[.val (.int p1), .val (.int p2), .val (.int p3), .val (.int p4), .val (.int p5), .val (.ref b1), .val (.int uu), .val (.int vv), .val (.int fr), .val (.int tt), .val (.int (2 : Int32)), .val (.int (2 : Int32)), .val (.int (own_rec fr tt (nar .byte (own_pick p1)) (nar .byte (own_pick p2)) (nar .byte (own_pick p3)) (nar .byte (own_pick p4))))] []))
          refine Gl.st (fun t k => XS.iconst X26.here hx rfl (hb hby at_207) k) ?_
          show Gl _ _ _ _ _ _ _ (T26.setTop (mkF m 208 #[.val (.int p1), .val (.int p2), .val (.int p3), .val (.int p4), .val (.int p5), .val (.ref b1), .val (.int uu), .val (.int vv), .val (.int fr), .val (.int tt), .val (.int (2 : Int32)), .val (.int (2 : Int32)), .val (.int (own_rec fr tt (nar .byte (own_pick p1)) (nar .byte (own_pick p2)) (nar .byte (own_pick p3)) (nar .byte (own_pick p4))))] [(.int (1 : Int32))]))
          refine Gl.st (fun t k => XS.goto X26.here hx rfl (pc0 := 208) (pc' := 212) rfl (hb hby at_208) (by decide) (by decide) k) ?_
          show Gl _ _ _ _ _ _ _ (T26.setTop (mkF m 212 #[.val (.int p1), .val (.int p2), .val (.int p3), .val (.int p4), .val (.int p5), .val (.ref b1), .val (.int uu), .val (.int vv), .val (.int fr), .val (.int tt), .val (.int (2 : Int32)), .val (.int (2 : Int32)), .val (.int (own_rec fr tt (nar .byte (own_pick p1)) (nar .byte (own_pick p2)) (nar .byte (own_pick p3)) (nar .byte (own_pick p4))))] [(.int (1 : Int32))]))
          exact Gl.retN X26 hx hlk Bd.returns (by simp) (hb hby at_212) (⟨rfl, N26⟩) (by decide) (by decide)
    · refine Gl.st (fun t k => XS.ifNo X13.here hx rfl (hb hby at_107) rfl ((if0 _ _).trans (feq hc107).1) k) ?_
      show Gl _ _ _ _ _ _ _ (T13.setTop (mkF m 110 #[.val (.int p1), .val (.int p2), .val (.int p3), .val (.int p4), .val (.int p5), .val (.ref b1), .val (.int uu), .val (.int vv), .val (.int fr), .val (.int tt), .unset, .unset, .unset] []))
      refine Gl.st (fun t k => XS.iconst X13.here hx rfl (hb hby at_110) k) ?_
      show Gl _ _ _ _ _ _ _ (T13.setTop (mkF m 111 #[.val (.int p1), .val (.int p2), .val (.int p3), .val (.int p4), .val (.int p5), .val (.ref b1), .val (.int uu), .val (.int vv), .val (.int fr), .val (.int tt), .unset, .unset, .unset] [(.int (1 : Int32))]))
      refine Gl.st (fun t k => XS.istore X13.here hx rfl (hb hby at_111) rfl (l' := #[.val (.int p1), .val (.int p2), .val (.int p3), .val (.int p4), .val (.int p5), .val (.ref b1), .val (.int uu), .val (.int vv), .val (.int fr), .val (.int tt), .val (.int (1 : Int32)), .unset, .unset]) rfl k) ?_
      show Gl _ _ _ _ _ _ _ (T13.setTop (mkF m 113 #[.val (.int p1), .val (.int p2), .val (.int p3), .val (.int p4), .val (.int p5), .val (.ref b1), .val (.int uu), .val (.int vv), .val (.int fr), .val (.int tt), .val (.int (1 : Int32)), .unset, .unset] []))
      refine Gl.st (fun t k => XS.goto X13.here hx rfl (pc0 := 113) (pc' := 157) rfl (hb hby at_113) (by decide) (by decide) k) ?_
      show Gl _ _ _ _ _ _ _ (T13.setTop (mkF m 157 #[.val (.int p1), .val (.int p2), .val (.int p3), .val (.int p4), .val (.int p5), .val (.ref b1), .val (.int uu), .val (.int vv), .val (.int fr), .val (.int tt), .val (.int (1 : Int32)), .unset, .unset] []))
      refine Gl.st (fun t k => XS.iload X13.here hx rfl (hb hby at_157) rfl  k) ?_
      show Gl _ _ _ _ _ _ _ (T13.setTop (mkF m 159 #[.val (.int p1), .val (.int p2), .val (.int p3), .val (.int p4), .val (.int p5), .val (.ref b1), .val (.int uu), .val (.int vv), .val (.int fr), .val (.int tt), .val (.int (1 : Int32)), .unset, .unset] [(.int (1 : Int32))]))
      refine Gl.st (fun t k => XS.iconst X13.here hx rfl (hb hby at_159) k) ?_
      show Gl _ _ _ _ _ _ _ (T13.setTop (mkF m 160 #[.val (.int p1), .val (.int p2), .val (.int p3), .val (.int p4), .val (.int p5), .val (.ref b1), .val (.int uu), .val (.int vv), .val (.int fr), .val (.int tt), .val (.int (1 : Int32)), .unset, .unset] [(.int (-1 : Int32)), (.int (1 : Int32))]))
      refine Gl.st (fun t k => XS.icmpYes X13.here hx rfl (pc0 := 160) (pc' := 169) rfl (hb hby at_160) rfl (feq (by decide : ¬ ((1 : Int32) = (-1 : Int32)))).2 (by decide) (by decide) k) ?_
      show Gl _ _ _ _ _ _ _ (T13.setTop (mkF m 169 #[.val (.int p1), .val (.int p2), .val (.int p3), .val (.int p4), .val (.int p5), .val (.ref b1), .val (.int uu), .val (.int vv), .val (.int fr), .val (.int tt), .val (.int (1 : Int32)), .unset, .unset] []))
      refine Gl.st (fun t k => XS.aload X13.here hx rfl (hb hby at_169) rfl rfl k) ?_
      show Gl _ _ _ _ _ _ _ (T13.setTop (mkF m 171 #[.val (.int p1), .val (.int p2), .val (.int p3), .val (.int p4), .val (.int p5), .val (.ref b1), .val (.int uu), .val (.int vv), .val (.int fr), .val (.int tt), .val (.int (1 : Int32)), .unset, .unset] [(.ref b1)]))
      refine Gl.st (fun t k => XS.iload X13.here hx rfl (hb hby at_171) rfl  k) ?_
      show Gl _ _ _ _ _ _ _ (T13.setTop (mkF m 173 #[.val (.int p1), .val (.int p2), .val (.int p3), .val (.int p4), .val (.int p5), .val (.ref b1), .val (.int uu), .val (.int vv), .val (.int fr), .val (.int tt), .val (.int (1 : Int32)), .unset, .unset] [(.int (1 : Int32)), (.ref b1)]))
      have Vx28 := V9
      obtain ⟨cl28, Ar28, qk28, S28, M28, H28, G28⟩ := Vx28
      have hin28 : ¬ ((1 : Int32) < 0 ∨ cl28.slots.size ≤ ((1 : Int32)).toNatClampNeg) := inb_of S28 ⟨by decide, by decide⟩
      have hat28 : cl28.slots[((1 : Int32)).toNatClampNeg]? = some (.int (nar .byte (own_pick p2))) := H28.at hin28 rfl
      refine Gl.st (X13.baloadBytes hx (j := (1 : Int32)) (v := (.int (nar .byte (own_pick p2)))) (by rw [e13]; exact Ar28.1) (State.isArrayOf_alike hZ.alike Ar28.2.1) Ar28.2.2 hin28 hat28 (g := (mkF m 173 #[.val (.int p1), .val (.int p2), .val (.int p3), .val (.int p4), .val (.int p5), .val (.ref b1), .val (.int uu), .val (.int vv), .val (.int fr), .val (.int tt), .val (.int (1 : Int32)), .unset, .unset] [(.int (1 : Int32)), (.ref b1)])) rfl rfl (hb hby at_173)) ?_
      show Gl _ _ _ _ _ _ _ (T13.setTop (mkF m 174 #[.val (.int p1), .val (.int p2), .val (.int p3), .val (.int p4), .val (.int p5), .val (.ref b1), .val (.int uu), .val (.int vv), .val (.int fr), .val (.int tt), .val (.int (1 : Int32)), .unset, .unset] [(.int (nar .byte (own_pick p2)))]))
      refine Gl.st (fun t k => XS.bipush X13.here hx rfl (hb hby at_174) k) ?_
      show Gl _ _ _ _ _ _ _ (T13.setTop (mkF m 176 #[.val (.int p1), .val (.int p2), .val (.int p3), .val (.int p4), .val (.int p5), .val (.ref b1), .val (.int uu), .val (.int vv), .val (.int fr), .val (.int tt), .val (.int (1 : Int32)), .unset, .unset] [(.int (35 : Int32)), (.int (nar .byte (own_pick p2)))]))
      by_cases hc176 : (nar .byte (own_pick p2)) = (35 : Int32)
      · refine Gl.st (fun t k => XS.icmpNo X13.here hx rfl (hb hby at_176) rfl (teq hc176).2 k) ?_
        show Gl _ _ _ _ _ _ _ (T13.setTop (mkF m 179 #[.val (.int p1), .val (.int p2), .val (.int p3), .val (.int p4), .val (.int p5), .val (.ref b1), .val (.int uu), .val (.int vv), .val (.int fr), .val (.int tt), .val (.int (1 : Int32)), .unset, .unset] []))
        refine Gl.st (fun t k => XS.iconst X13.here hx rfl (hb hby at_179) k) ?_
        show Gl _ _ _ _ _ _ _ (T13.setTop (mkF m 180 #[.val (.int p1), .val (.int p2), .val (.int p3), .val (.int p4), .val (.int p5), .val (.ref b1), .val (.int uu), .val (.int vv), .val (.int fr), .val (.int tt), .val (.int (1 : Int32)), .unset, .unset] [(.int (-1 : Int32))]))
        refine Gl.st (fun t k => XS.istore X13.here hx rfl (hb hby at_180) rfl (l' := #[.val (.int p1), .val (.int p2), .val (.int p3), .val (.int p4), .val (.int p5), .val (.ref b1), .val (.int uu), .val (.int vv), .val (.int fr), .val (.int tt), .val (.int (1 : Int32)), .val (.int (-1 : Int32)), .unset]) rfl k) ?_
        show Gl _ _ _ _ _ _ _ (T13.setTop (mkF m 182 #[.val (.int p1), .val (.int p2), .val (.int p3), .val (.int p4), .val (.int p5), .val (.ref b1), .val (.int uu), .val (.int vv), .val (.int fr), .val (.int tt), .val (.int (1 : Int32)), .val (.int (-1 : Int32)), .unset] []))
        refine Gl.st (fun t k => XS.goto X13.here hx rfl (pc0 := 182) (pc' := 189) rfl (hb hby at_182) (by decide) (by decide) k) ?_
        show Gl _ _ _ _ _ _ _ (T13.setTop (mkF m 189 #[.val (.int p1), .val (.int p2), .val (.int p3), .val (.int p4), .val (.int p5), .val (.ref b1), .val (.int uu), .val (.int vv), .val (.int fr), .val (.int tt), .val (.int (1 : Int32)), .val (.int (-1 : Int32)), .unset] []))
        refine Gl.st (fun t k => XS.aload X13.here hx rfl (hb hby at_189) rfl rfl k) ?_
        show Gl _ _ _ _ _ _ _ (T13.setTop (mkF m 191 #[.val (.int p1), .val (.int p2), .val (.int p3), .val (.int p4), .val (.int p5), .val (.ref b1), .val (.int uu), .val (.int vv), .val (.int fr), .val (.int tt), .val (.int (1 : Int32)), .val (.int (-1 : Int32)), .unset] [(.ref b1)]))
        refine Gl.st (fun t k => XS.iload X13.here hx rfl (hb hby at_191) rfl  k) ?_
        show Gl _ _ _ _ _ _ _ (T13.setTop (mkF m 193 #[.val (.int p1), .val (.int p2), .val (.int p3), .val (.int p4), .val (.int p5), .val (.ref b1), .val (.int uu), .val (.int vv), .val (.int fr), .val (.int tt), .val (.int (1 : Int32)), .val (.int (-1 : Int32)), .unset] [(.int fr), (.ref b1)]))
        refine Gl.st (fun t k => XS.iload X13.here hx rfl (hb hby at_193) rfl  k) ?_
        show Gl _ _ _ _ _ _ _ (T13.setTop (mkF m 195 #[.val (.int p1), .val (.int p2), .val (.int p3), .val (.int p4), .val (.int p5), .val (.ref b1), .val (.int uu), .val (.int vv), .val (.int fr), .val (.int tt), .val (.int (1 : Int32)), .val (.int (-1 : Int32)), .unset] [(.int tt), (.int fr), (.ref b1)]))
        obtain ⟨_, _, ⟨T29, L29, k29, n29⟩, -, X29, ⟨Lc29, hQ29, l29, y29, z29⟩, st29⟩ := Jvm.LawKit.callS X13 hx (y := (⟨"com/example/ilsa/ilsa/io/LineFields", "recordStart", "([BII)I"⟩ : MethodName)) hown (mvT hZ (hw _ (List.mem_of_getElem? (i := 15) rfl))) (mvT hZ (hw _ (List.mem_of_getElem? (i := 16) rfl))) (mvT hZ (hw _ (List.mem_of_getElem? (i := 17) rfl))) (mvT hZ (hw _ (List.mem_of_getElem? (i := 18) rfl))) (by decide) (backOf (W := 0) (rm5 l Z a0 hw [] b1 fr tt (k1) ((nar .byte (own_pick p1))) ((nar .byte (own_pick p2))) ((nar .byte (own_pick p3))) ((nar .byte (own_pick p4))) h9 n0  V9 hft.1 hft.2.1 hft.2.2) hZ (hw _ (List.mem_of_getElem? (i := 18) rfl)) (hw _ (List.mem_of_getElem? (i := 17) rfl)) (by decide) (by decide)) (g := (mkF m 195 #[.val (.int p1), .val (.int p2), .val (.int p3), .val (.int p4), .val (.int p5), .val (.ref b1), .val (.int uu), .val (.int vv), .val (.int fr), .val (.int tt), .val (.int (1 : Int32)), .val (.int (-1 : Int32)), .unset] [(.int tt), (.int fr), (.ref b1)])) rfl (by rw [hml]; rfl) (argsL := [(.ref b1), (.int fr), (.int tt)]) (rest := []) (lenOf pd_1 rfl) rfl (by show 2 * 0 + _ ≤ _; exact Nat.le_of_eq rfl) (hb hby at_195) (fun _ _ => ⟨rfl, e13, (by decide : 1 + 0 ≤ _), (by decide : 4 + 0 ≤ _)⟩)
        dsimp only [Pt.U, Pt.locs, Pt.cells, Pt.slots] at X29 l29 y29 z29 st29 hQ29
        rw [y29, z29] at X29
        obtain ⟨rfl, N29q, e29⟩ := hQ29
        have N29 : Fr n0 L29 := by rw [l29]; exact Fr.app N13 N29q
        refine Gl.st st29 ?_
        show Gl _ _ _ _ _ _ _ (T29.setTop (mkF m 198 #[.val (.int p1), .val (.int p2), .val (.int p3), .val (.int p4), .val (.int p5), .val (.ref b1), .val (.int uu), .val (.int vv), .val (.int fr), .val (.int tt), .val (.int (1 : Int32)), .val (.int (-1 : Int32)), .unset] [(.int (own_rec fr tt (nar .byte (own_pick p1)) (nar .byte (own_pick p2)) (nar .byte (own_pick p3)) (nar .byte (own_pick p4))))]))
        refine Gl.st (fun t k => XS.istore X29.here hx rfl (hb hby at_198) rfl (l' := #[.val (.int p1), .val (.int p2), .val (.int p3), .val (.int p4), .val (.int p5), .val (.ref b1), .val (.int uu), .val (.int vv), .val (.int fr), .val (.int tt), .val (.int (1 : Int32)), .val (.int (-1 : Int32)), .val (.int (own_rec fr tt (nar .byte (own_pick p1)) (nar .byte (own_pick p2)) (nar .byte (own_pick p3)) (nar .byte (own_pick p4))))]) rfl k) ?_
        show Gl _ _ _ _ _ _ _ (T29.setTop (mkF m 200 #[.val (.int p1), .val (.int p2), .val (.int p3), .val (.int p4), .val (.int p5), .val (.ref b1), .val (.int uu), .val (.int vv), .val (.int fr), .val (.int tt), .val (.int (1 : Int32)), .val (.int (-1 : Int32)), .val (.int (own_rec fr tt (nar .byte (own_pick p1)) (nar .byte (own_pick p2)) (nar .byte (own_pick p3)) (nar .byte (own_pick p4))))] []))
        refine Gl.st (fun t k => XS.iload X29.here hx rfl (hb hby at_200) rfl  k) ?_
        show Gl _ _ _ _ _ _ _ (T29.setTop (mkF m 202 #[.val (.int p1), .val (.int p2), .val (.int p3), .val (.int p4), .val (.int p5), .val (.ref b1), .val (.int uu), .val (.int vv), .val (.int fr), .val (.int tt), .val (.int (1 : Int32)), .val (.int (-1 : Int32)), .val (.int (own_rec fr tt (nar .byte (own_pick p1)) (nar .byte (own_pick p2)) (nar .byte (own_pick p3)) (nar .byte (own_pick p4))))] [(.int (own_rec fr tt (nar .byte (own_pick p1)) (nar .byte (own_pick p2)) (nar .byte (own_pick p3)) (nar .byte (own_pick p4))))]))
        refine Gl.st (fun t k => XS.iload X29.here hx rfl (hb hby at_202) rfl  k) ?_
        show Gl _ _ _ _ _ _ _ (T29.setTop (mkF m 204 #[.val (.int p1), .val (.int p2), .val (.int p3), .val (.int p4), .val (.int p5), .val (.ref b1), .val (.int uu), .val (.int vv), .val (.int fr), .val (.int tt), .val (.int (1 : Int32)), .val (.int (-1 : Int32)), .val (.int (own_rec fr tt (nar .byte (own_pick p1)) (nar .byte (own_pick p2)) (nar .byte (own_pick p3)) (nar .byte (own_pick p4))))] [(.int (-1 : Int32)), (.int (own_rec fr tt (nar .byte (own_pick p1)) (nar .byte (own_pick p2)) (nar .byte (own_pick p3)) (nar .byte (own_pick p4))))]))
        have hc204_30 : (own_rec fr tt (nar .byte (own_pick p1)) (nar .byte (own_pick p2)) (nar .byte (own_pick p3)) (nar .byte (own_pick p4))) = (-1 : Int32) := by rw [own_final _ _ _ _ _ _ hft.1 hft.2.1 hft.2.2 (own_byte _) (own_byte _) (own_byte _) (own_byte _)]; simp only [if_pos hc88, if_neg hc107, if_pos hc176]
        refine Gl.st (fun t k => XS.icmpNo X29.here hx rfl (hb hby at_204) rfl (teq hc204_30).2 k) ?_
        show Gl _ _ _ _ _ _ _ (T29.setTop (mkF m 207 #[.val (.int p1), .val (.int p2), .val (.int p3), .val (.int p4), .val (.int p5), .val (.ref b1), .val (.int uu), .val (.int vv), .val (.int fr), .val (.int tt), .val (.int (1 : Int32)), .val (.int (-1 : Int32)), .val (.int (own_rec fr tt (nar .byte (own_pick p1)) (nar .byte (own_pick p2)) (nar .byte (own_pick p3)) (nar .byte (own_pick p4))))] []))
        refine Gl.st (fun t k => XS.iconst X29.here hx rfl (hb hby at_207) k) ?_
        show Gl _ _ _ _ _ _ _ (T29.setTop (mkF m 208 #[.val (.int p1), .val (.int p2), .val (.int p3), .val (.int p4), .val (.int p5), .val (.ref b1), .val (.int uu), .val (.int vv), .val (.int fr), .val (.int tt), .val (.int (1 : Int32)), .val (.int (-1 : Int32)), .val (.int (own_rec fr tt (nar .byte (own_pick p1)) (nar .byte (own_pick p2)) (nar .byte (own_pick p3)) (nar .byte (own_pick p4))))] [(.int (1 : Int32))]))
        refine Gl.st (fun t k => XS.goto X29.here hx rfl (pc0 := 208) (pc' := 212) rfl (hb hby at_208) (by decide) (by decide) k) ?_
        show Gl _ _ _ _ _ _ _ (T29.setTop (mkF m 212 #[.val (.int p1), .val (.int p2), .val (.int p3), .val (.int p4), .val (.int p5), .val (.ref b1), .val (.int uu), .val (.int vv), .val (.int fr), .val (.int tt), .val (.int (1 : Int32)), .val (.int (-1 : Int32)), .val (.int (own_rec fr tt (nar .byte (own_pick p1)) (nar .byte (own_pick p2)) (nar .byte (own_pick p3)) (nar .byte (own_pick p4))))] [(.int (1 : Int32))]))
        exact Gl.retN X29 hx hlk Bd.returns (by simp) (hb hby at_212) (⟨rfl, N29⟩) (by decide) (by decide)
      · refine Gl.st (fun t k => XS.icmpYes X13.here hx rfl (pc0 := 176) (pc' := 185) rfl (hb hby at_176) rfl (feq hc176).2 (by decide) (by decide) k) ?_
        show Gl _ _ _ _ _ _ _ (T13.setTop (mkF m 185 #[.val (.int p1), .val (.int p2), .val (.int p3), .val (.int p4), .val (.int p5), .val (.ref b1), .val (.int uu), .val (.int vv), .val (.int fr), .val (.int tt), .val (.int (1 : Int32)), .unset, .unset] []))
        refine Gl.st (fun t k => XS.iload X13.here hx rfl (hb hby at_185) rfl  k) ?_
        show Gl _ _ _ _ _ _ _ (T13.setTop (mkF m 187 #[.val (.int p1), .val (.int p2), .val (.int p3), .val (.int p4), .val (.int p5), .val (.ref b1), .val (.int uu), .val (.int vv), .val (.int fr), .val (.int tt), .val (.int (1 : Int32)), .unset, .unset] [(.int (1 : Int32))]))
        refine Gl.st (fun t k => XS.istore X13.here hx rfl (hb hby at_187) rfl (l' := #[.val (.int p1), .val (.int p2), .val (.int p3), .val (.int p4), .val (.int p5), .val (.ref b1), .val (.int uu), .val (.int vv), .val (.int fr), .val (.int tt), .val (.int (1 : Int32)), .val (.int (1 : Int32)), .unset]) rfl k) ?_
        show Gl _ _ _ _ _ _ _ (T13.setTop (mkF m 189 #[.val (.int p1), .val (.int p2), .val (.int p3), .val (.int p4), .val (.int p5), .val (.ref b1), .val (.int uu), .val (.int vv), .val (.int fr), .val (.int tt), .val (.int (1 : Int32)), .val (.int (1 : Int32)), .unset] []))
        refine Gl.st (fun t k => XS.aload X13.here hx rfl (hb hby at_189) rfl rfl k) ?_
        show Gl _ _ _ _ _ _ _ (T13.setTop (mkF m 191 #[.val (.int p1), .val (.int p2), .val (.int p3), .val (.int p4), .val (.int p5), .val (.ref b1), .val (.int uu), .val (.int vv), .val (.int fr), .val (.int tt), .val (.int (1 : Int32)), .val (.int (1 : Int32)), .unset] [(.ref b1)]))
        refine Gl.st (fun t k => XS.iload X13.here hx rfl (hb hby at_191) rfl  k) ?_
        show Gl _ _ _ _ _ _ _ (T13.setTop (mkF m 193 #[.val (.int p1), .val (.int p2), .val (.int p3), .val (.int p4), .val (.int p5), .val (.ref b1), .val (.int uu), .val (.int vv), .val (.int fr), .val (.int tt), .val (.int (1 : Int32)), .val (.int (1 : Int32)), .unset] [(.int fr), (.ref b1)]))
        refine Gl.st (fun t k => XS.iload X13.here hx rfl (hb hby at_193) rfl  k) ?_
        show Gl _ _ _ _ _ _ _ (T13.setTop (mkF m 195 #[.val (.int p1), .val (.int p2), .val (.int p3), .val (.int p4), .val (.int p5), .val (.ref b1), .val (.int uu), .val (.int vv), .val (.int fr), .val (.int tt), .val (.int (1 : Int32)), .val (.int (1 : Int32)), .unset] [(.int tt), (.int fr), (.ref b1)]))
        obtain ⟨_, _, ⟨T31, L31, k31, n31⟩, -, X31, ⟨Lc31, hQ31, l31, y31, z31⟩, st31⟩ := Jvm.LawKit.callS X13 hx (y := (⟨"com/example/ilsa/ilsa/io/LineFields", "recordStart", "([BII)I"⟩ : MethodName)) hown (mvT hZ (hw _ (List.mem_of_getElem? (i := 15) rfl))) (mvT hZ (hw _ (List.mem_of_getElem? (i := 16) rfl))) (mvT hZ (hw _ (List.mem_of_getElem? (i := 17) rfl))) (mvT hZ (hw _ (List.mem_of_getElem? (i := 18) rfl))) (by decide) (backOf (W := 0) (rm5 l Z a0 hw [] b1 fr tt (k1) ((nar .byte (own_pick p1))) ((nar .byte (own_pick p2))) ((nar .byte (own_pick p3))) ((nar .byte (own_pick p4))) h9 n0  V9 hft.1 hft.2.1 hft.2.2) hZ (hw _ (List.mem_of_getElem? (i := 18) rfl)) (hw _ (List.mem_of_getElem? (i := 17) rfl)) (by decide) (by decide)) (g := (mkF m 195 #[.val (.int p1), .val (.int p2), .val (.int p3), .val (.int p4), .val (.int p5), .val (.ref b1), .val (.int uu), .val (.int vv), .val (.int fr), .val (.int tt), .val (.int (1 : Int32)), .val (.int (1 : Int32)), .unset] [(.int tt), (.int fr), (.ref b1)])) rfl (by rw [hml]; rfl) (argsL := [(.ref b1), (.int fr), (.int tt)]) (rest := []) (lenOf pd_1 rfl) rfl (by show 2 * 0 + _ ≤ _; exact Nat.le_of_eq rfl) (hb hby at_195) (fun _ _ => ⟨rfl, e13, (by decide : 1 + 0 ≤ _), (by decide : 4 + 0 ≤ _)⟩)
        dsimp only [Pt.U, Pt.locs, Pt.cells, Pt.slots] at X31 l31 y31 z31 st31 hQ31
        rw [y31, z31] at X31
        obtain ⟨rfl, N31q, e31⟩ := hQ31
        have N31 : Fr n0 L31 := by rw [l31]; exact Fr.app N13 N31q
        refine Gl.st st31 ?_
        show Gl _ _ _ _ _ _ _ (T31.setTop (mkF m 198 #[.val (.int p1), .val (.int p2), .val (.int p3), .val (.int p4), .val (.int p5), .val (.ref b1), .val (.int uu), .val (.int vv), .val (.int fr), .val (.int tt), .val (.int (1 : Int32)), .val (.int (1 : Int32)), .unset] [(.int (own_rec fr tt (nar .byte (own_pick p1)) (nar .byte (own_pick p2)) (nar .byte (own_pick p3)) (nar .byte (own_pick p4))))]))
        refine Gl.st (fun t k => XS.istore X31.here hx rfl (hb hby at_198) rfl (l' := #[.val (.int p1), .val (.int p2), .val (.int p3), .val (.int p4), .val (.int p5), .val (.ref b1), .val (.int uu), .val (.int vv), .val (.int fr), .val (.int tt), .val (.int (1 : Int32)), .val (.int (1 : Int32)), .val (.int (own_rec fr tt (nar .byte (own_pick p1)) (nar .byte (own_pick p2)) (nar .byte (own_pick p3)) (nar .byte (own_pick p4))))]) rfl k) ?_
        show Gl _ _ _ _ _ _ _ (T31.setTop (mkF m 200 #[.val (.int p1), .val (.int p2), .val (.int p3), .val (.int p4), .val (.int p5), .val (.ref b1), .val (.int uu), .val (.int vv), .val (.int fr), .val (.int tt), .val (.int (1 : Int32)), .val (.int (1 : Int32)), .val (.int (own_rec fr tt (nar .byte (own_pick p1)) (nar .byte (own_pick p2)) (nar .byte (own_pick p3)) (nar .byte (own_pick p4))))] []))
        refine Gl.st (fun t k => XS.iload X31.here hx rfl (hb hby at_200) rfl  k) ?_
        show Gl _ _ _ _ _ _ _ (T31.setTop (mkF m 202 #[.val (.int p1), .val (.int p2), .val (.int p3), .val (.int p4), .val (.int p5), .val (.ref b1), .val (.int uu), .val (.int vv), .val (.int fr), .val (.int tt), .val (.int (1 : Int32)), .val (.int (1 : Int32)), .val (.int (own_rec fr tt (nar .byte (own_pick p1)) (nar .byte (own_pick p2)) (nar .byte (own_pick p3)) (nar .byte (own_pick p4))))] [(.int (own_rec fr tt (nar .byte (own_pick p1)) (nar .byte (own_pick p2)) (nar .byte (own_pick p3)) (nar .byte (own_pick p4))))]))
        refine Gl.st (fun t k => XS.iload X31.here hx rfl (hb hby at_202) rfl  k) ?_
        show Gl _ _ _ _ _ _ _ (T31.setTop (mkF m 204 #[.val (.int p1), .val (.int p2), .val (.int p3), .val (.int p4), .val (.int p5), .val (.ref b1), .val (.int uu), .val (.int vv), .val (.int fr), .val (.int tt), .val (.int (1 : Int32)), .val (.int (1 : Int32)), .val (.int (own_rec fr tt (nar .byte (own_pick p1)) (nar .byte (own_pick p2)) (nar .byte (own_pick p3)) (nar .byte (own_pick p4))))] [(.int (1 : Int32)), (.int (own_rec fr tt (nar .byte (own_pick p1)) (nar .byte (own_pick p2)) (nar .byte (own_pick p3)) (nar .byte (own_pick p4))))]))
        have hc204_32 : (own_rec fr tt (nar .byte (own_pick p1)) (nar .byte (own_pick p2)) (nar .byte (own_pick p3)) (nar .byte (own_pick p4))) = (1 : Int32) := by rw [own_final _ _ _ _ _ _ hft.1 hft.2.1 hft.2.2 (own_byte _) (own_byte _) (own_byte _) (own_byte _)]; simp only [if_pos hc88, if_neg hc107, if_neg hc176]
        refine Gl.st (fun t k => XS.icmpNo X31.here hx rfl (hb hby at_204) rfl (teq hc204_32).2 k) ?_
        show Gl _ _ _ _ _ _ _ (T31.setTop (mkF m 207 #[.val (.int p1), .val (.int p2), .val (.int p3), .val (.int p4), .val (.int p5), .val (.ref b1), .val (.int uu), .val (.int vv), .val (.int fr), .val (.int tt), .val (.int (1 : Int32)), .val (.int (1 : Int32)), .val (.int (own_rec fr tt (nar .byte (own_pick p1)) (nar .byte (own_pick p2)) (nar .byte (own_pick p3)) (nar .byte (own_pick p4))))] []))
        refine Gl.st (fun t k => XS.iconst X31.here hx rfl (hb hby at_207) k) ?_
        show Gl _ _ _ _ _ _ _ (T31.setTop (mkF m 208 #[.val (.int p1), .val (.int p2), .val (.int p3), .val (.int p4), .val (.int p5), .val (.ref b1), .val (.int uu), .val (.int vv), .val (.int fr), .val (.int tt), .val (.int (1 : Int32)), .val (.int (1 : Int32)), .val (.int (own_rec fr tt (nar .byte (own_pick p1)) (nar .byte (own_pick p2)) (nar .byte (own_pick p3)) (nar .byte (own_pick p4))))] [(.int (1 : Int32))]))
        refine Gl.st (fun t k => XS.goto X31.here hx rfl (pc0 := 208) (pc' := 212) rfl (hb hby at_208) (by decide) (by decide) k) ?_
        show Gl _ _ _ _ _ _ _ (T31.setTop (mkF m 212 #[.val (.int p1), .val (.int p2), .val (.int p3), .val (.int p4), .val (.int p5), .val (.ref b1), .val (.int uu), .val (.int vv), .val (.int fr), .val (.int tt), .val (.int (1 : Int32)), .val (.int (1 : Int32)), .val (.int (own_rec fr tt (nar .byte (own_pick p1)) (nar .byte (own_pick p2)) (nar .byte (own_pick p3)) (nar .byte (own_pick p4))))] [(.int (1 : Int32))]))
        exact Gl.retN X31 hx hlk Bd.returns (by simp) (hb hby at_212) (⟨rfl, N31⟩) (by decide) (by decide)
  · refine Gl.st (fun t k => XS.ifNo X12.here hx rfl (hb hby at_88) rfl ((if0 _ _).trans (feq hc88).1) k) ?_
    show Gl _ _ _ _ _ _ _ (T12.setTop (mkF m 91 #[.val (.int p1), .val (.int p2), .val (.int p3), .val (.int p4), .val (.int p5), .val (.ref b1), .val (.int uu), .val (.int vv), .val (.int fr), .val (.int tt), .unset, .unset, .unset] []))
    refine Gl.st (fun t k => XS.iconst X12.here hx rfl (hb hby at_91) k) ?_
    show Gl _ _ _ _ _ _ _ (T12.setTop (mkF m 92 #[.val (.int p1), .val (.int p2), .val (.int p3), .val (.int p4), .val (.int p5), .val (.ref b1), .val (.int uu), .val (.int vv), .val (.int fr), .val (.int tt), .unset, .unset, .unset] [(.int (0 : Int32))]))
    refine Gl.st (fun t k => XS.istore X12.here hx rfl (hb hby at_92) rfl (l' := #[.val (.int p1), .val (.int p2), .val (.int p3), .val (.int p4), .val (.int p5), .val (.ref b1), .val (.int uu), .val (.int vv), .val (.int fr), .val (.int tt), .val (.int (0 : Int32)), .unset, .unset]) rfl k) ?_
    show Gl _ _ _ _ _ _ _ (T12.setTop (mkF m 94 #[.val (.int p1), .val (.int p2), .val (.int p3), .val (.int p4), .val (.int p5), .val (.ref b1), .val (.int uu), .val (.int vv), .val (.int fr), .val (.int tt), .val (.int (0 : Int32)), .unset, .unset] []))
    refine Gl.st (fun t k => XS.goto X12.here hx rfl (pc0 := 94) (pc' := 157) rfl (hb hby at_94) (by decide) (by decide) k) ?_
    show Gl _ _ _ _ _ _ _ (T12.setTop (mkF m 157 #[.val (.int p1), .val (.int p2), .val (.int p3), .val (.int p4), .val (.int p5), .val (.ref b1), .val (.int uu), .val (.int vv), .val (.int fr), .val (.int tt), .val (.int (0 : Int32)), .unset, .unset] []))
    refine Gl.st (fun t k => XS.iload X12.here hx rfl (hb hby at_157) rfl  k) ?_
    show Gl _ _ _ _ _ _ _ (T12.setTop (mkF m 159 #[.val (.int p1), .val (.int p2), .val (.int p3), .val (.int p4), .val (.int p5), .val (.ref b1), .val (.int uu), .val (.int vv), .val (.int fr), .val (.int tt), .val (.int (0 : Int32)), .unset, .unset] [(.int (0 : Int32))]))
    refine Gl.st (fun t k => XS.iconst X12.here hx rfl (hb hby at_159) k) ?_
    show Gl _ _ _ _ _ _ _ (T12.setTop (mkF m 160 #[.val (.int p1), .val (.int p2), .val (.int p3), .val (.int p4), .val (.int p5), .val (.ref b1), .val (.int uu), .val (.int vv), .val (.int fr), .val (.int tt), .val (.int (0 : Int32)), .unset, .unset] [(.int (-1 : Int32)), (.int (0 : Int32))]))
    refine Gl.st (fun t k => XS.icmpYes X12.here hx rfl (pc0 := 160) (pc' := 169) rfl (hb hby at_160) rfl (feq (by decide : ¬ ((0 : Int32) = (-1 : Int32)))).2 (by decide) (by decide) k) ?_
    show Gl _ _ _ _ _ _ _ (T12.setTop (mkF m 169 #[.val (.int p1), .val (.int p2), .val (.int p3), .val (.int p4), .val (.int p5), .val (.ref b1), .val (.int uu), .val (.int vv), .val (.int fr), .val (.int tt), .val (.int (0 : Int32)), .unset, .unset] []))
    refine Gl.st (fun t k => XS.aload X12.here hx rfl (hb hby at_169) rfl rfl k) ?_
    show Gl _ _ _ _ _ _ _ (T12.setTop (mkF m 171 #[.val (.int p1), .val (.int p2), .val (.int p3), .val (.int p4), .val (.int p5), .val (.ref b1), .val (.int uu), .val (.int vv), .val (.int fr), .val (.int tt), .val (.int (0 : Int32)), .unset, .unset] [(.ref b1)]))
    refine Gl.st (fun t k => XS.iload X12.here hx rfl (hb hby at_171) rfl  k) ?_
    show Gl _ _ _ _ _ _ _ (T12.setTop (mkF m 173 #[.val (.int p1), .val (.int p2), .val (.int p3), .val (.int p4), .val (.int p5), .val (.ref b1), .val (.int uu), .val (.int vv), .val (.int fr), .val (.int tt), .val (.int (0 : Int32)), .unset, .unset] [(.int (0 : Int32)), (.ref b1)]))
    have Vx33 := V9
    obtain ⟨cl33, Ar33, qk33, S33, M33, H33, G33⟩ := Vx33
    have hin33 : ¬ ((0 : Int32) < 0 ∨ cl33.slots.size ≤ ((0 : Int32)).toNatClampNeg) := inb_of S33 ⟨by decide, by decide⟩
    have hat33 : cl33.slots[((0 : Int32)).toNatClampNeg]? = some (.int (nar .byte (own_pick p1))) := H33.at hin33 rfl
    refine Gl.st (X12.baloadBytes hx (j := (0 : Int32)) (v := (.int (nar .byte (own_pick p1)))) (by rw [e12]; exact Ar33.1) (State.isArrayOf_alike hZ.alike Ar33.2.1) Ar33.2.2 hin33 hat33 (g := (mkF m 173 #[.val (.int p1), .val (.int p2), .val (.int p3), .val (.int p4), .val (.int p5), .val (.ref b1), .val (.int uu), .val (.int vv), .val (.int fr), .val (.int tt), .val (.int (0 : Int32)), .unset, .unset] [(.int (0 : Int32)), (.ref b1)])) rfl rfl (hb hby at_173)) ?_
    show Gl _ _ _ _ _ _ _ (T12.setTop (mkF m 174 #[.val (.int p1), .val (.int p2), .val (.int p3), .val (.int p4), .val (.int p5), .val (.ref b1), .val (.int uu), .val (.int vv), .val (.int fr), .val (.int tt), .val (.int (0 : Int32)), .unset, .unset] [(.int (nar .byte (own_pick p1)))]))
    refine Gl.st (fun t k => XS.bipush X12.here hx rfl (hb hby at_174) k) ?_
    show Gl _ _ _ _ _ _ _ (T12.setTop (mkF m 176 #[.val (.int p1), .val (.int p2), .val (.int p3), .val (.int p4), .val (.int p5), .val (.ref b1), .val (.int uu), .val (.int vv), .val (.int fr), .val (.int tt), .val (.int (0 : Int32)), .unset, .unset] [(.int (35 : Int32)), (.int (nar .byte (own_pick p1)))]))
    by_cases hc176 : (nar .byte (own_pick p1)) = (35 : Int32)
    · refine Gl.st (fun t k => XS.icmpNo X12.here hx rfl (hb hby at_176) rfl (teq hc176).2 k) ?_
      show Gl _ _ _ _ _ _ _ (T12.setTop (mkF m 179 #[.val (.int p1), .val (.int p2), .val (.int p3), .val (.int p4), .val (.int p5), .val (.ref b1), .val (.int uu), .val (.int vv), .val (.int fr), .val (.int tt), .val (.int (0 : Int32)), .unset, .unset] []))
      refine Gl.st (fun t k => XS.iconst X12.here hx rfl (hb hby at_179) k) ?_
      show Gl _ _ _ _ _ _ _ (T12.setTop (mkF m 180 #[.val (.int p1), .val (.int p2), .val (.int p3), .val (.int p4), .val (.int p5), .val (.ref b1), .val (.int uu), .val (.int vv), .val (.int fr), .val (.int tt), .val (.int (0 : Int32)), .unset, .unset] [(.int (-1 : Int32))]))
      refine Gl.st (fun t k => XS.istore X12.here hx rfl (hb hby at_180) rfl (l' := #[.val (.int p1), .val (.int p2), .val (.int p3), .val (.int p4), .val (.int p5), .val (.ref b1), .val (.int uu), .val (.int vv), .val (.int fr), .val (.int tt), .val (.int (0 : Int32)), .val (.int (-1 : Int32)), .unset]) rfl k) ?_
      show Gl _ _ _ _ _ _ _ (T12.setTop (mkF m 182 #[.val (.int p1), .val (.int p2), .val (.int p3), .val (.int p4), .val (.int p5), .val (.ref b1), .val (.int uu), .val (.int vv), .val (.int fr), .val (.int tt), .val (.int (0 : Int32)), .val (.int (-1 : Int32)), .unset] []))
      refine Gl.st (fun t k => XS.goto X12.here hx rfl (pc0 := 182) (pc' := 189) rfl (hb hby at_182) (by decide) (by decide) k) ?_
      show Gl _ _ _ _ _ _ _ (T12.setTop (mkF m 189 #[.val (.int p1), .val (.int p2), .val (.int p3), .val (.int p4), .val (.int p5), .val (.ref b1), .val (.int uu), .val (.int vv), .val (.int fr), .val (.int tt), .val (.int (0 : Int32)), .val (.int (-1 : Int32)), .unset] []))
      refine Gl.st (fun t k => XS.aload X12.here hx rfl (hb hby at_189) rfl rfl k) ?_
      show Gl _ _ _ _ _ _ _ (T12.setTop (mkF m 191 #[.val (.int p1), .val (.int p2), .val (.int p3), .val (.int p4), .val (.int p5), .val (.ref b1), .val (.int uu), .val (.int vv), .val (.int fr), .val (.int tt), .val (.int (0 : Int32)), .val (.int (-1 : Int32)), .unset] [(.ref b1)]))
      refine Gl.st (fun t k => XS.iload X12.here hx rfl (hb hby at_191) rfl  k) ?_
      show Gl _ _ _ _ _ _ _ (T12.setTop (mkF m 193 #[.val (.int p1), .val (.int p2), .val (.int p3), .val (.int p4), .val (.int p5), .val (.ref b1), .val (.int uu), .val (.int vv), .val (.int fr), .val (.int tt), .val (.int (0 : Int32)), .val (.int (-1 : Int32)), .unset] [(.int fr), (.ref b1)]))
      refine Gl.st (fun t k => XS.iload X12.here hx rfl (hb hby at_193) rfl  k) ?_
      show Gl _ _ _ _ _ _ _ (T12.setTop (mkF m 195 #[.val (.int p1), .val (.int p2), .val (.int p3), .val (.int p4), .val (.int p5), .val (.ref b1), .val (.int uu), .val (.int vv), .val (.int fr), .val (.int tt), .val (.int (0 : Int32)), .val (.int (-1 : Int32)), .unset] [(.int tt), (.int fr), (.ref b1)]))
      obtain ⟨_, _, ⟨T34, L34, k34, n34⟩, -, X34, ⟨Lc34, hQ34, l34, y34, z34⟩, st34⟩ := Jvm.LawKit.callS X12 hx (y := (⟨"com/example/ilsa/ilsa/io/LineFields", "recordStart", "([BII)I"⟩ : MethodName)) hown (mvT hZ (hw _ (List.mem_of_getElem? (i := 15) rfl))) (mvT hZ (hw _ (List.mem_of_getElem? (i := 16) rfl))) (mvT hZ (hw _ (List.mem_of_getElem? (i := 17) rfl))) (mvT hZ (hw _ (List.mem_of_getElem? (i := 18) rfl))) (by decide) (backOf (W := 0) (rm5 l Z a0 hw [] b1 fr tt (k1) ((nar .byte (own_pick p1))) ((nar .byte (own_pick p2))) ((nar .byte (own_pick p3))) ((nar .byte (own_pick p4))) h9 n0  V9 hft.1 hft.2.1 hft.2.2) hZ (hw _ (List.mem_of_getElem? (i := 18) rfl)) (hw _ (List.mem_of_getElem? (i := 17) rfl)) (by decide) (by decide)) (g := (mkF m 195 #[.val (.int p1), .val (.int p2), .val (.int p3), .val (.int p4), .val (.int p5), .val (.ref b1), .val (.int uu), .val (.int vv), .val (.int fr), .val (.int tt), .val (.int (0 : Int32)), .val (.int (-1 : Int32)), .unset] [(.int tt), (.int fr), (.ref b1)])) rfl (by rw [hml]; rfl) (argsL := [(.ref b1), (.int fr), (.int tt)]) (rest := []) (lenOf pd_1 rfl) rfl (by show 2 * 0 + _ ≤ _; exact Nat.le_of_eq rfl) (hb hby at_195) (fun _ _ => ⟨rfl, e12, (by decide : 1 + 0 ≤ _), (by decide : 4 + 0 ≤ _)⟩)
      dsimp only [Pt.U, Pt.locs, Pt.cells, Pt.slots] at X34 l34 y34 z34 st34 hQ34
      rw [y34, z34] at X34
      obtain ⟨rfl, N34q, e34⟩ := hQ34
      have N34 : Fr n0 L34 := by rw [l34]; exact Fr.app N12 N34q
      refine Gl.st st34 ?_
      show Gl _ _ _ _ _ _ _ (T34.setTop (mkF m 198 #[.val (.int p1), .val (.int p2), .val (.int p3), .val (.int p4), .val (.int p5), .val (.ref b1), .val (.int uu), .val (.int vv), .val (.int fr), .val (.int tt), .val (.int (0 : Int32)), .val (.int (-1 : Int32)), .unset] [(.int (own_rec fr tt (nar .byte (own_pick p1)) (nar .byte (own_pick p2)) (nar .byte (own_pick p3)) (nar .byte (own_pick p4))))]))
      refine Gl.st (fun t k => XS.istore X34.here hx rfl (hb hby at_198) rfl (l' := #[.val (.int p1), .val (.int p2), .val (.int p3), .val (.int p4), .val (.int p5), .val (.ref b1), .val (.int uu), .val (.int vv), .val (.int fr), .val (.int tt), .val (.int (0 : Int32)), .val (.int (-1 : Int32)), .val (.int (own_rec fr tt (nar .byte (own_pick p1)) (nar .byte (own_pick p2)) (nar .byte (own_pick p3)) (nar .byte (own_pick p4))))]) rfl k) ?_
      show Gl _ _ _ _ _ _ _ (T34.setTop (mkF m 200 #[.val (.int p1), .val (.int p2), .val (.int p3), .val (.int p4), .val (.int p5), .val (.ref b1), .val (.int uu), .val (.int vv), .val (.int fr), .val (.int tt), .val (.int (0 : Int32)), .val (.int (-1 : Int32)), .val (.int (own_rec fr tt (nar .byte (own_pick p1)) (nar .byte (own_pick p2)) (nar .byte (own_pick p3)) (nar .byte (own_pick p4))))] []))
      refine Gl.st (fun t k => XS.iload X34.here hx rfl (hb hby at_200) rfl  k) ?_
      show Gl _ _ _ _ _ _ _ (T34.setTop (mkF m 202 #[.val (.int p1), .val (.int p2), .val (.int p3), .val (.int p4), .val (.int p5), .val (.ref b1), .val (.int uu), .val (.int vv), .val (.int fr), .val (.int tt), .val (.int (0 : Int32)), .val (.int (-1 : Int32)), .val (.int (own_rec fr tt (nar .byte (own_pick p1)) (nar .byte (own_pick p2)) (nar .byte (own_pick p3)) (nar .byte (own_pick p4))))] [(.int (own_rec fr tt (nar .byte (own_pick p1)) (nar .byte (own_pick p2)) (nar .byte (own_pick p3)) (nar .byte (own_pick p4))))]))
      refine Gl.st (fun t k => XS.iload X34.here hx rfl (hb hby at_202) rfl  k) ?_
      show Gl _ _ _ _ _ _ _ (T34.setTop (mkF m 204 #[.val (.int p1), .val (.int p2), .val (.int p3), .val (.int p4), .val (.int p5), .val (.ref b1), .val (.int uu), .val (.int vv), .val (.int fr), .val (.int tt), .val (.int (0 : Int32)), .val (.int (-1 : Int32)), .val (.int (own_rec fr tt (nar .byte (own_pick p1)) (nar .byte (own_pick p2)) (nar .byte (own_pick p3)) (nar .byte (own_pick p4))))] [(.int (-1 : Int32)), (.int (own_rec fr tt (nar .byte (own_pick p1)) (nar .byte (own_pick p2)) (nar .byte (own_pick p3)) (nar .byte (own_pick p4))))]))
      have hc204_35 : (own_rec fr tt (nar .byte (own_pick p1)) (nar .byte (own_pick p2)) (nar .byte (own_pick p3)) (nar .byte (own_pick p4))) = (-1 : Int32) := by rw [own_final _ _ _ _ _ _ hft.1 hft.2.1 hft.2.2 (own_byte _) (own_byte _) (own_byte _) (own_byte _)]; simp only [if_neg hc88, if_pos hc176]
      refine Gl.st (fun t k => XS.icmpNo X34.here hx rfl (hb hby at_204) rfl (teq hc204_35).2 k) ?_
      show Gl _ _ _ _ _ _ _ (T34.setTop (mkF m 207 #[.val (.int p1), .val (.int p2), .val (.int p3), .val (.int p4), .val (.int p5), .val (.ref b1), .val (.int uu), .val (.int vv), .val (.int fr), .val (.int tt), .val (.int (0 : Int32)), .val (.int (-1 : Int32)), .val (.int (own_rec fr tt (nar .byte (own_pick p1)) (nar .byte (own_pick p2)) (nar .byte (own_pick p3)) (nar .byte (own_pick p4))))] []))
      refine Gl.st (fun t k => XS.iconst X34.here hx rfl (hb hby at_207) k) ?_
      show Gl _ _ _ _ _ _ _ (T34.setTop (mkF m 208 #[.val (.int p1), .val (.int p2), .val (.int p3), .val (.int p4), .val (.int p5), .val (.ref b1), .val (.int uu), .val (.int vv), .val (.int fr), .val (.int tt), .val (.int (0 : Int32)), .val (.int (-1 : Int32)), .val (.int (own_rec fr tt (nar .byte (own_pick p1)) (nar .byte (own_pick p2)) (nar .byte (own_pick p3)) (nar .byte (own_pick p4))))] [(.int (1 : Int32))]))
      refine Gl.st (fun t k => XS.goto X34.here hx rfl (pc0 := 208) (pc' := 212) rfl (hb hby at_208) (by decide) (by decide) k) ?_
      show Gl _ _ _ _ _ _ _ (T34.setTop (mkF m 212 #[.val (.int p1), .val (.int p2), .val (.int p3), .val (.int p4), .val (.int p5), .val (.ref b1), .val (.int uu), .val (.int vv), .val (.int fr), .val (.int tt), .val (.int (0 : Int32)), .val (.int (-1 : Int32)), .val (.int (own_rec fr tt (nar .byte (own_pick p1)) (nar .byte (own_pick p2)) (nar .byte (own_pick p3)) (nar .byte (own_pick p4))))] [(.int (1 : Int32))]))
      exact Gl.retN X34 hx hlk Bd.returns (by simp) (hb hby at_212) (⟨rfl, N34⟩) (by decide) (by decide)
    · refine Gl.st (fun t k => XS.icmpYes X12.here hx rfl (pc0 := 176) (pc' := 185) rfl (hb hby at_176) rfl (feq hc176).2 (by decide) (by decide) k) ?_
      show Gl _ _ _ _ _ _ _ (T12.setTop (mkF m 185 #[.val (.int p1), .val (.int p2), .val (.int p3), .val (.int p4), .val (.int p5), .val (.ref b1), .val (.int uu), .val (.int vv), .val (.int fr), .val (.int tt), .val (.int (0 : Int32)), .unset, .unset] []))
      refine Gl.st (fun t k => XS.iload X12.here hx rfl (hb hby at_185) rfl  k) ?_
      show Gl _ _ _ _ _ _ _ (T12.setTop (mkF m 187 #[.val (.int p1), .val (.int p2), .val (.int p3), .val (.int p4), .val (.int p5), .val (.ref b1), .val (.int uu), .val (.int vv), .val (.int fr), .val (.int tt), .val (.int (0 : Int32)), .unset, .unset] [(.int (0 : Int32))]))
      refine Gl.st (fun t k => XS.istore X12.here hx rfl (hb hby at_187) rfl (l' := #[.val (.int p1), .val (.int p2), .val (.int p3), .val (.int p4), .val (.int p5), .val (.ref b1), .val (.int uu), .val (.int vv), .val (.int fr), .val (.int tt), .val (.int (0 : Int32)), .val (.int (0 : Int32)), .unset]) rfl k) ?_
      show Gl _ _ _ _ _ _ _ (T12.setTop (mkF m 189 #[.val (.int p1), .val (.int p2), .val (.int p3), .val (.int p4), .val (.int p5), .val (.ref b1), .val (.int uu), .val (.int vv), .val (.int fr), .val (.int tt), .val (.int (0 : Int32)), .val (.int (0 : Int32)), .unset] []))
      refine Gl.st (fun t k => XS.aload X12.here hx rfl (hb hby at_189) rfl rfl k) ?_
      show Gl _ _ _ _ _ _ _ (T12.setTop (mkF m 191 #[.val (.int p1), .val (.int p2), .val (.int p3), .val (.int p4), .val (.int p5), .val (.ref b1), .val (.int uu), .val (.int vv), .val (.int fr), .val (.int tt), .val (.int (0 : Int32)), .val (.int (0 : Int32)), .unset] [(.ref b1)]))
      refine Gl.st (fun t k => XS.iload X12.here hx rfl (hb hby at_191) rfl  k) ?_
      show Gl _ _ _ _ _ _ _ (T12.setTop (mkF m 193 #[.val (.int p1), .val (.int p2), .val (.int p3), .val (.int p4), .val (.int p5), .val (.ref b1), .val (.int uu), .val (.int vv), .val (.int fr), .val (.int tt), .val (.int (0 : Int32)), .val (.int (0 : Int32)), .unset] [(.int fr), (.ref b1)]))
      refine Gl.st (fun t k => XS.iload X12.here hx rfl (hb hby at_193) rfl  k) ?_
      show Gl _ _ _ _ _ _ _ (T12.setTop (mkF m 195 #[.val (.int p1), .val (.int p2), .val (.int p3), .val (.int p4), .val (.int p5), .val (.ref b1), .val (.int uu), .val (.int vv), .val (.int fr), .val (.int tt), .val (.int (0 : Int32)), .val (.int (0 : Int32)), .unset] [(.int tt), (.int fr), (.ref b1)]))
      obtain ⟨_, _, ⟨T36, L36, k36, n36⟩, -, X36, ⟨Lc36, hQ36, l36, y36, z36⟩, st36⟩ := Jvm.LawKit.callS X12 hx (y := (⟨"com/example/ilsa/ilsa/io/LineFields", "recordStart", "([BII)I"⟩ : MethodName)) hown (mvT hZ (hw _ (List.mem_of_getElem? (i := 15) rfl))) (mvT hZ (hw _ (List.mem_of_getElem? (i := 16) rfl))) (mvT hZ (hw _ (List.mem_of_getElem? (i := 17) rfl))) (mvT hZ (hw _ (List.mem_of_getElem? (i := 18) rfl))) (by decide) (backOf (W := 0) (rm5 l Z a0 hw [] b1 fr tt (k1) ((nar .byte (own_pick p1))) ((nar .byte (own_pick p2))) ((nar .byte (own_pick p3))) ((nar .byte (own_pick p4))) h9 n0  V9 hft.1 hft.2.1 hft.2.2) hZ (hw _ (List.mem_of_getElem? (i := 18) rfl)) (hw _ (List.mem_of_getElem? (i := 17) rfl)) (by decide) (by decide)) (g := (mkF m 195 #[.val (.int p1), .val (.int p2), .val (.int p3), .val (.int p4), .val (.int p5), .val (.ref b1), .val (.int uu), .val (.int vv), .val (.int fr), .val (.int tt), .val (.int (0 : Int32)), .val (.int (0 : Int32)), .unset] [(.int tt), (.int fr), (.ref b1)])) rfl (by rw [hml]; rfl) (argsL := [(.ref b1), (.int fr), (.int tt)]) (rest := []) (lenOf pd_1 rfl) rfl (by show 2 * 0 + _ ≤ _; exact Nat.le_of_eq rfl) (hb hby at_195) (fun _ _ => ⟨rfl, e12, (by decide : 1 + 0 ≤ _), (by decide : 4 + 0 ≤ _)⟩)
      dsimp only [Pt.U, Pt.locs, Pt.cells, Pt.slots] at X36 l36 y36 z36 st36 hQ36
      rw [y36, z36] at X36
      obtain ⟨rfl, N36q, e36⟩ := hQ36
      have N36 : Fr n0 L36 := by rw [l36]; exact Fr.app N12 N36q
      refine Gl.st st36 ?_
      show Gl _ _ _ _ _ _ _ (T36.setTop (mkF m 198 #[.val (.int p1), .val (.int p2), .val (.int p3), .val (.int p4), .val (.int p5), .val (.ref b1), .val (.int uu), .val (.int vv), .val (.int fr), .val (.int tt), .val (.int (0 : Int32)), .val (.int (0 : Int32)), .unset] [(.int (own_rec fr tt (nar .byte (own_pick p1)) (nar .byte (own_pick p2)) (nar .byte (own_pick p3)) (nar .byte (own_pick p4))))]))
      refine Gl.st (fun t k => XS.istore X36.here hx rfl (hb hby at_198) rfl (l' := #[.val (.int p1), .val (.int p2), .val (.int p3), .val (.int p4), .val (.int p5), .val (.ref b1), .val (.int uu), .val (.int vv), .val (.int fr), .val (.int tt), .val (.int (0 : Int32)), .val (.int (0 : Int32)), .val (.int (own_rec fr tt (nar .byte (own_pick p1)) (nar .byte (own_pick p2)) (nar .byte (own_pick p3)) (nar .byte (own_pick p4))))]) rfl k) ?_
      show Gl _ _ _ _ _ _ _ (T36.setTop (mkF m 200 #[.val (.int p1), .val (.int p2), .val (.int p3), .val (.int p4), .val (.int p5), .val (.ref b1), .val (.int uu), .val (.int vv), .val (.int fr), .val (.int tt), .val (.int (0 : Int32)), .val (.int (0 : Int32)), .val (.int (own_rec fr tt (nar .byte (own_pick p1)) (nar .byte (own_pick p2)) (nar .byte (own_pick p3)) (nar .byte (own_pick p4))))] []))
      refine Gl.st (fun t k => XS.iload X36.here hx rfl (hb hby at_200) rfl  k) ?_
      show Gl _ _ _ _ _ _ _ (T36.setTop (mkF m 202 #[.val (.int p1), .val (.int p2), .val (.int p3), .val (.int p4), .val (.int p5), .val (.ref b1), .val (.int uu), .val (.int vv), .val (.int fr), .val (.int tt), .val (.int (0 : Int32)), .val (.int (0 : Int32)), .val (.int (own_rec fr tt (nar .byte (own_pick p1)) (nar .byte (own_pick p2)) (nar .byte (own_pick p3)) (nar .byte (own_pick p4))))] [(.int (own_rec fr tt (nar .byte (own_pick p1)) (nar .byte (own_pick p2)) (nar .byte (own_pick p3)) (nar .byte (own_pick p4))))]))
      refine Gl.st (fun t k => XS.iload X36.here hx rfl (hb hby at_202) rfl  k) ?_
      show Gl _ _ _ _ _ _ _ (T36.setTop (mkF m 204 #[.val (.int p1), .val (.int p2), .val (.int p3), .val (.int p4), .val (.int p5), .val (.ref b1), .val (.int uu), .val (.int vv), .val (.int fr), .val (.int tt), .val (.int (0 : Int32)), .val (.int (0 : Int32)), .val (.int (own_rec fr tt (nar .byte (own_pick p1)) (nar .byte (own_pick p2)) (nar .byte (own_pick p3)) (nar .byte (own_pick p4))))] [(.int (0 : Int32)), (.int (own_rec fr tt (nar .byte (own_pick p1)) (nar .byte (own_pick p2)) (nar .byte (own_pick p3)) (nar .byte (own_pick p4))))]))
      have hc204_37 : (own_rec fr tt (nar .byte (own_pick p1)) (nar .byte (own_pick p2)) (nar .byte (own_pick p3)) (nar .byte (own_pick p4))) = (0 : Int32) := by rw [own_final _ _ _ _ _ _ hft.1 hft.2.1 hft.2.2 (own_byte _) (own_byte _) (own_byte _) (own_byte _)]; simp only [if_neg hc88, if_neg hc176]
      refine Gl.st (fun t k => XS.icmpNo X36.here hx rfl (hb hby at_204) rfl (teq hc204_37).2 k) ?_
      show Gl _ _ _ _ _ _ _ (T36.setTop (mkF m 207 #[.val (.int p1), .val (.int p2), .val (.int p3), .val (.int p4), .val (.int p5), .val (.ref b1), .val (.int uu), .val (.int vv), .val (.int fr), .val (.int tt), .val (.int (0 : Int32)), .val (.int (0 : Int32)), .val (.int (own_rec fr tt (nar .byte (own_pick p1)) (nar .byte (own_pick p2)) (nar .byte (own_pick p3)) (nar .byte (own_pick p4))))] []))
      refine Gl.st (fun t k => XS.iconst X36.here hx rfl (hb hby at_207) k) ?_
      show Gl _ _ _ _ _ _ _ (T36.setTop (mkF m 208 #[.val (.int p1), .val (.int p2), .val (.int p3), .val (.int p4), .val (.int p5), .val (.ref b1), .val (.int uu), .val (.int vv), .val (.int fr), .val (.int tt), .val (.int (0 : Int32)), .val (.int (0 : Int32)), .val (.int (own_rec fr tt (nar .byte (own_pick p1)) (nar .byte (own_pick p2)) (nar .byte (own_pick p3)) (nar .byte (own_pick p4))))] [(.int (1 : Int32))]))
      refine Gl.st (fun t k => XS.goto X36.here hx rfl (pc0 := 208) (pc' := 212) rfl (hb hby at_208) (by decide) (by decide) k) ?_
      show Gl _ _ _ _ _ _ _ (T36.setTop (mkF m 212 #[.val (.int p1), .val (.int p2), .val (.int p3), .val (.int p4), .val (.int p5), .val (.ref b1), .val (.int uu), .val (.int vv), .val (.int fr), .val (.int tt), .val (.int (0 : Int32)), .val (.int (0 : Int32)), .val (.int (own_rec fr tt (nar .byte (own_pick p1)) (nar .byte (own_pick p2)) (nar .byte (own_pick p3)) (nar .byte (own_pick p4))))] [(.int (1 : Int32))]))
      exact Gl.retN X36 hx hlk Bd.returns (by simp) (hb hby at_212) (⟨rfl, N36⟩) (by decide) (by decide)
set_option maxRecDepth 65536 in
set_option maxHeartbeats 40000000 in
theorem comes_1 {Post : Tables → Env → Array Value → State → Outcome → State → Prop} (hpost : ∀ tb e args s v u, (limb_1_1.after args s (.returned v) u = true ∧ limb_1_2.after args s (.returned v) u = true ∧ True) → FrameEnd s (.returned v) u (Jvm.fieldLocs frame_1_writes args s ++ Jvm.arrayLocs frame_1_arrays args s ++ Jvm.staticLocs frame_1_statics s) 16 128 → Post tb e args s (.returned v) u) :
    ArmFor flags0 classFile x code maxLocals ret World_1 tables_1 room_1 Calls_1 rest_1 Pre_1 Post := by
  intro l hfl _ _ p e ha hc hk s m args below hf hA hF happ hP
  obtain ⟨hcalls, hrest, hpre⟩ := hP
  obtain ⟨-, -, -, hnamed, -, -, -, hat⟩ := (Spec.applies_iff hf).mp happ
  obtain ⟨hg, hn⟩ := and_e (Cond.before_iff.mp (show (Jvm.Cond.and given_1 narrow_1).before args s = true from hpre))
  obtain ⟨hcnt, hr0⟩ := and_e hg
  obtain ⟨ha0, hr1⟩ := and_e hr0
  obtain ⟨ha1, hr2⟩ := and_e hr1
  obtain ⟨ha2, hr3⟩ := and_e hr2
  obtain ⟨ha3, hr4⟩ := and_e hr3
  have ha4 := hr4
  obtain ⟨w0, w1, w2, w3, w4, rfl⟩ : ∃ w0 w1 w2 w3 w4 : Value, args = #[w0, w1, w2, w3, w4] := by
    have hs : args.size = 5 := by simpa [Cond.value, given_1] using hcnt
    obtain ⟨L⟩ := args
    match L, hs with
    | [w0, w1, w2, w3, w4], _ => exact ⟨w0, w1, w2, w3, w4, rfl⟩
  have hw := fun d (hd : d ∈ tables_1) => atoms_spec (ws := Jvm.Cond.code x code maxLocals ret :: tables_1) hat d (List.mem_cons_of_mem _ hd)
  obtain ⟨i0, ei0⟩ := is_v ha0
  obtain rfl : w0 = (.int i0) := Option.some.inj ei0
  obtain ⟨i1, ei1⟩ := is_v ha1
  obtain rfl : w1 = (.int i1) := Option.some.inj ei1
  obtain ⟨i2, ei2⟩ := is_v ha2
  obtain rfl : w2 = (.int i2) := Option.some.inj ei2
  obtain ⟨i3, ei3⟩ := is_v ha3
  obtain rfl : w3 = (.int i3) := Option.some.inj ei3
  obtain ⟨i4, ei4⟩ := is_v ha4
  obtain rfl : w4 = (.int i4) := Option.some.inj ei4
  obtain ⟨n, o, h1, h2, h3, _, L, rfl, ⟨rfl, N⟩, hq⟩ := rm0 l s _ hw tables_1 i0 i1 i2 i3 i4 s.heap s.heap.size (Nat.le_refl _) p e ha hc hk s m _ below hf ((Spec.applies_iff_loose hf).mp happ).1 ⟨rfl, State.Warmed39.refl s, rfl⟩ trivial
  refine ⟨n, _, h1, h2, h3, hpost _ _ _ _ _ _ ⟨Cond.after_iff.mpr rfl, Cond.after_iff.mpr (eq_i res_at (Term.int_eval (1)) rfl), trivial⟩ ⟨hq.1, hq.2.1, (hq.2.2.sift fun y hy => Or.inr (N y hy)).mono (by decide) (by decide)⟩⟩
theorem main_1_1 : Claimed_1_1 := comes_1 fun _ _ _ _ _ _ h hF => ⟨h.1, hF⟩
theorem main_1_2 : Claimed_1_2 := comes_1 fun _ _ _ _ _ _ h hF => ⟨h.2.1, hF⟩
end Jvm.Pilot.@@N@@
namespace Jvm.Pilot.@@N@@
open Jvm Jvm.ClassFile Sem Op Lib Jvm.Free Jvm.Stand Jvm.Pilot.@@N@@.Jvm.D
/-! MADE BY PROGRAM (witnessworld.py) out of the Statement's table words and the real class files: 10 classes; the members and pool entries that the words name. The judged class is class 1, her method 4. -/
namespace start1
open Jvm.ClassFile
def u (s : String) : CpInfo := .utf8 (stringToUtf16 s)
/-- a pool by its gaps: so many unusable entries, then the entry; so many at the end -/
def gap : Nat → List CpInfo → List CpInfo
  | 0, r => r
  | n + 1, r => .unusable :: gap n r
def poolList (es : List (Nat × CpInfo)) (last : Nat) : List CpInfo := es.foldr (fun e r => gap e.1 (e.2 :: r)) (gap last [])
def pool (es : List (Nat × CpInfo)) (last : Nat) : Array CpInfo := ⟨poolList es last⟩
def fileOf (pool : Array CpInfo) (this : Nat) (attrs : Array Attribute := #[]) (ms : Array MethodInfo := #[]) (fl : Nat := 33) (sup : Nat := 0) (ifs : Array Nat := #[]) (fds : Array FieldInfo := #[]) : ClassFile where
  minorVersion := 0
  majorVersion := 65
  constantPool := pool
  accessFlags := fl
  thisClass := this
  superClass := sup
  interfaces := ifs
  fields := fds
  methods := ms
  attributes := attrs
def plain (name : String) (sup : Option ClassId) : Class where
  name := name
  kind := .ordinary
  loader := none
  accessFlags := 33
  super := sup
  interfaces := #[]
  cf := none
  fields := #[]
  methods := #[]
  instanceTypes := #[]
  staticTypes := #[]
  resolved := #[]
  callSites := []
  init := .initialized
  statics := none
  mirror := none

def pool0 : Array CpInfo := pool [(5, u "<init>"), (0, u "()V"), (1, .class_ 10), (1, u "java/lang/Object")] 113

def k0m0 : Method := { name := "<init>", desc := "()V", sig := { parameters := [], returnType := none }, accessFlags := 1, code := none }
/-- java/lang/Object -/
def k0 : Class := { plain "java/lang/Object" none with
  accessFlags := 33
  interfaces := #[]
  cf := some (fileOf pool0 8 #[] #[{ accessFlags := 1, nameIndex := 5, descriptorIndex := 6, attributes := #[] }] 33 0 #[] #[])
  fields := #[]
  methods := #[k0m0]
  instanceTypes := #[]
  staticTypes := #[]
  resolved := Array.replicate 124 none
  statics := none }

def pool1 : Array CpInfo := pool [(2, .class_ 4), (1, u "java/lang/Object"), (0, u "<init>"), (0, u "()V"), (0, .methodref 8 9), (0, .class_ 10), (0, .nameAndType 11 12), (0, u "com/example/ilsa/ilsa/io/LineFieldsRecordStartPinLaw"), (0, u "ws"), (0, u "(B)Z"), (0, .methodref 8 14), (0, .nameAndType 15 16), (0, u "pick"), (0, u "(I)B"), (0, .methodref 18 19), (0, .class_ 20), (0, .nameAndType 21 22), (0, u "java/lang/Math"), (0, u "min"), (0, u "(II)I"), (0, .methodref 18 24), (0, .nameAndType 25 22), (0, u "max"), (0, .methodref 8 27), (0, .nameAndType 28 29), (0, u "field"), (0, u "([BIII)Z"), (0, .methodref 31 32), (0, .class_ 33), (0, .nameAndType 34 35), (0, u "com/example/ilsa/ilsa/io/LineFields"), (0, u "recordStart"), (0, u "([BII)I"), (3, u "law"), (0, u "(IIIII)Z")] 4

def k1m0 : Method := { name := "<init>", desc := "()V", sig := { parameters := [], returnType := none }, accessFlags := 2, code := none }
def k1c1 : Code := { maxStack := 3, maxLocals := 3, code := method_2_code, exceptionTable := #[], attributes := #[] }
def k1m1 : Method := { name := "pick", desc := "(I)B", sig := { parameters := [.int], returnType := some .byte }, accessFlags := 10, code := some k1c1 }
def k1c2 : Code := { maxStack := 2, maxLocals := 2, code := method_3_code, exceptionTable := #[], attributes := #[] }
def k1m2 : Method := { name := "ws", desc := "(B)Z", sig := { parameters := [.byte], returnType := some .boolean }, accessFlags := 10, code := some k1c2 }
def k1c3 : Code := { maxStack := 2, maxLocals := 4, code := method_4_code, exceptionTable := #[], attributes := #[] }
def k1m3 : Method := { name := "field", desc := "([BIII)Z", sig := { parameters := [(.array .byte), .int, .int, .int], returnType := some .boolean }, accessFlags := 10, code := some k1c3 }
def k1c4 : Code := { maxStack := 4, maxLocals := 13, code := code, exceptionTable := #[], attributes := #[] }
def k1m4 : Method := { name := "law", desc := "(IIIII)Z", sig := { parameters := [.int, .int, .int, .int, .int], returnType := some .boolean }, accessFlags := 9, code := some k1c4 }
/-- com/example/ilsa/ilsa/io/LineFieldsRecordStartPinLaw -/
def k1 : Class := { plain "com/example/ilsa/ilsa/io/LineFieldsRecordStartPinLaw" (some 0) with
  accessFlags := 49
  interfaces := #[]
  cf := some (fileOf pool1 8 #[] #[{ accessFlags := 2, nameIndex := 5, descriptorIndex := 6, attributes := #[] }, { accessFlags := 10, nameIndex := 15, descriptorIndex := 16, attributes := #[] }, { accessFlags := 10, nameIndex := 11, descriptorIndex := 12, attributes := #[] }, { accessFlags := 10, nameIndex := 28, descriptorIndex := 29, attributes := #[] }, { accessFlags := 9, nameIndex := 39, descriptorIndex := 40, attributes := #[] }] 49 2 #[] #[])
  fields := #[]
  methods := #[k1m0, k1m1, k1m2, k1m3, k1m4]
  instanceTypes := #[]
  staticTypes := #[]
  resolved := Array.replicate 45 none
  statics := none }

def pool2 : Array CpInfo := pool [(1, .class_ 2), (0, u "java/lang/Math"), (1, .class_ 6), (1, u "java/lang/Object"), (0, u "<init>"), (0, u "()V"), (89, .class_ 100), (1, u "java/lang/Math$RandomNumberGeneratorHolder"), (71, u "negativeZeroFloatBits"), (0, u "J"), (2, u "negativeZeroDoubleBits"), (21, u "max"), (2, u "min"), (43, u "$assertionsDisabled"), (0, u "Z"), (88, u "(II)I"), (2, u "twoToTheDoubleScaleDown"), (0, u "D"), (4, u "twoToTheDoubleScaleUp"), (9, u "E"), (3, u "PI"), (2, u "TAU"), (2, u "DEGREES_TO_RADIANS"), (0, u "RADIANS_TO_DEGREES")] 94

def k2m0 : Method := { name := "<init>", desc := "()V", sig := { parameters := [], returnType := none }, accessFlags := 2, code := none }
def k2c1 : Code := { maxStack := 2, maxLocals := 2, code := jdk_29_method_65_code, exceptionTable := #[], attributes := #[] }
def k2m1 : Method := { name := "max", desc := "(II)I", sig := { parameters := [.int, .int], returnType := some .int }, accessFlags := 9, code := some k2c1 }
def k2c2 : Code := { maxStack := 2, maxLocals := 2, code := jdk_29_method_69_code, exceptionTable := #[], attributes := #[] }
def k2m2 : Method := { name := "min", desc := "(II)I", sig := { parameters := [.int, .int], returnType := some .int }, accessFlags := 9, code := some k2c2 }
/-- java/lang/Math -/
def k2 : Class := { plain "java/lang/Math" (some 0) with
  accessFlags := 49
  interfaces := #[]
  cf := some (fileOf pool2 1 #[.nestMembers #[98]] #[{ accessFlags := 2, nameIndex := 7, descriptorIndex := 8, attributes := #[] }, { accessFlags := 9, nameIndex := 198, descriptorIndex := 335, attributes := #[] }, { accessFlags := 9, nameIndex := 201, descriptorIndex := 335, attributes := #[] }] 49 4 #[] #[{ accessFlags := 25, nameIndex := 354, descriptorIndex := 339, attributes := #[] }, { accessFlags := 25, nameIndex := 358, descriptorIndex := 339, attributes := #[] }, { accessFlags := 25, nameIndex := 361, descriptorIndex := 339, attributes := #[] }, { accessFlags := 26, nameIndex := 364, descriptorIndex := 339, attributes := #[] }, { accessFlags := 26, nameIndex := 365, descriptorIndex := 339, attributes := #[] }, { accessFlags := 26, nameIndex := 172, descriptorIndex := 173, attributes := #[] }, { accessFlags := 26, nameIndex := 176, descriptorIndex := 173, attributes := #[] }, { accessFlags := 8, nameIndex := 344, descriptorIndex := 339, attributes := #[] }, { accessFlags := 8, nameIndex := 338, descriptorIndex := 339, attributes := #[] }, { accessFlags := 4120, nameIndex := 245, descriptorIndex := 246, attributes := #[] }])
  fields := #[{ name := "E", type := .double, accessFlags := 25, slot := 0, constantValue := 0 }, { name := "PI", type := .double, accessFlags := 25, slot := 1, constantValue := 0 }, { name := "TAU", type := .double, accessFlags := 25, slot := 2, constantValue := 0 }, { name := "DEGREES_TO_RADIANS", type := .double, accessFlags := 26, slot := 3, constantValue := 0 }, { name := "RADIANS_TO_DEGREES", type := .double, accessFlags := 26, slot := 4, constantValue := 0 }, { name := "negativeZeroFloatBits", type := .long, accessFlags := 26, slot := 5, constantValue := 0 }, { name := "negativeZeroDoubleBits", type := .long, accessFlags := 26, slot := 6, constantValue := 0 }, { name := "twoToTheDoubleScaleUp", type := .double, accessFlags := 8, slot := 7, constantValue := 0 }, { name := "twoToTheDoubleScaleDown", type := .double, accessFlags := 8, slot := 8, constantValue := 0 }, { name := "$assertionsDisabled", type := .boolean, accessFlags := 4120, slot := 9, constantValue := 0 }]
  methods := #[k2m0, k2m1, k2m2]
  instanceTypes := #[]
  staticTypes := #[.double, .double, .double, .double, .double, .long, .long, .double, .double, .boolean]
  resolved := Array.replicate 460 none
  statics := none }

def pool3 : Array CpInfo := pool [(2, .class_ 4), (1, u "java/lang/Object"), (0, u "<init>"), (0, u "()V"), (0, .methodref 8 9), (0, .class_ 10), (0, .nameAndType 11 12), (0, u "com/example/ilsa/ilsa/io/LineFields"), (0, u "fieldStart"), (0, u "([BII)I"), (0, .methodref 8 14), (0, .nameAndType 15 16), (0, u "isWhitespace"), (0, u "(B)Z"), (13, u "recordStart")] 6

def k3m0 : Method := { name := "<init>", desc := "()V", sig := { parameters := [], returnType := none }, accessFlags := 2, code := none }
def k3c1 : Code := { maxStack := 3, maxLocals := 5, code := prog_5_method_2_code, exceptionTable := #[], attributes := #[] }
def k3m1 : Method := { name := "recordStart", desc := "([BII)I", sig := { parameters := [(.array .byte), .int, .int], returnType := some .int }, accessFlags := 8, code := some k3c1 }
def k3c2 : Code := { maxStack := 2, maxLocals := 4, code := prog_5_method_3_code, exceptionTable := #[], attributes := #[] }
def k3m2 : Method := { name := "fieldStart", desc := "([BII)I", sig := { parameters := [(.array .byte), .int, .int], returnType := some .int }, accessFlags := 8, code := some k3c2 }
def k3c3 : Code := { maxStack := 2, maxLocals := 1, code := prog_5_method_6_code, exceptionTable := #[], attributes := #[] }
def k3m3 : Method := { name := "isWhitespace", desc := "(B)Z", sig := { parameters := [.byte], returnType := some .boolean }, accessFlags := 10, code := some k3c3 }
/-- com/example/ilsa/ilsa/io/LineFields -/
def k3 : Class := { plain "com/example/ilsa/ilsa/io/LineFields" (some 0) with
  accessFlags := 48
  interfaces := #[]
  cf := some (fileOf pool3 8 #[] #[{ accessFlags := 2, nameIndex := 5, descriptorIndex := 6, attributes := #[] }, { accessFlags := 8, nameIndex := 30, descriptorIndex := 12, attributes := #[] }, { accessFlags := 8, nameIndex := 11, descriptorIndex := 12, attributes := #[] }, { accessFlags := 10, nameIndex := 15, descriptorIndex := 16, attributes := #[] }] 48 2 #[] #[])
  fields := #[]
  methods := #[k3m0, k3m1, k3m2, k3m3]
  instanceTypes := #[]
  staticTypes := #[]
  resolved := Array.replicate 37 none
  statics := none }

def pool4 : Array CpInfo := pool [(1, u "java/lang/Cloneable"), (0, .class_ 1), (0, u "java/lang/Object"), (0, .class_ 3)] 3

/-- java/lang/Cloneable -/
def k4 : Class := { plain "java/lang/Cloneable" (some 0) with
  accessFlags := 1537
  interfaces := #[]
  cf := some (fileOf pool4 2 #[] #[] 1537 4 #[] #[])
  fields := #[]
  methods := #[]
  instanceTypes := #[]
  staticTypes := #[]
  resolved := Array.replicate 8 none
  statics := none }

def pool5 : Array CpInfo := pool [(1, u "java/io/Serializable"), (0, .class_ 1), (0, u "java/lang/Object"), (0, .class_ 3)] 3

/-- java/io/Serializable -/
def k5 : Class := { plain "java/io/Serializable" (some 0) with
  accessFlags := 1537
  interfaces := #[]
  cf := some (fileOf pool5 2 #[] #[] 1537 4 #[] #[])
  fields := #[]
  methods := #[]
  instanceTypes := #[]
  staticTypes := #[]
  resolved := Array.replicate 8 none
  statics := none }

/-- the primitive byte -/
def k6 : Class := { plain "byte" none with kind := .primitive 'B', accessFlags := 0x411 }
/-- [B -/
def k7 : Class := { plain "[B" (some 0) with kind := .array 6 .byte, interfaces := #[4, 5], accessFlags := 1041 }

/-- the primitive int -/
def k8 : Class := { plain "int" none with kind := .primitive 'I', accessFlags := 0x411 }
/-- [I -/
def k9 : Class := { plain "[I" (some 0) with kind := .array 8 .int, interfaces := #[4, 5], accessFlags := 1041 }

def heap : Heap := #[]
def classes : Array Class := #[k0, k1, k2, k3, k4, k5, k6, k7, k8, k9]
def interned : List (Array UInt16 × Addr) := []
def slotsUsed : Nat := 0
def theMethod : MethodId := ⟨1, 4⟩
def args0 : Array Value := #[.int 5, .int 32, .int 0, .int (-7), .int 12345]
def aboutOver (below : List Frame) : State where
  vm := { classes := classes, interned := interned.toArray }
  heap := heap
  slotsUsed := slotsUsed
  threads := #[{ frames := .invoking theMethod args0 :: below }]
def below0 : List Frame := [.native { method := ⟨0, 0⟩, args := #[] }]
def about1 : State := aboutOver below0
def p0 : Program := .bare "" "" ""
def e0 : Env := launch0.env 0 0 0
theorem w_frames : about1.frames = Frame.invoking theMethod args0 :: below0 := rfl
set_option maxRecDepth 65536 in
theorem w_args : argsFit about1.vm theMethod args0 = true := by decide +kernel
set_option maxRecDepth 65536 in
theorem w_heap : heapFits about1 = true := by decide +kernel
set_option maxRecDepth 65536 in
theorem w_runnable : about1.curStatus? = some .runnable := by decide +kernel
set_option maxRecDepth 65536 in
theorem w_alone : about1.alone = true := by decide +kernel
set_option maxRecDepth 65536 in
theorem w_named : about1.methodNamed? x = some theMethod := by decide +kernel
set_option maxRecDepth 65536 in
theorem w_hears : about1.hears theMethod below0 = true := by decide +kernel
set_option maxRecDepth 65536 in
theorem w_ripe : about1.ripe theMethod args0 below0 = true := by decide +kernel
theorem w_running : about1.status = .running := rfl
set_option maxRecDepth 65536 in
theorem w_room : about1.hasRoom e0.platform room_1 = true :=
  launch0.hasRoom_least _ room_1 (by decide +kernel) (by decide +kernel) (by decide +kernel) (by decide +kernel) (by decide +kernel) (by decide +kernel)
theorem allAtoms_all (ts : List Jvm.Cond) (a : Array Jvm.Value) (st : Jvm.State) : (allAtoms ts).before a st = ts.all (fun c => c.before a st) := by
  induction ts with
  | nil => rfl
  | cons c t ih =>
    show (Jvm.Cond.and c (allAtoms t)).before a st = _
    rw [Jvm.Cond.before_and, ih, List.all_cons]
def words1 : List Jvm.Cond := Jvm.Cond.code x code maxLocals ret :: tables_1
/-- a 'code' word, met by the world's own term for the bytes: nothing is compared byte by byte -/
theorem code_word {y : MethodName} {bytes : ByteArray} {mx : Nat} {rt : Option FieldType} {a : Array Value} {s : State} {m : MethodId} {meth : Method} {c : Code} (h1 : s.methodNamed? y = some m) (h2 : s.vm.method? m = some meth) (h3 : meth.code = some c) (h4 : c.code = bytes)
    (h5 : (c.maxLocals == mx && c.exceptionTable.isEmpty && decide (c.maxStack ≤ mostOperands) && decide (meth.sig.returnType = rt) && !meth.locks && decide (parseMethodDescriptor y.desc = some meth.sig)) = true) : (Jvm.Cond.code y bytes mx rt).before a s = true := by
  simp only [Bool.and_eq_true, beq_iff_eq, Bool.not_eq_true', decide_eq_true_eq] at h5
  obtain ⟨⟨⟨⟨⟨g1, g2⟩, g3⟩, g4⟩, g5⟩, g6⟩ := h5
  simp [Cond.before, Cond.holds, Cond.value, h1, h2, h3, h4, g1, g2, g3, g4, g5, g6]
def isCode : Jvm.Cond → Bool
  | .code _ _ _ _ => true
  | _ => false
theorem all_split {L : List Jvm.Cond} {P : Jvm.Cond → Bool} (h1 : L.all (fun c => isCode c || P c) = true) (h2 : ∀ c ∈ L.filter isCode, P c = true) : L.all P = true := by
  refine List.all_eq_true.mpr fun c hc => ?_
  have h := List.all_eq_true.mp h1 c hc
  rcases Bool.eq_false_or_eq_true (isCode c) with hi | hi
  · exact h2 c (List.mem_filter.mpr ⟨hc, hi⟩)
  · simpa [hi] using h
set_option maxRecDepth 65536 in
theorem w_c0 : (Jvm.Cond.code x code maxLocals ret).before args0 about1 = true := code_word (m := ⟨1, 4⟩) (meth := k1m4) (c := k1c4) (by decide +kernel) rfl rfl rfl (by decide +kernel)
set_option maxRecDepth 65536 in
theorem w_c1 : (Jvm.Cond.code ({ cls := "com/example/ilsa/ilsa/io/LineFieldsRecordStartPinLaw", name := "pick", desc := "(I)B" } : Jvm.MethodName) method_2_code (3 : Nat) (Option.some Jvm.ClassFile.FieldType.byte)).before args0 about1 = true := code_word (m := ⟨1, 1⟩) (meth := k1m1) (c := k1c1) (by decide +kernel) rfl rfl rfl (by decide +kernel)
set_option maxRecDepth 65536 in
theorem w_c2 : (Jvm.Cond.code ({ cls := "java/lang/Math", name := "min", desc := "(II)I" } : Jvm.MethodName) jdk_29_method_69_code (2 : Nat) (Option.some Jvm.ClassFile.FieldType.int)).before args0 about1 = true := code_word (m := ⟨2, 2⟩) (meth := k2m2) (c := k2c2) (by decide +kernel) rfl rfl rfl (by decide +kernel)
set_option maxRecDepth 65536 in
theorem w_c3 : (Jvm.Cond.code ({ cls := "java/lang/Math", name := "max", desc := "(II)I" } : Jvm.MethodName) jdk_29_method_65_code (2 : Nat) (Option.some Jvm.ClassFile.FieldType.int)).before args0 about1 = true := code_word (m := ⟨2, 1⟩) (meth := k2m1) (c := k2c1) (by decide +kernel) rfl rfl rfl (by decide +kernel)
set_option maxRecDepth 65536 in
theorem w_c4 : (Jvm.Cond.code ({ cls := "com/example/ilsa/ilsa/io/LineFieldsRecordStartPinLaw", name := "field", desc := "([BIII)Z" } : Jvm.MethodName) method_4_code (4 : Nat) (Option.some Jvm.ClassFile.FieldType.boolean)).before args0 about1 = true := code_word (m := ⟨1, 3⟩) (meth := k1m3) (c := k1c3) (by decide +kernel) rfl rfl rfl (by decide +kernel)
set_option maxRecDepth 65536 in
theorem w_c5 : (Jvm.Cond.code ({ cls := "com/example/ilsa/ilsa/io/LineFields", name := "recordStart", desc := "([BII)I" } : Jvm.MethodName) prog_5_method_2_code (5 : Nat) (Option.some Jvm.ClassFile.FieldType.int)).before args0 about1 = true := code_word (m := ⟨3, 1⟩) (meth := k3m1) (c := k3c1) (by decide +kernel) rfl rfl rfl (by decide +kernel)
set_option maxRecDepth 65536 in
theorem w_c6 : (Jvm.Cond.code ({ cls := "com/example/ilsa/ilsa/io/LineFields", name := "fieldStart", desc := "([BII)I" } : Jvm.MethodName) prog_5_method_3_code (4 : Nat) (Option.some Jvm.ClassFile.FieldType.int)).before args0 about1 = true := code_word (m := ⟨3, 2⟩) (meth := k3m2) (c := k3c2) (by decide +kernel) rfl rfl rfl (by decide +kernel)
set_option maxRecDepth 65536 in
theorem w_c7 : (Jvm.Cond.code ({ cls := "com/example/ilsa/ilsa/io/LineFieldsRecordStartPinLaw", name := "ws", desc := "(B)Z" } : Jvm.MethodName) method_3_code (2 : Nat) (Option.some Jvm.ClassFile.FieldType.boolean)).before args0 about1 = true := code_word (m := ⟨1, 2⟩) (meth := k1m2) (c := k1c2) (by decide +kernel) rfl rfl rfl (by decide +kernel)
set_option maxRecDepth 65536 in
theorem w_c8 : (Jvm.Cond.code ({ cls := "com/example/ilsa/ilsa/io/LineFields", name := "isWhitespace", desc := "(B)Z" } : Jvm.MethodName) prog_5_method_6_code (1 : Nat) (Option.some Jvm.ClassFile.FieldType.boolean)).before args0 about1 = true := code_word (m := ⟨3, 3⟩) (meth := k3m3) (c := k3c3) (by decide +kernel) rfl rfl rfl (by decide +kernel)
def codes1 : List Jvm.Cond := [Jvm.Cond.code x code maxLocals ret, Jvm.Cond.code ({ cls := "com/example/ilsa/ilsa/io/LineFieldsRecordStartPinLaw", name := "pick", desc := "(I)B" } : Jvm.MethodName) method_2_code (3 : Nat) (Option.some Jvm.ClassFile.FieldType.byte), Jvm.Cond.code ({ cls := "java/lang/Math", name := "min", desc := "(II)I" } : Jvm.MethodName) jdk_29_method_69_code (2 : Nat) (Option.some Jvm.ClassFile.FieldType.int), Jvm.Cond.code ({ cls := "java/lang/Math", name := "max", desc := "(II)I" } : Jvm.MethodName) jdk_29_method_65_code (2 : Nat) (Option.some Jvm.ClassFile.FieldType.int), Jvm.Cond.code ({ cls := "com/example/ilsa/ilsa/io/LineFieldsRecordStartPinLaw", name := "field", desc := "([BIII)Z" } : Jvm.MethodName) method_4_code (4 : Nat) (Option.some Jvm.ClassFile.FieldType.boolean), Jvm.Cond.code ({ cls := "com/example/ilsa/ilsa/io/LineFields", name := "recordStart", desc := "([BII)I" } : Jvm.MethodName) prog_5_method_2_code (5 : Nat) (Option.some Jvm.ClassFile.FieldType.int), Jvm.Cond.code ({ cls := "com/example/ilsa/ilsa/io/LineFields", name := "fieldStart", desc := "([BII)I" } : Jvm.MethodName) prog_5_method_3_code (4 : Nat) (Option.some Jvm.ClassFile.FieldType.int), Jvm.Cond.code ({ cls := "com/example/ilsa/ilsa/io/LineFieldsRecordStartPinLaw", name := "ws", desc := "(B)Z" } : Jvm.MethodName) method_3_code (2 : Nat) (Option.some Jvm.ClassFile.FieldType.boolean), Jvm.Cond.code ({ cls := "com/example/ilsa/ilsa/io/LineFields", name := "isWhitespace", desc := "(B)Z" } : Jvm.MethodName) prog_5_method_6_code (1 : Nat) (Option.some Jvm.ClassFile.FieldType.boolean)]
set_option maxRecDepth 65536 in
theorem codes_eq : words1.filter isCode = codes1 := rfl
theorem w_codes : ∀ c ∈ words1.filter isCode, c.before args0 about1 = true := by
  rw [codes_eq]
  intro c hc
  simp only [codes1, List.mem_cons, List.not_mem_nil, or_false] at hc
  rcases hc with rfl | rfl | rfl | rfl | rfl | rfl | rfl | rfl | rfl
  · exact w_c0
  · exact w_c1
  · exact w_c2
  · exact w_c3
  · exact w_c4
  · exact w_c5
  · exact w_c6
  · exact w_c7
  · exact w_c8
set_option maxRecDepth 65536 in
theorem w_t1 : (words1.take 24).all (fun c => isCode c || c.before args0 about1) = true := by decide +kernel
set_option maxRecDepth 65536 in
theorem w_t2 : (words1.drop 24).all (fun c => isCode c || c.before args0 about1) = true := by decide +kernel
theorem w_tables : (allAtoms (Jvm.Cond.code x code maxLocals ret :: tables_1)).before args0 about1 = true := by
  rw [allAtoms_all]
  show words1.all (fun c => c.before args0 about1) = true
  refine all_split ?_ w_codes
  rw [← List.take_append_drop 24 words1, List.all_append, w_t1, w_t2]
  rfl
set_option maxRecDepth 65536 in
theorem w_case : (Jvm.Cond.and given_1 narrow_1).before args0 about1 = true := by decide +kernel
theorem w_applies : (headSpec (Jvm.Cond.code x code maxLocals ret :: tables_1) room_1).applies x e0.platform about1 = true :=
  (Spec.applies_iff w_frames).mpr ⟨w_running, w_runnable, w_alone, w_named, w_hears, w_ripe, w_room, w_tables⟩
theorem atStart : AtStart classFile x code maxLocals ret World_1 tables_1 room_1 Calls_1 rest_1 Pre_1 launch0 p0 e0 about1 theMethod args0 below0 :=
  ⟨lists_1, trivial, launch0.admits_env _ _ _, launch0.least_env, fairChoices_fair.cas, fairChoices_fair.clock, w_frames, w_args, w_heap, w_applies, trivial, trivial, w_case⟩
end start1
theorem witness_1 : WitnessClaimed_1 := ⟨start1.p0, start1.e0, start1.about1, start1.theMethod, start1.args0, start1.below0, start1.atStart⟩
end Jvm.Pilot.@@N@@
